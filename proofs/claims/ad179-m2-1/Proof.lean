import JvmDerived
import JvmDerived.Pilot.@@N@@Statement
import JvmDerived.Pilot.@@N@@Code
set_option linter.unusedVariables false
set_option linter.unusedSimpArgs false
namespace Jvm.OwnW
open Sem ClassFile Op Lib Jvm.Free Jvm.Stand Jvm.LawKit Jvm.RoadKit
/-- what stays the same all through one invocation -/
abbrev Ctx : Type := Program × Env × State × MethodId × Array Value × List Frame × Method × Code
abbrev Ctx.p (C : Ctx) : Program := C.1
abbrev Ctx.e (C : Ctx) : Env := C.2.1
abbrev Ctx.s (C : Ctx) : State := C.2.2.1
abbrev Ctx.m (C : Ctx) : MethodId := C.2.2.2.1
abbrev Ctx.args (C : Ctx) : Array Value := C.2.2.2.2.1
abbrev Ctx.below (C : Ctx) : List Frame := C.2.2.2.2.2.1
abbrev Ctx.meth (C : Ctx) : Method := C.2.2.2.2.2.2.1
abbrev Ctx.c (C : Ctx) : Code := C.2.2.2.2.2.2.2
/-- each place of the list lies in a cell of ws, or in one made since -/
def Wok (b : Nat) (ws : List Addr) (L : List Loc) : Prop := ∀ y ∈ L, y.base ∈ ws ∨ b ≤ y.base
theorem Wok.nil (b : Nat) (ws : List Addr) : Wok b ws [] := fun _ q => nomatch q
theorem Wok.app {b : Nat} {ws : List Addr} {L L' : List Loc} (N : Wok b ws L) (N' : Wok b ws L') : Wok b ws (L ++ L') := fun y q => (List.mem_append.mp q).elim (N y) (N' y)
theorem Wok.snoc {b : Nat} {ws : List Addr} {L : List Loc} {a : Addr} {sl : Nat} (N : Wok b ws L) (q : a ∈ ws ∨ b ≤ a) : Wok b ws (L ++ [⟨a, sl⟩]) := N.app fun y hy => by cases List.mem_singleton.mp hy; exact q
theorem keep_of_same {s t : State} {L : List Loc} {ws : List Addr} {k n : Nat} (h : s.sameButNew t L k n) (N : Wok s.heap.size ws L) : Keep s.heap t.heap ws := by
  obtain ⟨-, h2, -, -, -, h6⟩ := h
  refine ⟨h2, fun x c hx hn => ?_, fun x c hx => ?_⟩
  · obtain ⟨c', q1, q2, q3, q4⟩ := h6 x c hx
    have hlt := (Array.getElem?_eq_some_iff.mp hx).1
    have : c'.slots = c.slots := Array.ext_getElem? fun i => q4 i fun hm => (N _ hm).elim hn fun z => absurd hlt (Nat.not_lt.mpr z)
    rw [q1, q2, this]
  · obtain ⟨c', q1, q2, q3, q4⟩ := h6 x c hx
    exact ⟨c', q1, by rw [q2], by rw [q2], q3⟩
theorem eq_of_same {s t : State} {L : List Loc} {n : Nat} (h : s.sameButNew t L 0 n) (N : Wok s.heap.size [] L) : t.heap = s.heap := by
  have K := keep_of_same h N
  obtain ⟨-, h2, h3, -⟩ := h
  refine Array.ext_getElem? fun i => ?_
  cases hi : s.heap[i]? with
  | some c => exact K.2.1 i c hi (fun q => nomatch q)
  | none =>
    rw [Array.getElem?_eq_none_iff] at hi ⊢
    omega
/-- where the run stands: the invocation's state T with heap h; of what is older than the invocation only ws has been written -/
def On (l : Launch) (Z : State) (ws : List Addr) (R : Room) (own nm : String) (bytes : ByteArray) (maxL : Nat) (ret : Option FieldType) (C : Ctx) (T : State) (h : Heap) (cells slots : Nat) : Prop :=
  (C.p.tables.exec = Jvm.exec ∧ Z.Warmed39 C.s.vm ∧ C.c.code = bytes ∧ C.c.maxLocals = maxL ∧ C.s.vm.findClass own = some C.m.cls ∧ C.meth.name = nm ∧ C.meth.sig.returnType = ret ∧ C.meth.locks = false) ∧
  (∃ locs, Stand C.p l C.e R C.s C.m C.args C.below C.meth C.c T locs cells slots ∧ Wok C.s.heap.size ws locs) ∧ T.heap = h
def Post (ws : List Addr) (rc : Nat) (h0 : Heap) (Q : Option Value → Heap → Prop) (v : Option Value) (h : Heap) (L : List Loc) : Prop := Wok h0.size ws L ∧ Keep h0 h ws ∧ (rc = 0 → ws = [] → h = h0) ∧ Q v h
/-- from the state A the invocation comes to its end, with Q of what it returns and of the heap it leaves -/
def Go (C : Ctx) (ws : List Addr) (Q : Option Value → Heap → Prop) (k n : Nat) (A : State) : Prop :=
  ∃ U o, Steps C.p.tables C.e C.below A U ∧ U.status = .running ∧ Ended U C.below o ∧ ∃ v L, o = .returned v ∧ Post ws k C.s.heap Q v U.heap L ∧ FrameEnd C.s o U L k n
def Met (l : Launch) (Z : State) (y : MethodName) (bytes : ByteArray) (maxL : Nat) (ret : Option FieldType) (wds : List Cond) (rm : Room) (as' : Array Value) (ws : List Addr) (h0 : Heap) (Q : Option Value → Heap → Prop) : Prop :=
  MetFree l y (head1 (Cond.code y bytes maxL ret :: wds) rm) (fun a U => a = as' ∧ Z.Warmed39 U.vm ∧ U.heap = h0) (fun _ _ _ _ _ => True) (fun _ U o U' => ∃ v L, o = .returned v ∧ Post ws rm.cells h0 Q v U'.heap L ∧ FrameEnd U o U' L rm.cells rm.slots)
theorem Met.mk {l : Launch} {Z : State} {y : MethodName} {bytes : ByteArray} {maxL : Nat} {ret : Option FieldType} {wds : List Cond} {rm : Room} {as' : Array Value} {ws : List Addr} {h0 : Heap} {Q : Option Value → Heap → Prop} {Ls : Array Slot}
    (hp : plainFor y = true) (ef : ∀ m, entryFrame m as' maxL = mkF m 0 Ls [])
    (H : ∀ (C : Ctx) (T : State), C.s.heap = h0 → On l Z ws rm y.cls y.name bytes maxL ret C T h0 0 0 → Go C ws Q rm.cells rm.slots (T.setTop (mkF C.m 0 Ls []))) : Met l Z y bytes maxL ret wds rm as' ws h0 Q := by
  refine MetFree.of_bodySF hp hisR ?_
  intro p e s m args below meth c s₁ Bd hml0 hP hK
  obtain ⟨rfl, hZ, hh⟩ := hP
  have e0 : s₁.heap = h0 := by rw [← hh, Bd.state]; rfl
  have := H (p, e, s, m, args, below, meth, c) s₁ hh ⟨⟨Bd.exec, hZ, Bd.bytes, hml0, findClass_of_methodNamed Bd.named, (name_of_methodNamed Bd.named Bd.method).1, Bd.returns, Bd.notSynchronized⟩, ⟨[], Stand.of_body Bd, Wok.nil _ _⟩, e0⟩
  obtain ⟨U, o, h1, h2, h3, v, L, h4, h5, h6⟩ := this
  refine ⟨U, o, castTop (ef m) h1, h2, h3, v, L, h4, ?_, h6⟩
  rw [← hh]; exact h5
theorem Go.of {C : Ctx} {ws : List Addr} {Q : Option Value → Heap → Prop} {k n : Nat} {A B : State} (g : Go C ws Q k n B) (h : ∀ t, Steps C.p.tables C.e C.below B t → Steps C.p.tables C.e C.below A t) : Go C ws Q k n A := by
  obtain ⟨U, o, h1, r⟩ := g; exact ⟨U, o, h _ h1, r⟩
theorem Go.via {C : Ctx} {ws : List Addr} {Q : Option Value → Heap → Prop} {k n : Nat} {A B : State} (g : Go C ws Q k n B) (h : Steps C.p.tables C.e C.below A B) : Go C ws Q k n A := by
  obtain ⟨U, o, h1, r⟩ := g; exact ⟨U, o, h.trans h1, r⟩
section Steps
variable {l : Launch} {Z : State} {a0 : Array Value} {ws : List Addr} {R : Room} {own nm : String} {bytes : ByteArray} {maxL : Nat} {ret : Option FieldType} {C : Ctx} {T : State} {h : Heap} {cells slots k n : Nat} {Q : Option Value → Heap → Prop} {pc q : Nat} {Ls L' : Array Slot} {st : List Value}
theorem On.size (O : On l Z ws R own nm bytes maxL ret C T h cells slots) : C.s.heap.size ≤ h.size := by
  obtain ⟨-, ⟨_, X, -⟩, rfl⟩ := O; exact X.same.2.1
theorem On.kept (O : On l Z ws R own nm bytes maxL ret C T h cells slots) : Keep C.s.heap h ws := by
  obtain ⟨-, ⟨_, X, N⟩, rfl⟩ := O; exact keep_of_same (t := T.setVm C.s.vm) X.same N
theorem fin (O : On l Z ws R own nm bytes maxL ret C T h cells slots) {v : Option Value} (hv : ret = none → v = none) (hk : cells ≤ k) (hn : slots ≤ n) (hQ : Q v h)
    (stp : ∀ X : State, ∀ fs, (∀ (f : JFrame) (acts : List Action), f.method = C.m → f.locked = none → f.entered = [] → (doReturn C.e (T.setTop f) acts v).1 = T.setFrames fs) → X = T.setFrames fs → Steps C.p.tables C.e C.below (T.setTop (mkF C.m pc Ls st)) X) : Go C ws Q k n (T.setTop (mkF C.m pc Ls st)) := by
  obtain ⟨⟨hx, hZ, -, -, -, -, hret, hlk⟩, ⟨L, X, N⟩, eT⟩ := O
  obtain ⟨fs, hr, hrun, hended, hW, hsame⟩ := X.leave (v := v) (fun q => hv (hret ▸ q)) hlk
  refine ⟨_, _, stp _ fs hr rfl, hrun, hended, v, L, rfl, ⟨N, ?_, ?_, ?_⟩, ⟨_, rfl⟩, hW, hsame.mono hk hn⟩
  · exact keep_of_same (t := T.setVm C.s.vm) X.same N
  · rintro rfl rfl
    exact eq_of_same (t := T.setVm C.s.vm) (X.same.mono hk (Nat.le_refl _)) N
  · show Q v T.heap; rw [eT]; exact hQ
theorem ret0 (O : On l Z ws R own nm bytes maxL none C T h cells slots) (hd : decode bytes pc = .ok (.return_, 1)) (hk : cells ≤ k) (hn : slots ≤ n) (hQ : Q none h) : Go C ws Q k n (T.setTop (mkF C.m pc Ls [])) := by
  refine fin O (fun _ => rfl) hk hn hQ ?_
  obtain ⟨⟨hx, hZ, rfl, -, -, -, hret, hlk⟩, ⟨L, X, N⟩, eT⟩ := O
  rintro _ fs hr rfl
  exact X.returnOut hx hret hd hr
theorem retV {t : FieldType} {w w' : Value} {i : Instr} {rest : List Value} (O : On l Z ws R own nm bytes maxL (some t) C T h cells slots) (hd : decode bytes pc = .ok (i, 1)) (hw : w' = w) (hnw : narrow t w = w)
    (hi : (i = .ireturn ∧ (t = .int ∨ t = .boolean ∨ t = .byte ∨ t = .char ∨ t = .short) ∧ ∃ z, w = .int z) ∨ (i = .lreturn ∧ t = .long ∧ ∃ z, w = .long z) ∨ (i = .dreturn ∧ t = .double ∧ ∃ z, w = .double z) ∨ (i = .freturn ∧ t = .float ∧ ∃ z, w = .float z) ∨ (i = .areturn ∧ t.isReference = true ∧ w.isRef = true))
    (hk : cells ≤ k) (hn : slots ≤ n) (hQ : Q (some w) h) : Go C ws Q k n (T.setTop (mkF C.m pc Ls (w' :: rest))) := by
  subst hw
  refine fin O (fun q => nomatch q) hk hn hQ ?_
  obtain ⟨⟨hx, hZ, rfl, -, -, -, hret, hlk⟩, ⟨L, X, N⟩, eT⟩ := O
  rintro _ fs hr rfl
  exact retOut X hx hret hnw hi hd hr
theorem retI {z z' : Int32} {rest : List Value} (O : On l Z ws R own nm bytes maxL (some .int) C T h cells slots) (hd : decode bytes pc = .ok (.ireturn, 1)) (hz : z = z') (hk : cells ≤ k) (hn : slots ≤ n) (hQ : Q (some (.int z')) h) : Go C ws Q k n (T.setTop (mkF C.m pc Ls (.int z :: rest))) :=
  retV O hd (congrArg Value.int hz) rfl (Or.inl ⟨rfl, Or.inl rfl, _, rfl⟩) hk hn hQ
theorem retB {z z' : Int32} {rest : List Value} (O : On l Z ws R own nm bytes maxL (some .boolean) C T h cells slots) (hd : decode bytes pc = .ok (.ireturn, 1)) (hz : z = z') (h01 : z' = 0 ∨ z' = 1) (hk : cells ≤ k) (hn : slots ≤ n) (hQ : Q (some (.int z')) h) : Go C ws Q k n (T.setTop (mkF C.m pc Ls (.int z :: rest))) :=
  retV O hd (congrArg Value.int hz) (by rcases h01 with rfl | rfl <;> rfl) (Or.inl ⟨rfl, Or.inr (Or.inl rfl), _, rfl⟩) hk hn hQ
theorem retY {z z' : Int32} {rest : List Value} (O : On l Z ws R own nm bytes maxL (some .byte) C T h cells slots) (hd : decode bytes pc = .ok (.ireturn, 1)) (hz : z = z') (hb : z'.toInt8.toInt32 = z') (hk : cells ≤ k) (hn : slots ≤ n) (hQ : Q (some (.int z')) h) : Go C ws Q k n (T.setTop (mkF C.m pc Ls (.int z :: rest))) :=
  retV O hd (congrArg Value.int hz) (congrArg Value.int hb) (Or.inl ⟨rfl, Or.inr (Or.inr (Or.inl rfl)), _, rfl⟩) hk hn hQ
theorem retL {z z' : Int64} {rest : List Value} (O : On l Z ws R own nm bytes maxL (some .long) C T h cells slots) (hd : decode bytes pc = .ok (.lreturn, 1)) (hz : z = z') (hk : cells ≤ k) (hn : slots ≤ n) (hQ : Q (some (.long z')) h) : Go C ws Q k n (T.setTop (mkF C.m pc Ls (.long z :: rest))) :=
  retV O hd (congrArg Value.long hz) rfl (Or.inr (Or.inl ⟨rfl, rfl, _, rfl⟩)) hk hn hQ
theorem retA {t : FieldType} {w : Value} {rest : List Value} (O : On l Z ws R own nm bytes maxL (some t) C T h cells slots) (hd : decode bytes pc = .ok (.areturn, 1)) (ht : t.isReference = true) (hw : w.isRef = true) (hnw : narrow t w = w) (hk : cells ≤ k) (hn : slots ≤ n) (hQ : Q (some w) h) : Go C ws Q k n (T.setTop (mkF C.m pc Ls (w :: rest))) :=
  retV O hd rfl hnw (Or.inr (Or.inr (Or.inr (Or.inr ⟨rfl, ht, hw⟩)))) hk hn hQ
theorem iload (O : On l Z ws R own nm bytes maxL ret C T h cells slots) {i : Nat} {v : Int32} (hd : decode bytes pc = .ok (.iload i, 2)) (hl : Ls[i]? = some (.val (.int v))) (hq : pc + 2 = q)
    (K : Go C ws Q k n (T.setTop (mkF C.m q Ls (.int v :: st)))) : Go C ws Q k n (T.setTop (mkF C.m pc Ls (st))) := by
  obtain ⟨⟨hx, -, rfl, -⟩, ⟨_, X, -⟩, -⟩ := O; subst hq
  exact K.of fun _ kk => XS.iload X.here hx rfl hd hl kk
theorem iloadN (O : On l Z ws R own nm bytes maxL ret C T h cells slots) {i : Fin 4} {v : Int32} (hd : decode bytes pc = .ok (.iload_n i, 1)) (hl : Ls[i.val]? = some (.val (.int v))) (hq : pc + 1 = q)
    (K : Go C ws Q k n (T.setTop (mkF C.m q Ls (.int v :: st)))) : Go C ws Q k n (T.setTop (mkF C.m pc Ls (st))) := by
  obtain ⟨⟨hx, -, rfl, -⟩, ⟨_, X, -⟩, -⟩ := O; subst hq
  exact K.of fun _ kk => XS.iloadN X.here hx rfl hd hl kk
theorem lload (O : On l Z ws R own nm bytes maxL ret C T h cells slots) {i : Nat} {v : Int64} (hd : decode bytes pc = .ok (.lload i, 2)) (hl : Ls[i]? = some (.val (.long v))) (hq : pc + 2 = q)
    (K : Go C ws Q k n (T.setTop (mkF C.m q Ls (.long v :: st)))) : Go C ws Q k n (T.setTop (mkF C.m pc Ls (st))) := by
  obtain ⟨⟨hx, -, rfl, -⟩, ⟨_, X, -⟩, -⟩ := O; subst hq
  exact K.of fun _ kk => XS.lload X.here hx rfl hd hl kk
theorem lloadN (O : On l Z ws R own nm bytes maxL ret C T h cells slots) {i : Fin 4} {v : Int64} (hd : decode bytes pc = .ok (.lload_n i, 1)) (hl : Ls[i.val]? = some (.val (.long v))) (hq : pc + 1 = q)
    (K : Go C ws Q k n (T.setTop (mkF C.m q Ls (.long v :: st)))) : Go C ws Q k n (T.setTop (mkF C.m pc Ls (st))) := by
  obtain ⟨⟨hx, -, rfl, -⟩, ⟨_, X, -⟩, -⟩ := O; subst hq
  exact K.of fun _ kk => XS.lloadN X.here hx rfl hd hl kk
theorem aload (O : On l Z ws R own nm bytes maxL ret C T h cells slots) {i : Nat} {v : Value} (hd : decode bytes pc = .ok (.aload i, 2)) (hl : Ls[i]? = some (.val v)) (hv : v.isRef = true) (hq : pc + 2 = q)
    (K : Go C ws Q k n (T.setTop (mkF C.m q Ls (v :: st)))) : Go C ws Q k n (T.setTop (mkF C.m pc Ls (st))) := by
  obtain ⟨⟨hx, -, rfl, -⟩, ⟨_, X, -⟩, -⟩ := O; subst hq
  exact K.of fun _ kk => XS.aload X.here hx rfl hd hl hv kk
theorem aloadN (O : On l Z ws R own nm bytes maxL ret C T h cells slots) {i : Fin 4} {v : Value} (hd : decode bytes pc = .ok (.aload_n i, 1)) (hl : Ls[i.val]? = some (.val v)) (hv : v.isRef = true) (hq : pc + 1 = q)
    (K : Go C ws Q k n (T.setTop (mkF C.m q Ls (v :: st)))) : Go C ws Q k n (T.setTop (mkF C.m pc Ls (st))) := by
  obtain ⟨⟨hx, -, rfl, -⟩, ⟨_, X, -⟩, -⟩ := O; subst hq
  exact K.of fun _ kk => XS.aloadN X.here hx rfl hd hl hv kk
theorem istore (O : On l Z ws R own nm bytes maxL ret C T h cells slots) {i : Nat} {v : Int32} (hd : decode bytes pc = .ok (.istore i, 2)) (hl : storeLocals Ls i (.int v) = some L') (hq : pc + 2 = q)
    (K : Go C ws Q k n (T.setTop (mkF C.m q L' (st)))) : Go C ws Q k n (T.setTop (mkF C.m pc Ls (.int v :: st))) := by
  obtain ⟨⟨hx, -, rfl, -⟩, ⟨_, X, -⟩, -⟩ := O; subst hq
  exact K.of fun _ kk => XS.istore X.here hx rfl hd rfl hl kk
theorem istoreN (O : On l Z ws R own nm bytes maxL ret C T h cells slots) {i : Fin 4} {v : Int32} (hd : decode bytes pc = .ok (.istore_n i, 1)) (hl : storeLocals Ls i.val (.int v) = some L') (hq : pc + 1 = q)
    (K : Go C ws Q k n (T.setTop (mkF C.m q L' (st)))) : Go C ws Q k n (T.setTop (mkF C.m pc Ls (.int v :: st))) := by
  obtain ⟨⟨hx, -, rfl, -⟩, ⟨_, X, -⟩, -⟩ := O; subst hq
  exact K.of fun _ kk => XS.istoreN X.here hx rfl hd rfl hl kk
theorem lstore (O : On l Z ws R own nm bytes maxL ret C T h cells slots) {i : Nat} {v : Int64} (hd : decode bytes pc = .ok (.lstore i, 2)) (hl : storeLocals Ls i (.long v) = some L') (hq : pc + 2 = q)
    (K : Go C ws Q k n (T.setTop (mkF C.m q L' (st)))) : Go C ws Q k n (T.setTop (mkF C.m pc Ls (.long v :: st))) := by
  obtain ⟨⟨hx, -, rfl, -⟩, ⟨_, X, -⟩, -⟩ := O; subst hq
  exact K.of fun _ kk => XS.lstore X.here hx rfl hd rfl hl kk
theorem lstoreN (O : On l Z ws R own nm bytes maxL ret C T h cells slots) {i : Fin 4} {v : Int64} (hd : decode bytes pc = .ok (.lstore_n i, 1)) (hl : storeLocals Ls i.val (.long v) = some L') (hq : pc + 1 = q)
    (K : Go C ws Q k n (T.setTop (mkF C.m q L' (st)))) : Go C ws Q k n (T.setTop (mkF C.m pc Ls (.long v :: st))) := by
  obtain ⟨⟨hx, -, rfl, -⟩, ⟨_, X, -⟩, -⟩ := O; subst hq
  exact K.of fun _ kk => XS.lstoreN X.here hx rfl hd rfl hl kk
theorem astore (O : On l Z ws R own nm bytes maxL ret C T h cells slots) {i : Nat} {v : Value} (hd : decode bytes pc = .ok (.astore i, 2)) (hv : v.isRef = true) (hl : storeLocals Ls i v = some L') (hq : pc + 2 = q)
    (K : Go C ws Q k n (T.setTop (mkF C.m q L' (st)))) : Go C ws Q k n (T.setTop (mkF C.m pc Ls (v :: st))) := by
  obtain ⟨⟨hx, -, rfl, -⟩, ⟨_, X, -⟩, -⟩ := O; subst hq
  exact K.of fun _ kk => XS.astore X.here hx rfl hd rfl hv hl kk
theorem astoreN (O : On l Z ws R own nm bytes maxL ret C T h cells slots) {i : Fin 4} {v : Value} (hd : decode bytes pc = .ok (.astore_n i, 1)) (hv : v.isRef = true) (hl : storeLocals Ls i.val v = some L') (hq : pc + 1 = q)
    (K : Go C ws Q k n (T.setTop (mkF C.m q L' (st)))) : Go C ws Q k n (T.setTop (mkF C.m pc Ls (v :: st))) := by
  obtain ⟨⟨hx, -, rfl, -⟩, ⟨_, X, -⟩, -⟩ := O; subst hq
  exact K.of fun _ kk => XS.astoreN X.here hx rfl hd rfl hv hl kk
theorem iconst (O : On l Z ws R own nm bytes maxL ret C T h cells slots) {i : Int} {r : Int32} (hd : decode bytes pc = .ok (.iconst i, 1)) (hr : Int32.ofInt i = r) (hq : pc + 1 = q)
    (K : Go C ws Q k n (T.setTop (mkF C.m q Ls (.int r :: st)))) : Go C ws Q k n (T.setTop (mkF C.m pc Ls (st))) := by
  obtain ⟨⟨hx, -, rfl, -⟩, ⟨_, X, -⟩, -⟩ := O; subst hq hr
  exact K.of fun _ kk => XS.iconst X.here hx rfl hd kk
theorem bipush (O : On l Z ws R own nm bytes maxL ret C T h cells slots) {i : Int} {r : Int32} (hd : decode bytes pc = .ok (.bipush i, 2)) (hr : (Int8.ofInt i).toInt32 = r) (hq : pc + 2 = q)
    (K : Go C ws Q k n (T.setTop (mkF C.m q Ls (.int r :: st)))) : Go C ws Q k n (T.setTop (mkF C.m pc Ls (st))) := by
  obtain ⟨⟨hx, -, rfl, -⟩, ⟨_, X, -⟩, -⟩ := O; subst hq hr
  exact K.of fun _ kk => XS.bipush X.here hx rfl hd kk
theorem sipush (O : On l Z ws R own nm bytes maxL ret C T h cells slots) {i : Int} {r : Int32} (hd : decode bytes pc = .ok (.sipush i, 3)) (hr : (Int16.ofInt i).toInt32 = r) (hq : pc + 3 = q)
    (K : Go C ws Q k n (T.setTop (mkF C.m q Ls (.int r :: st)))) : Go C ws Q k n (T.setTop (mkF C.m pc Ls (st))) := by
  obtain ⟨⟨hx, -, rfl, -⟩, ⟨_, X, -⟩, -⟩ := O; subst hq hr
  exact K.of fun _ kk => XS.sipush X.here hx rfl hd kk
theorem lconst (O : On l Z ws R own nm bytes maxL ret C T h cells slots) {i : Fin 2} {r : Int64} (hd : decode bytes pc = .ok (.lconst i, 1)) (hr : Int64.ofNat i = r) (hq : pc + 1 = q)
    (K : Go C ws Q k n (T.setTop (mkF C.m q Ls (.long r :: st)))) : Go C ws Q k n (T.setTop (mkF C.m pc Ls (st))) := by
  obtain ⟨⟨hx, -, rfl, -⟩, ⟨_, X, -⟩, -⟩ := O; subst hq hr
  exact K.of fun _ kk => XS.lconst X.here hx rfl hd kk
theorem aconst_null (O : On l Z ws R own nm bytes maxL ret C T h cells slots)  (hd : decode bytes pc = .ok (.aconst_null, 1))  (hq : pc + 1 = q)
    (K : Go C ws Q k n (T.setTop (mkF C.m q Ls (.null :: st)))) : Go C ws Q k n (T.setTop (mkF C.m pc Ls (st))) := by
  obtain ⟨⟨hx, -, rfl, -⟩, ⟨_, X, -⟩, -⟩ := O; subst hq
  exact K.of fun _ kk => XS.aconstNull X.here hx rfl hd kk
theorem iadd (O : On l Z ws R own nm bytes maxL ret C T h cells slots) {x y r : Int32} (hd : decode bytes pc = .ok (.iadd, 1)) (hr : x + y = r) (hq : pc + 1 = q)
    (K : Go C ws Q k n (T.setTop (mkF C.m q Ls (.int r :: st)))) : Go C ws Q k n (T.setTop (mkF C.m pc Ls (.int y :: .int x :: st))) := by
  obtain ⟨⟨hx, -, rfl, -⟩, ⟨_, X, -⟩, -⟩ := O; subst hq hr
  exact K.of fun _ kk => XS.iadd X.here hx rfl hd rfl kk
theorem isub (O : On l Z ws R own nm bytes maxL ret C T h cells slots) {x y r : Int32} (hd : decode bytes pc = .ok (.isub, 1)) (hr : x - y = r) (hq : pc + 1 = q)
    (K : Go C ws Q k n (T.setTop (mkF C.m q Ls (.int r :: st)))) : Go C ws Q k n (T.setTop (mkF C.m pc Ls (.int y :: .int x :: st))) := by
  obtain ⟨⟨hx, -, rfl, -⟩, ⟨_, X, -⟩, -⟩ := O; subst hq hr
  exact K.of fun _ kk => XS.isub X.here hx rfl hd rfl kk
theorem imul (O : On l Z ws R own nm bytes maxL ret C T h cells slots) {x y r : Int32} (hd : decode bytes pc = .ok (.imul, 1)) (hr : x * y = r) (hq : pc + 1 = q)
    (K : Go C ws Q k n (T.setTop (mkF C.m q Ls (.int r :: st)))) : Go C ws Q k n (T.setTop (mkF C.m pc Ls (.int y :: .int x :: st))) := by
  obtain ⟨⟨hx, -, rfl, -⟩, ⟨_, X, -⟩, -⟩ := O; subst hq hr
  exact K.of fun _ kk => XS.imul X.here hx rfl hd rfl kk
theorem iand (O : On l Z ws R own nm bytes maxL ret C T h cells slots) {x y r : Int32} (hd : decode bytes pc = .ok (.iand, 1)) (hr : x &&& y = r) (hq : pc + 1 = q)
    (K : Go C ws Q k n (T.setTop (mkF C.m q Ls (.int r :: st)))) : Go C ws Q k n (T.setTop (mkF C.m pc Ls (.int y :: .int x :: st))) := by
  obtain ⟨⟨hx, -, rfl, -⟩, ⟨_, X, -⟩, -⟩ := O; subst hq hr
  exact K.of fun _ kk => XS.iand X.here hx rfl hd rfl kk
theorem ior (O : On l Z ws R own nm bytes maxL ret C T h cells slots) {x y r : Int32} (hd : decode bytes pc = .ok (.ior, 1)) (hr : x ||| y = r) (hq : pc + 1 = q)
    (K : Go C ws Q k n (T.setTop (mkF C.m q Ls (.int r :: st)))) : Go C ws Q k n (T.setTop (mkF C.m pc Ls (.int y :: .int x :: st))) := by
  obtain ⟨⟨hx, -, rfl, -⟩, ⟨_, X, -⟩, -⟩ := O; subst hq hr
  exact K.of fun _ kk => XS.ior X.here hx rfl hd rfl kk
theorem ixor (O : On l Z ws R own nm bytes maxL ret C T h cells slots) {x y r : Int32} (hd : decode bytes pc = .ok (.ixor, 1)) (hr : x ^^^ y = r) (hq : pc + 1 = q)
    (K : Go C ws Q k n (T.setTop (mkF C.m q Ls (.int r :: st)))) : Go C ws Q k n (T.setTop (mkF C.m pc Ls (.int y :: .int x :: st))) := by
  obtain ⟨⟨hx, -, rfl, -⟩, ⟨_, X, -⟩, -⟩ := O; subst hq hr
  exact K.of fun _ kk => XS.ixor X.here hx rfl hd rfl kk
theorem ishl (O : On l Z ws R own nm bytes maxL ret C T h cells slots) {x y r : Int32} (hd : decode bytes pc = .ok (.ishl, 1)) (hr : x <<< (y &&& 31) = r) (hq : pc + 1 = q)
    (K : Go C ws Q k n (T.setTop (mkF C.m q Ls (.int r :: st)))) : Go C ws Q k n (T.setTop (mkF C.m pc Ls (.int y :: .int x :: st))) := by
  obtain ⟨⟨hx, -, rfl, -⟩, ⟨_, X, -⟩, -⟩ := O; subst hq hr
  exact K.of fun _ kk => XS.ishl X.here hx rfl hd rfl kk
theorem ishr (O : On l Z ws R own nm bytes maxL ret C T h cells slots) {x y r : Int32} (hd : decode bytes pc = .ok (.ishr, 1)) (hr : x >>> (y &&& 31) = r) (hq : pc + 1 = q)
    (K : Go C ws Q k n (T.setTop (mkF C.m q Ls (.int r :: st)))) : Go C ws Q k n (T.setTop (mkF C.m pc Ls (.int y :: .int x :: st))) := by
  obtain ⟨⟨hx, -, rfl, -⟩, ⟨_, X, -⟩, -⟩ := O; subst hq hr
  exact K.of fun _ kk => XS.ishr X.here hx rfl hd rfl kk
theorem iushr (O : On l Z ws R own nm bytes maxL ret C T h cells slots) {x y r : Int32} (hd : decode bytes pc = .ok (.iushr, 1)) (hr : (x.toUInt32 >>> (y &&& 31).toUInt32).toInt32 = r) (hq : pc + 1 = q)
    (K : Go C ws Q k n (T.setTop (mkF C.m q Ls (.int r :: st)))) : Go C ws Q k n (T.setTop (mkF C.m pc Ls (.int y :: .int x :: st))) := by
  obtain ⟨⟨hx, -, rfl, -⟩, ⟨_, X, -⟩, -⟩ := O; subst hq hr
  exact K.of fun _ kk => XS.iushr X.here hx rfl hd rfl kk
theorem idiv (O : On l Z ws R own nm bytes maxL ret C T h cells slots) {x y r : Int32} (hd : decode bytes pc = .ok (.idiv, 1)) (hy : y ≠ 0) (hr : x / y = r) (hq : pc + 1 = q)
    (K : Go C ws Q k n (T.setTop (mkF C.m q Ls (.int r :: st)))) : Go C ws Q k n (T.setTop (mkF C.m pc Ls (.int y :: .int x :: st))) := by
  obtain ⟨⟨hx, -, rfl, -⟩, ⟨_, X, -⟩, -⟩ := O; subst hq hr
  exact K.of fun _ kk => XS.idiv X.here hx rfl hd rfl hy kk
theorem irem (O : On l Z ws R own nm bytes maxL ret C T h cells slots) {x y r : Int32} (hd : decode bytes pc = .ok (.irem, 1)) (hy : y ≠ 0) (hr : x % y = r) (hq : pc + 1 = q)
    (K : Go C ws Q k n (T.setTop (mkF C.m q Ls (.int r :: st)))) : Go C ws Q k n (T.setTop (mkF C.m pc Ls (.int y :: .int x :: st))) := by
  obtain ⟨⟨hx, -, rfl, -⟩, ⟨_, X, -⟩, -⟩ := O; subst hq hr; rw [← irem_eq_mod] at K
  exact K.of fun _ kk => XS.irem X.here hx rfl hd rfl hy kk
theorem ladd (O : On l Z ws R own nm bytes maxL ret C T h cells slots) {x y r : Int64} (hd : decode bytes pc = .ok (.ladd, 1)) (hr : x + y = r) (hq : pc + 1 = q)
    (K : Go C ws Q k n (T.setTop (mkF C.m q Ls (.long r :: st)))) : Go C ws Q k n (T.setTop (mkF C.m pc Ls (.long y :: .long x :: st))) := by
  obtain ⟨⟨hx, -, rfl, -⟩, ⟨_, X, -⟩, -⟩ := O; subst hq hr
  exact K.of fun _ kk => XS.ladd X.here hx rfl hd rfl kk
theorem lsub (O : On l Z ws R own nm bytes maxL ret C T h cells slots) {x y r : Int64} (hd : decode bytes pc = .ok (.lsub, 1)) (hr : x - y = r) (hq : pc + 1 = q)
    (K : Go C ws Q k n (T.setTop (mkF C.m q Ls (.long r :: st)))) : Go C ws Q k n (T.setTop (mkF C.m pc Ls (.long y :: .long x :: st))) := by
  obtain ⟨⟨hx, -, rfl, -⟩, ⟨_, X, -⟩, -⟩ := O; subst hq hr
  exact K.of fun _ kk => XS.lsub X.here hx rfl hd rfl kk
theorem lmul (O : On l Z ws R own nm bytes maxL ret C T h cells slots) {x y r : Int64} (hd : decode bytes pc = .ok (.lmul, 1)) (hr : x * y = r) (hq : pc + 1 = q)
    (K : Go C ws Q k n (T.setTop (mkF C.m q Ls (.long r :: st)))) : Go C ws Q k n (T.setTop (mkF C.m pc Ls (.long y :: .long x :: st))) := by
  obtain ⟨⟨hx, -, rfl, -⟩, ⟨_, X, -⟩, -⟩ := O; subst hq hr
  exact K.of fun _ kk => XS.lmul X.here hx rfl hd rfl kk
theorem land (O : On l Z ws R own nm bytes maxL ret C T h cells slots) {x y r : Int64} (hd : decode bytes pc = .ok (.land, 1)) (hr : x &&& y = r) (hq : pc + 1 = q)
    (K : Go C ws Q k n (T.setTop (mkF C.m q Ls (.long r :: st)))) : Go C ws Q k n (T.setTop (mkF C.m pc Ls (.long y :: .long x :: st))) := by
  obtain ⟨⟨hx, -, rfl, -⟩, ⟨_, X, -⟩, -⟩ := O; subst hq hr
  exact K.of fun _ kk => XS.land X.here hx rfl hd rfl kk
theorem lor (O : On l Z ws R own nm bytes maxL ret C T h cells slots) {x y r : Int64} (hd : decode bytes pc = .ok (.lor, 1)) (hr : x ||| y = r) (hq : pc + 1 = q)
    (K : Go C ws Q k n (T.setTop (mkF C.m q Ls (.long r :: st)))) : Go C ws Q k n (T.setTop (mkF C.m pc Ls (.long y :: .long x :: st))) := by
  obtain ⟨⟨hx, -, rfl, -⟩, ⟨_, X, -⟩, -⟩ := O; subst hq hr
  exact K.of fun _ kk => XS.lor X.here hx rfl hd rfl kk
theorem lxor (O : On l Z ws R own nm bytes maxL ret C T h cells slots) {x y r : Int64} (hd : decode bytes pc = .ok (.lxor, 1)) (hr : x ^^^ y = r) (hq : pc + 1 = q)
    (K : Go C ws Q k n (T.setTop (mkF C.m q Ls (.long r :: st)))) : Go C ws Q k n (T.setTop (mkF C.m pc Ls (.long y :: .long x :: st))) := by
  obtain ⟨⟨hx, -, rfl, -⟩, ⟨_, X, -⟩, -⟩ := O; subst hq hr
  exact K.of fun _ kk => XS.lxor X.here hx rfl hd rfl kk
theorem ldiv (O : On l Z ws R own nm bytes maxL ret C T h cells slots) {x y r : Int64} (hd : decode bytes pc = .ok (.ldiv, 1)) (hy : y ≠ 0) (hr : x / y = r) (hq : pc + 1 = q)
    (K : Go C ws Q k n (T.setTop (mkF C.m q Ls (.long r :: st)))) : Go C ws Q k n (T.setTop (mkF C.m pc Ls (.long y :: .long x :: st))) := by
  obtain ⟨⟨hx, -, rfl, -⟩, ⟨_, X, -⟩, -⟩ := O; subst hq hr
  exact K.of fun _ kk => XS.ldiv X.here hx rfl hd rfl hy kk
theorem lrem (O : On l Z ws R own nm bytes maxL ret C T h cells slots) {x y r : Int64} (hd : decode bytes pc = .ok (.lrem, 1)) (hy : y ≠ 0) (hr : x % y = r) (hq : pc + 1 = q)
    (K : Go C ws Q k n (T.setTop (mkF C.m q Ls (.long r :: st)))) : Go C ws Q k n (T.setTop (mkF C.m pc Ls (.long y :: .long x :: st))) := by
  obtain ⟨⟨hx, -, rfl, -⟩, ⟨_, X, -⟩, -⟩ := O; subst hq hr; rw [← lrem_mod] at K
  exact K.of fun _ kk => XS.lrem X.here hx rfl hd rfl hy kk
theorem lshl (O : On l Z ws R own nm bytes maxL ret C T h cells slots) {x r : Int64} {y : Int32} (hd : decode bytes pc = .ok (.lshl, 1)) (hr : x <<< (y &&& 0x3f).toInt64 = r) (hq : pc + 1 = q)
    (K : Go C ws Q k n (T.setTop (mkF C.m q Ls (.long r :: st)))) : Go C ws Q k n (T.setTop (mkF C.m pc Ls (.int y :: .long x :: st))) := by
  obtain ⟨⟨hx, -, rfl, -⟩, ⟨_, X, -⟩, -⟩ := O; subst hq hr
  exact K.of fun _ kk => XS.lshl X.here hx rfl hd rfl kk
theorem lshr (O : On l Z ws R own nm bytes maxL ret C T h cells slots) {x r : Int64} {y : Int32} (hd : decode bytes pc = .ok (.lshr, 1)) (hr : x >>> (y &&& 0x3f).toInt64 = r) (hq : pc + 1 = q)
    (K : Go C ws Q k n (T.setTop (mkF C.m q Ls (.long r :: st)))) : Go C ws Q k n (T.setTop (mkF C.m pc Ls (.int y :: .long x :: st))) := by
  obtain ⟨⟨hx, -, rfl, -⟩, ⟨_, X, -⟩, -⟩ := O; subst hq hr
  exact K.of fun _ kk => XS.lshr X.here hx rfl hd rfl kk
theorem lushr (O : On l Z ws R own nm bytes maxL ret C T h cells slots) {x r : Int64} {y : Int32} (hd : decode bytes pc = .ok (.lushr, 1)) (hr : (x.toUInt64 >>> (y &&& 0x3f).toInt64.toUInt64).toInt64 = r) (hq : pc + 1 = q)
    (K : Go C ws Q k n (T.setTop (mkF C.m q Ls (.long r :: st)))) : Go C ws Q k n (T.setTop (mkF C.m pc Ls (.int y :: .long x :: st))) := by
  obtain ⟨⟨hx, -, rfl, -⟩, ⟨_, X, -⟩, -⟩ := O; subst hq hr
  exact K.of fun _ kk => XS.lushr X.here hx rfl hd rfl kk
theorem ineg (O : On l Z ws R own nm bytes maxL ret C T h cells slots) {x : Int32} {r : Int32} (hd : decode bytes pc = .ok (.ineg, 1)) (hr : -x = r) (hq : pc + 1 = q)
    (K : Go C ws Q k n (T.setTop (mkF C.m q Ls (.int r :: st)))) : Go C ws Q k n (T.setTop (mkF C.m pc Ls (.int x :: st))) := by
  obtain ⟨⟨hx, -, rfl, -⟩, ⟨_, X, -⟩, -⟩ := O; subst hq hr
  exact K.of fun _ kk => XS.ineg X.here hx rfl hd rfl kk
theorem lneg (O : On l Z ws R own nm bytes maxL ret C T h cells slots) {x : Int64} {r : Int64} (hd : decode bytes pc = .ok (.lneg, 1)) (hr : -x = r) (hq : pc + 1 = q)
    (K : Go C ws Q k n (T.setTop (mkF C.m q Ls (.long r :: st)))) : Go C ws Q k n (T.setTop (mkF C.m pc Ls (.long x :: st))) := by
  obtain ⟨⟨hx, -, rfl, -⟩, ⟨_, X, -⟩, -⟩ := O; subst hq hr
  exact K.of fun _ kk => XS.lneg X.here hx rfl hd rfl kk
theorem i2l (O : On l Z ws R own nm bytes maxL ret C T h cells slots) {x : Int32} {r : Int64} (hd : decode bytes pc = .ok (.i2l, 1)) (hr : x.toInt64 = r) (hq : pc + 1 = q)
    (K : Go C ws Q k n (T.setTop (mkF C.m q Ls (.long r :: st)))) : Go C ws Q k n (T.setTop (mkF C.m pc Ls (.int x :: st))) := by
  obtain ⟨⟨hx, -, rfl, -⟩, ⟨_, X, -⟩, -⟩ := O; subst hq hr
  exact K.of fun _ kk => XS.i2l X.here hx rfl hd rfl kk
theorem l2i (O : On l Z ws R own nm bytes maxL ret C T h cells slots) {x : Int64} {r : Int32} (hd : decode bytes pc = .ok (.l2i, 1)) (hr : x.toInt32 = r) (hq : pc + 1 = q)
    (K : Go C ws Q k n (T.setTop (mkF C.m q Ls (.int r :: st)))) : Go C ws Q k n (T.setTop (mkF C.m pc Ls (.long x :: st))) := by
  obtain ⟨⟨hx, -, rfl, -⟩, ⟨_, X, -⟩, -⟩ := O; subst hq hr
  exact K.of fun _ kk => XS.l2i X.here hx rfl hd rfl kk
theorem i2b (O : On l Z ws R own nm bytes maxL ret C T h cells slots) {x : Int32} {r : Int32} (hd : decode bytes pc = .ok (.i2b, 1)) (hr : x.toInt8.toInt32 = r) (hq : pc + 1 = q)
    (K : Go C ws Q k n (T.setTop (mkF C.m q Ls (.int r :: st)))) : Go C ws Q k n (T.setTop (mkF C.m pc Ls (.int x :: st))) := by
  obtain ⟨⟨hx, -, rfl, -⟩, ⟨_, X, -⟩, -⟩ := O; subst hq hr
  exact K.of fun _ kk => XS.i2b X.here hx rfl hd rfl kk
theorem i2c (O : On l Z ws R own nm bytes maxL ret C T h cells slots) {x : Int32} {r : Int32} (hd : decode bytes pc = .ok (.i2c, 1)) (hr : x.toUInt32.toUInt16.toUInt32.toInt32 = r) (hq : pc + 1 = q)
    (K : Go C ws Q k n (T.setTop (mkF C.m q Ls (.int r :: st)))) : Go C ws Q k n (T.setTop (mkF C.m pc Ls (.int x :: st))) := by
  obtain ⟨⟨hx, -, rfl, -⟩, ⟨_, X, -⟩, -⟩ := O; subst hq hr
  exact K.of fun _ kk => XS.i2c X.here hx rfl hd rfl kk
theorem i2s (O : On l Z ws R own nm bytes maxL ret C T h cells slots) {x : Int32} {r : Int32} (hd : decode bytes pc = .ok (.i2s, 1)) (hr : x.toInt16.toInt32 = r) (hq : pc + 1 = q)
    (K : Go C ws Q k n (T.setTop (mkF C.m q Ls (.int r :: st)))) : Go C ws Q k n (T.setTop (mkF C.m pc Ls (.int x :: st))) := by
  obtain ⟨⟨hx, -, rfl, -⟩, ⟨_, X, -⟩, -⟩ := O; subst hq hr
  exact K.of fun _ kk => XS.i2s X.here hx rfl hd rfl kk
theorem lcmp (O : On l Z ws R own nm bytes maxL ret C T h cells slots) {x y : Int64} {r : Int32} (hd : decode bytes pc = .ok (.lcmp, 1)) (hr : lcmpW x y = r) (hq : pc + 1 = q)
    (K : Go C ws Q k n (T.setTop (mkF C.m q Ls (.int r :: st)))) : Go C ws Q k n (T.setTop (mkF C.m pc Ls (.long y :: .long x :: st))) := by
  obtain ⟨⟨hx, -, rfl, -⟩, ⟨_, X, -⟩, -⟩ := O; subst hq hr
  exact K.of fun _ kk => XS.lcmp X.here hx rfl hd rfl kk
theorem iinc (O : On l Z ws R own nm bytes maxL ret C T h cells slots) {i : Nat} {cst : Int} {x : Int32} (hd : decode bytes pc = .ok (.iinc i cst, 3)) (hl : Ls[i]? = some (.val (.int x))) (hl' : storeLocals Ls i (.int (x + Int32.ofInt cst)) = some L') (hq : pc + 3 = q)
    (K : Go C ws Q k n (T.setTop (mkF C.m q L' (st)))) : Go C ws Q k n (T.setTop (mkF C.m pc Ls (st))) := by
  obtain ⟨⟨hx, -, rfl, -⟩, ⟨_, X, -⟩, -⟩ := O; subst hq
  exact K.of fun _ kk => XS.iinc X.here hx rfl hd hl hl' kk
theorem dup (O : On l Z ws R own nm bytes maxL ret C T h cells slots) {v : Value} (hd : decode bytes pc = .ok (.dup, 1)) (hc : v.category = 1) (hq : pc + 1 = q)
    (K : Go C ws Q k n (T.setTop (mkF C.m q Ls (v :: v :: st)))) : Go C ws Q k n (T.setTop (mkF C.m pc Ls (v :: st))) := by
  obtain ⟨⟨hx, -, rfl, -⟩, ⟨_, X, -⟩, -⟩ := O; subst hq
  exact K.of fun _ kk => XS.dup X.here hx rfl hd rfl hc kk
theorem pop (O : On l Z ws R own nm bytes maxL ret C T h cells slots) {v : Value} (hd : decode bytes pc = .ok (.pop, 1)) (hc : v.category = 1) (hq : pc + 1 = q)
    (K : Go C ws Q k n (T.setTop (mkF C.m q Ls (st)))) : Go C ws Q k n (T.setTop (mkF C.m pc Ls (v :: st))) := by
  obtain ⟨⟨hx, -, rfl, -⟩, ⟨_, X, -⟩, -⟩ := O; subst hq
  exact K.of fun _ kk => XS.pop X.here hx rfl hd rfl hc kk
theorem dup_x1 (O : On l Z ws R own nm bytes maxL ret C T h cells slots) {v w : Value} (hd : decode bytes pc = .ok (.dup_x1, 1)) (hc : v.category = 1) (hc' : w.category = 1) (hq : pc + 1 = q)
    (K : Go C ws Q k n (T.setTop (mkF C.m q Ls (v :: w :: v :: st)))) : Go C ws Q k n (T.setTop (mkF C.m pc Ls (v :: w :: st))) := by
  obtain ⟨⟨hx, -, rfl, -⟩, ⟨_, X, -⟩, -⟩ := O; subst hq
  exact K.of fun _ kk => XS.dupX1 X.here hx rfl hd rfl hc hc' kk
theorem dup2 (O : On l Z ws R own nm bytes maxL ret C T h cells slots) {v w : Value} (hd : decode bytes pc = .ok (.dup2, 1)) (hc : v.category = 1) (hc' : w.category = 1) (hq : pc + 1 = q)
    (K : Go C ws Q k n (T.setTop (mkF C.m q Ls (v :: w :: v :: w :: st)))) : Go C ws Q k n (T.setTop (mkF C.m pc Ls (v :: w :: st))) := by
  obtain ⟨⟨hx, -, rfl, -⟩, ⟨_, X, -⟩, -⟩ := O; subst hq
  exact K.of fun _ kk => XT.dup2 X.here hx rfl hd rfl hc hc' kk
theorem dup2L (O : On l Z ws R own nm bytes maxL ret C T h cells slots) {v : Int64} (hd : decode bytes pc = .ok (.dup2, 1))  (hq : pc + 1 = q)
    (K : Go C ws Q k n (T.setTop (mkF C.m q Ls (.long v :: .long v :: st)))) : Go C ws Q k n (T.setTop (mkF C.m pc Ls (.long v :: st))) := by
  obtain ⟨⟨hx, -, rfl, -⟩, ⟨_, X, -⟩, -⟩ := O; subst hq
  exact K.of fun _ kk => XT.dup2L X.here hx rfl hd rfl kk
theorem goto (O : On l Z ws R own nm bytes maxL ret C T h cells slots)  {o : Int} (hd : decode bytes pc = .ok (.goto o, 3))  (ho : 0 ≤ (pc : Int) + o) (hq : ((pc : Int) + o).toNat = q)
    (K : Go C ws Q k n (T.setTop (mkF C.m q Ls st))) : Go C ws Q k n (T.setTop (mkF C.m pc Ls (st))) := by
  obtain ⟨⟨hx, -, rfl, -⟩, ⟨_, X, -⟩, -⟩ := O
  exact K.of fun _ kk => XS.goto X.here hx rfl (pc0 := pc) (pc' := q) rfl hd  ho hq kk
theorem ifYes (O : On l Z ws R own nm bytes maxL ret C T h cells slots) {cd : ClassFile.Cond} {x : Int32} {o : Int} (hd : decode bytes pc = .ok (.ifCond cd o, 3)) (hc : ifCond.holds cd x = true) (ho : 0 ≤ (pc : Int) + o) (hq : ((pc : Int) + o).toNat = q)
    (K : Go C ws Q k n (T.setTop (mkF C.m q Ls st))) : Go C ws Q k n (T.setTop (mkF C.m pc Ls (.int x :: st))) := by
  obtain ⟨⟨hx, -, rfl, -⟩, ⟨_, X, -⟩, -⟩ := O
  exact K.of fun _ kk => XS.ifYes X.here hx rfl (pc0 := pc) (pc' := q) rfl hd rfl hc ho hq kk
theorem icmpYes (O : On l Z ws R own nm bytes maxL ret C T h cells slots) {cd : ClassFile.Cond} {x y : Int32} {o : Int} (hd : decode bytes pc = .ok (.if_icmp cd o, 3)) (hc : if_icmp.holds cd x y = true) (ho : 0 ≤ (pc : Int) + o) (hq : ((pc : Int) + o).toNat = q)
    (K : Go C ws Q k n (T.setTop (mkF C.m q Ls st))) : Go C ws Q k n (T.setTop (mkF C.m pc Ls (.int y :: .int x :: st))) := by
  obtain ⟨⟨hx, -, rfl, -⟩, ⟨_, X, -⟩, -⟩ := O
  exact K.of fun _ kk => XS.icmpYes X.here hx rfl (pc0 := pc) (pc' := q) rfl hd rfl hc ho hq kk
theorem ifnullYes (O : On l Z ws R own nm bytes maxL ret C T h cells slots)  {o : Int} (hd : decode bytes pc = .ok (.ifnull o, 3))  (ho : 0 ≤ (pc : Int) + o) (hq : ((pc : Int) + o).toNat = q)
    (K : Go C ws Q k n (T.setTop (mkF C.m q Ls st))) : Go C ws Q k n (T.setTop (mkF C.m pc Ls (.null :: st))) := by
  obtain ⟨⟨hx, -, rfl, -⟩, ⟨_, X, -⟩, -⟩ := O
  exact K.of fun _ kk => XS.ifnullYes X.here hx rfl (pc0 := pc) (pc' := q) rfl hd rfl ho hq kk
theorem ifnonnullYes (O : On l Z ws R own nm bytes maxL ret C T h cells slots) {b : Addr} {o : Int} (hd : decode bytes pc = .ok (.ifnonnull o, 3))  (ho : 0 ≤ (pc : Int) + o) (hq : ((pc : Int) + o).toNat = q)
    (K : Go C ws Q k n (T.setTop (mkF C.m q Ls st))) : Go C ws Q k n (T.setTop (mkF C.m pc Ls (.ref b :: st))) := by
  obtain ⟨⟨hx, -, rfl, -⟩, ⟨_, X, -⟩, -⟩ := O
  exact K.of fun _ kk => XS.ifnonnullYes X.here hx rfl (pc0 := pc) (pc' := q) rfl hd rfl ho hq kk
theorem ifNo (O : On l Z ws R own nm bytes maxL ret C T h cells slots) {cd : ClassFile.Cond} {x : Int32} {o : Int} (hd : decode bytes pc = .ok (.ifCond cd o, 3)) (hc : ifCond.holds cd x = false) (hq : pc + 3 = q)
    (K : Go C ws Q k n (T.setTop (mkF C.m q Ls (st)))) : Go C ws Q k n (T.setTop (mkF C.m pc Ls (.int x :: st))) := by
  obtain ⟨⟨hx, -, rfl, -⟩, ⟨_, X, -⟩, -⟩ := O; subst hq
  exact K.of fun _ kk => XS.ifNo X.here hx rfl hd rfl hc kk
theorem icmpNo (O : On l Z ws R own nm bytes maxL ret C T h cells slots) {cd : ClassFile.Cond} {x y : Int32} {o : Int} (hd : decode bytes pc = .ok (.if_icmp cd o, 3)) (hc : if_icmp.holds cd x y = false) (hq : pc + 3 = q)
    (K : Go C ws Q k n (T.setTop (mkF C.m q Ls (st)))) : Go C ws Q k n (T.setTop (mkF C.m pc Ls (.int y :: .int x :: st))) := by
  obtain ⟨⟨hx, -, rfl, -⟩, ⟨_, X, -⟩, -⟩ := O; subst hq
  exact K.of fun _ kk => XS.icmpNo X.here hx rfl hd rfl hc kk
theorem ifnullNo (O : On l Z ws R own nm bytes maxL ret C T h cells slots) {b : Addr} {o : Int} (hd : decode bytes pc = .ok (.ifnull o, 3))  (hq : pc + 3 = q)
    (K : Go C ws Q k n (T.setTop (mkF C.m q Ls (st)))) : Go C ws Q k n (T.setTop (mkF C.m pc Ls (.ref b :: st))) := by
  obtain ⟨⟨hx, -, rfl, -⟩, ⟨_, X, -⟩, -⟩ := O; subst hq
  exact K.of fun _ kk => XS.ifnullNo X.here hx rfl hd rfl kk
theorem ifnonnullNo (O : On l Z ws R own nm bytes maxL ret C T h cells slots) {o : Int} (hd : decode bytes pc = .ok (.ifnonnull o, 3))  (hq : pc + 3 = q)
    (K : Go C ws Q k n (T.setTop (mkF C.m q Ls (st)))) : Go C ws Q k n (T.setTop (mkF C.m pc Ls (.null :: st))) := by
  obtain ⟨⟨hx, -, rfl, -⟩, ⟨_, X, -⟩, -⟩ := O; subst hq
  exact K.of fun _ kk => XS.ifnonnullNo X.here hx rfl hd rfl kk
theorem acmp (O : On l Z ws R own nm bytes maxL ret C T h cells slots) {cd : ACond} {x y : Value} {o : Int} {same : Bool} (hd : decode bytes pc = .ok (.if_acmp cd o, 3)) (h1 : x.isRef = true) (h2 : y.isRef = true) (hs : decide (x = y) = same) (ho : 0 ≤ (pc : Int) + o) (hq : q = if acV cd same = true then ((pc : Int) + o).toNat else pc + 3)
    (K : Go C ws Q k n (T.setTop (mkF C.m q Ls st))) : Go C ws Q k n (T.setTop (mkF C.m pc Ls (y :: x :: st))) := by
  obtain ⟨⟨hx, -, rfl, -⟩, ⟨_, X, -⟩, -⟩ := O
  exact K.of fun _ kk => Jvm.RoadKit.acmp (g := mkF C.m pc Ls (y :: x :: st)) X hx rfl h1 h2 (pc0 := pc) (pc' := q) rfl hd rfl hs ho hq kk
theorem ldcI (O : On l Z ws R own nm bytes maxL ret C T h cells slots) {i : Nat} {v : Int32} (hd : decode bytes pc = .ok (.ldc i, 2)) (w : (Cond.constant own i v).before a0 Z = true) (hq : pc + 2 = q)
    (K : Go C ws Q k n (T.setTop (mkF C.m q Ls (.int v :: st)))) : Go C ws Q k n (T.setTop (mkF C.m pc Ls st)) := by
  obtain ⟨⟨hx, hZ, rfl, -, hown, -⟩, ⟨_, X, -⟩, -⟩ := O; subst hq
  exact K.of fun _ kk => X.ldcInt hx hown (mvT hZ w) (g := mkF C.m pc Ls st) rfl hd _ kk
theorem ldcwI (O : On l Z ws R own nm bytes maxL ret C T h cells slots) {i : Nat} {v : Int32} (hd : decode bytes pc = .ok (.ldc_w i, 3)) (w : (Cond.constant own i v).before a0 Z = true) (hq : pc + 3 = q)
    (K : Go C ws Q k n (T.setTop (mkF C.m q Ls (.int v :: st)))) : Go C ws Q k n (T.setTop (mkF C.m pc Ls st)) := by
  obtain ⟨⟨hx, hZ, rfl, -, hown, -⟩, ⟨_, X, -⟩, -⟩ := O; subst hq
  exact K.of fun _ kk => X.ldcwInt hx hown (mvT hZ w) (g := mkF C.m pc Ls st) rfl hd _ kk
theorem ldcL (O : On l Z ws R own nm bytes maxL ret C T h cells slots) {i : Nat} {v : Int64} (hd : decode bytes pc = .ok (.ldc2_w i, 3)) (w : (Cond.constantLong own i v).before a0 Z = true) (hq : pc + 3 = q)
    (K : Go C ws Q k n (T.setTop (mkF C.m q Ls (.long v :: st)))) : Go C ws Q k n (T.setTop (mkF C.m pc Ls st)) := by
  obtain ⟨⟨hx, hZ, rfl, -, hown, -⟩, ⟨_, X, -⟩, -⟩ := O; subst hq
  exact K.of fun _ kk => X.ldc2Long hx hown (mvT hZ w) (g := mkF C.m pc Ls st) rfl hd _ kk
theorem getF (O : On l Z ws R own nm bytes maxL ret C T h cells slots) {i : Nat} {R0 D f d host : String} {a : Addr} {v : Value} (hd : decode bytes pc = .ok (.getfield i, 3)) (w : (Cond.fieldLink own i R0 f d).before a0 Z = true ∨ (Cond.fieldLinkNest own i R0 f d host).before a0 Z = true) (via : Via Z R0 D f d) (F : Fld Z h a D f d v) (hq : pc + 3 = q)
    (K : ∀ T', On l Z ws R own nm bytes maxL ret C T' h cells slots → Go C ws Q k n (T'.setTop (mkF C.m q Ls (v :: st)))) : Go C ws Q k n (T.setTop (mkF C.m pc Ls (.ref a :: st))) := by
  obtain ⟨⟨hx, hZ, rfl, r1, hown, r2⟩, ⟨_, X, N⟩, eT⟩ := O; subst hq
  obtain ⟨T', X', e', stp⟩ := Jvm.RoadKit.getF X hx hZ hown w via eT F (g := mkF C.m pc Ls (.ref a :: st)) rfl rfl hd
  exact (K T' ⟨⟨hx, hZ, rfl, r1, hown, r2⟩, ⟨_, X', N⟩, e'⟩).of fun _ kk => stp _ kk
theorem getS (O : On l Z ws R own nm bytes maxL ret C T h cells slots) {i : Nat} {D f d : String} {v : Value} (hd : decode bytes pc = .ok (.getstatic i, 3)) (w : (Cond.fieldLink own i D f d).before a0 Z = true) (F : Sta Z h D f d v) (hq : pc + 3 = q)
    (K : ∀ T', On l Z ws R own nm bytes maxL ret C T' h cells slots → Go C ws Q k n (T'.setTop (mkF C.m q Ls (v :: st)))) : Go C ws Q k n (T.setTop (mkF C.m pc Ls st)) := by
  obtain ⟨⟨hx, hZ, rfl, r1, hown, r2⟩, ⟨_, X, N⟩, eT⟩ := O; subst hq
  obtain ⟨T', X', e', stp⟩ := Jvm.RoadKit.getS (host := "") X hx hZ hown w Via.refl eT F (g := mkF C.m pc Ls st) rfl hd
  exact (K T' ⟨⟨hx, hZ, rfl, r1, hown, r2⟩, ⟨_, X', N⟩, e'⟩).of fun _ kk => stp _ kk
theorem putF (O : On l Z ws R own nm bytes maxL ret C T h cells slots) {i kk : Nat} {R0 D f d host K0 : String} {ty : FieldType} {a : Addr} {v old : Value} (hd : decode bytes pc = .ok (.putfield i, 3)) (w : (Cond.fieldLink own i R0 f d).before a0 Z = true ∨ (Cond.fieldLinkNest own i R0 f d host).before a0 Z = true) (via : Via Z R0 D f d)
    (F : Fld Z h a D f d old) (E : Exa Z h a K0) (L : (Cond.lays K0 D f d).before a0 Z = true ∨ ((Cond.laysFinal K0 D f d).before a0 Z = true ∧ own = D ∧ nm = "<init>")) (wi : (Cond.instantiable K0 kk).before a0 Z = true) (hty : parseFieldDescriptor d = some ty) (hn : narrow ty v = v) (hf : fits ty v = true) (ha : a ∈ ws ∨ C.s.heap.size ≤ a) (hq : pc + 3 = q)
    (K : ∀ T' h', On l Z ws R own nm bytes maxL ret C T' h' cells slots → Wr h h' a (Jvm.RoadKit.slotOf Z D f d) v → Go C ws Q k n (T'.setTop (mkF C.m q Ls st))) : Go C ws Q k n (T.setTop (mkF C.m pc Ls (v :: .ref a :: st))) := by
  obtain ⟨⟨hx, hZ, rfl, r1, hown, hnm, r2⟩, ⟨_, X, N⟩, eT⟩ := O; subst hq
  obtain ⟨T', h', X', e', W, stp⟩ := Jvm.RoadKit.putF X hx hZ hown w via eT F E (L.imp id fun q => ⟨q.1, q.2.1, hnm.trans q.2.2⟩) wi hty hn hf (g := mkF C.m pc Ls (v :: .ref a :: st)) rfl rfl hd
  exact (K T' h' ⟨⟨hx, hZ, rfl, r1, hown, hnm, r2⟩, ⟨_, X', N.snoc ha⟩, e'⟩ W).of fun _ kk => stp _ kk
theorem newO (O : On l Z ws R own nm bytes maxL ret C T h cells slots) {i ns c2 s2 : Nat} {K0 : String} (hd : decode bytes pc = .ok (.new i, 3)) (w : (Cond.classLink own i K0).before a0 Z = true) (wi : (Cond.instantiable K0 ns).before a0 Z = true) (wz : (Cond.initialized K0).before a0 Z = true) (hc2 : cells + 1 = c2) (hs2 : slots + ns = s2) (hc : c2 ≤ R.cells) (hl : s2 ≤ R.slots) (hq : pc + 3 = q)
    (K : ∀ a T' h', a = h.size → C.s.heap.size ≤ a → On l Z ws R own nm bytes maxL ret C T' h' c2 s2 → Ext h h' → Exa Z h' a K0 → (∀ {O nm d : String} {ty : FieldType}, Laid Z a0 K0 O nm d → parseFieldDescriptor d = some ty → Fld Z h' a O nm d (defaultValue ty)) → Go C ws Q k n (T'.setTop (mkF C.m q Ls (.ref a :: st)))) : Go C ws Q k n (T.setTop (mkF C.m pc Ls st)) := by
  obtain ⟨⟨hx, hZ, rfl, r1, hown, r2⟩, ⟨_, X, N⟩, eT⟩ := O; subst hq hc2 hs2
  obtain ⟨T', h', X', e', E, A, D, -, stp⟩ := Jvm.RoadKit.newO X hx hZ hown w wi wz eT (g := mkF C.m pc Ls st) rfl hd hc hl
  exact (K _ T' h' rfl (eT ▸ X.same.2.1) ⟨⟨hx, hZ, rfl, r1, hown, r2⟩, ⟨_, X', N⟩, e'⟩ E A D).of fun _ kk => stp _ kk
theorem newP (O : On l Z ws R own nm bytes maxL ret C T h cells slots) {aty : ArrayType} {c2 s2 : Nat} (hd : decode bytes pc = .ok (.newarray aty, 2)) (w : (Cond.arrayClass (newarray.typeOf aty)).before a0 Z = true) {z : Int32} (hn : ¬ z < 0) {cap : Nat} (hcap : z.toNatClampNeg ≤ cap) (hb : cap * 8 ≤ 536870912) (hc2 : cells + 1 = c2) (hs2 : slots + cap = s2) (hc : c2 ≤ R.cells) (hl : s2 ≤ R.slots) (hq : pc + 2 = q)
    (K : ∀ a T' h' cA, a = h.size → C.s.heap.size ≤ a → On l Z ws R own nm bytes maxL ret C T' h' c2 s2 → Ext h h' → Arr Z h' a (newA cA (newarray.typeOf aty) z) (newarray.typeOf aty) → Go C ws Q k n (T'.setTop (mkF C.m q Ls (.ref a :: st)))) : Go C ws Q k n (T.setTop (mkF C.m pc Ls (.int z :: st))) := by
  obtain ⟨⟨hx, hZ, rfl, r1, hown, r2⟩, ⟨_, X, N⟩, eT⟩ := O; subst hq hc2 hs2
  obtain ⟨T', h', cA, X', e', E, A, stp⟩ := Jvm.RoadKit.newP X hx hZ w eT (g := mkF C.m pc Ls (.int z :: st)) rfl hd rfl hn hcap hb hc hl
  exact (K _ T' h' cA rfl (eT ▸ X.same.2.1) ⟨⟨hx, hZ, rfl, r1, hown, r2⟩, ⟨_, X', N⟩, e'⟩ E A).of fun _ kk => stp _ kk
theorem initO (O : On l Z ws R own nm bytes maxL ret C T h cells slots) {i : Nat} {a : Addr} (hd : decode bytes pc = .ok (.invokespecial i, 3)) (w1 : (Cond.methodLink own i Lib.objectInit).before a0 Z = true) (w2 : (Cond.instanceMethod Lib.objectInit).before a0 Z = true) (w3 : (Cond.code Lib.objectInit ⟨#[0xb1]⟩ 1 none).before a0 Z = true) (hsz : Ls.size = maxL) (hf : 1 ≤ R.frames) {W : Nat} (hW : (st.map fun v => v.category).sum ≤ W) (hl : W + 12 ≤ R.locals) (hq : pc + 3 = q)
    (K : ∀ T', On l Z ws R own nm bytes maxL ret C T' h cells slots → Go C ws Q k n (T'.setTop (mkF C.m q Ls st))) : Go C ws Q k n (T.setTop (mkF C.m pc Ls (.ref a :: st))) := by
  obtain ⟨⟨hx, hZ, rfl, r1, hown, r2⟩, ⟨_, X, N⟩, eT⟩ := O; subst hq
  obtain ⟨T', X', e', stp⟩ := Jvm.RoadKit.initO X hx hZ hown w1 w2 w3 eT (g := mkF C.m pc Ls (.ref a :: st)) rfl (hsz.trans r1.symm) rfl hd hf (W := W) (by show 2 * 0 + _ ≤ _; rw [Nat.mul_zero, Nat.zero_add]; exact hW) hl
  exact (K T' ⟨⟨hx, hZ, rfl, r1, hown, r2⟩, ⟨_, X', N⟩, e'⟩).of fun _ kk => stp _ kk
theorem iaload (O : On l Z ws R own nm bytes maxL ret C T h cells slots) {a : Addr} {cl : Cell} {j : Int32} {v : Value} (hd : decode bytes pc = .ok (.iaload, 1)) (A : Arr Z h a cl .int) (hin : ¬ (j < 0 ∨ cl.slots.size ≤ j.toNatClampNeg)) (hv : cl.slots[j.toNatClampNeg]? = some v) (hq : pc + 1 = q)
    (K : Go C ws Q k n (T.setTop (mkF C.m q Ls (v :: st)))) : Go C ws Q k n (T.setTop (mkF C.m pc Ls (.int j :: .ref a :: st))) := by
  obtain ⟨⟨hx, hZ, rfl, -⟩, ⟨_, X, N⟩, eT⟩ := O; subst hq
  exact K.of fun _ kk => X.iaload hx (by rw [eT]; exact A.1) (State.isArrayOf_alike hZ.alike A.2.1) A.2.2 hin hv (g := mkF C.m pc Ls (.int j :: .ref a :: st)) rfl rfl hd _ kk
theorem laload (O : On l Z ws R own nm bytes maxL ret C T h cells slots) {a : Addr} {cl : Cell} {j : Int32} {v : Value} (hd : decode bytes pc = .ok (.laload, 1)) (A : Arr Z h a cl .long) (hin : ¬ (j < 0 ∨ cl.slots.size ≤ j.toNatClampNeg)) (hv : cl.slots[j.toNatClampNeg]? = some v) (hq : pc + 1 = q)
    (K : Go C ws Q k n (T.setTop (mkF C.m q Ls (v :: st)))) : Go C ws Q k n (T.setTop (mkF C.m pc Ls (.int j :: .ref a :: st))) := by
  obtain ⟨⟨hx, hZ, rfl, -⟩, ⟨_, X, N⟩, eT⟩ := O; subst hq
  exact K.of fun _ kk => X.laload hx (by rw [eT]; exact A.1) (State.isArrayOf_alike hZ.alike A.2.1) A.2.2 hin hv (g := mkF C.m pc Ls (.int j :: .ref a :: st)) rfl rfl hd _ kk
theorem baload (O : On l Z ws R own nm bytes maxL ret C T h cells slots) {a : Addr} {cl : Cell} {j : Int32} {v : Value} (hd : decode bytes pc = .ok (.baload, 1)) (A : Arr Z h a cl .byte) (hin : ¬ (j < 0 ∨ cl.slots.size ≤ j.toNatClampNeg)) (hv : cl.slots[j.toNatClampNeg]? = some v) (hq : pc + 1 = q)
    (K : Go C ws Q k n (T.setTop (mkF C.m q Ls (v :: st)))) : Go C ws Q k n (T.setTop (mkF C.m pc Ls (.int j :: .ref a :: st))) := by
  obtain ⟨⟨hx, hZ, rfl, -⟩, ⟨_, X, N⟩, eT⟩ := O; subst hq
  exact K.of fun _ kk => X.baloadBytes hx (by rw [eT]; exact A.1) (State.isArrayOf_alike hZ.alike A.2.1) A.2.2 hin hv (g := mkF C.m pc Ls (.int j :: .ref a :: st)) rfl rfl hd _ kk
theorem aaload (O : On l Z ws R own nm bytes maxL ret C T h cells slots) {a : Addr} {cl : Cell} {ty : FieldType} {j : Int32} {v : Value} (hd : decode bytes pc = .ok (.aaload, 1)) (A : Arr Z h a cl ty) (hty : ty.isReference = true) (hin : ¬ (j < 0 ∨ cl.slots.size ≤ j.toNatClampNeg)) (hv : cl.slots[j.toNatClampNeg]? = some v) (hq : pc + 1 = q)
    (K : Go C ws Q k n (T.setTop (mkF C.m q Ls (v :: st)))) : Go C ws Q k n (T.setTop (mkF C.m pc Ls (.int j :: .ref a :: st))) := by
  obtain ⟨⟨hx, hZ, rfl, -⟩, ⟨_, X, N⟩, eT⟩ := O; subst hq
  exact K.of fun _ kk => X.aaload hx (by rw [eT]; exact A.1) (State.isArrayOf_alike hZ.alike A.2.1) hty A.2.2 hin hv (g := mkF C.m pc Ls (.int j :: .ref a :: st)) rfl rfl hd _ kk
theorem arraylength (O : On l Z ws R own nm bytes maxL ret C T h cells slots) {a : Addr} {cl : Cell} {ty : FieldType} {z : Int32} (hd : decode bytes pc = .ok (.arraylength, 1)) (A : Arr Z h a cl ty) (hz : cl.slots.size.toInt32 = z) (hq : pc + 1 = q)
    (K : Go C ws Q k n (T.setTop (mkF C.m q Ls (.int z :: st)))) : Go C ws Q k n (T.setTop (mkF C.m pc Ls (.ref a :: st))) := by
  obtain ⟨⟨hx, hZ, rfl, -⟩, ⟨_, X, N⟩, eT⟩ := O; subst hq hz
  exact K.of fun _ kk => X.arraylength hx (by rw [eT]; exact A.1) (State.isArrayOf_alike hZ.alike A.2.1) (g := mkF C.m pc Ls (.ref a :: st)) rfl rfl hd _ kk
theorem iastore (O : On l Z ws R own nm bytes maxL ret C T h cells slots) {a : Addr} {cl : Cell} {j : Int32} {x : Int32} (hd : decode bytes pc = .ok (.iastore, 1)) (A : Arr Z h a cl .int) (hin : ¬ (j < 0 ∨ cl.slots.size ≤ j.toNatClampNeg)) (ha : a ∈ ws ∨ C.s.heap.size ≤ a) (hq : pc + 1 = q)
    (K : ∀ T' h', On l Z ws R own nm bytes maxL ret C T' h' cells slots → Wr h h' a j.toNatClampNeg (.int x) → Go C ws Q k n (T'.setTop (mkF C.m q Ls st))) : Go C ws Q k n (T.setTop (mkF C.m pc Ls (.int x :: .int j :: .ref a :: st))) := by
  obtain ⟨⟨hx, hZ, rfl, r1, hown, r2⟩, ⟨_, X, N⟩, eT⟩ := O; subst hq
  obtain ⟨T', h', X', e', W, stp⟩ := Jvm.RoadKit.stI X hx hZ eT A hin (g := mkF C.m pc Ls (.int x :: .int j :: .ref a :: st)) rfl rfl hd
  exact (K T' h' ⟨⟨hx, hZ, rfl, r1, hown, r2⟩, ⟨_, X', N.snoc ha⟩, e'⟩ W).of fun _ kk => stp _ kk
theorem lastore (O : On l Z ws R own nm bytes maxL ret C T h cells slots) {a : Addr} {cl : Cell} {j : Int32} {x : Int64} (hd : decode bytes pc = .ok (.lastore, 1)) (A : Arr Z h a cl .long) (hin : ¬ (j < 0 ∨ cl.slots.size ≤ j.toNatClampNeg)) (ha : a ∈ ws ∨ C.s.heap.size ≤ a) (hq : pc + 1 = q)
    (K : ∀ T' h', On l Z ws R own nm bytes maxL ret C T' h' cells slots → Wr h h' a j.toNatClampNeg (.long x) → Go C ws Q k n (T'.setTop (mkF C.m q Ls st))) : Go C ws Q k n (T.setTop (mkF C.m pc Ls (.long x :: .int j :: .ref a :: st))) := by
  obtain ⟨⟨hx, hZ, rfl, r1, hown, r2⟩, ⟨_, X, N⟩, eT⟩ := O; subst hq
  obtain ⟨T', h', X', e', W, stp⟩ := Jvm.RoadKit.stJ X hx hZ eT A hin (g := mkF C.m pc Ls (.long x :: .int j :: .ref a :: st)) rfl rfl hd
  exact (K T' h' ⟨⟨hx, hZ, rfl, r1, hown, r2⟩, ⟨_, X', N.snoc ha⟩, e'⟩ W).of fun _ kk => stp _ kk
theorem bastore (O : On l Z ws R own nm bytes maxL ret C T h cells slots) {a : Addr} {cl : Cell} {j : Int32} {x : Int32} (hd : decode bytes pc = .ok (.bastore, 1)) (A : Arr Z h a cl .byte) (hin : ¬ (j < 0 ∨ cl.slots.size ≤ j.toNatClampNeg)) (ha : a ∈ ws ∨ C.s.heap.size ≤ a) (hq : pc + 1 = q)
    (K : ∀ T' h', On l Z ws R own nm bytes maxL ret C T' h' cells slots → Wr h h' a j.toNatClampNeg (.int (nar .byte x)) → Go C ws Q k n (T'.setTop (mkF C.m q Ls st))) : Go C ws Q k n (T.setTop (mkF C.m pc Ls (.int x :: .int j :: .ref a :: st))) := by
  obtain ⟨⟨hx, hZ, rfl, r1, hown, r2⟩, ⟨_, X, N⟩, eT⟩ := O; subst hq
  obtain ⟨T', h', X', e', W, stp⟩ := Jvm.RoadKit.stB X hx hZ eT A hin (g := mkF C.m pc Ls (.int x :: .int j :: .ref a :: st)) rfl rfl hd
  exact (K T' h' ⟨⟨hx, hZ, rfl, r1, hown, r2⟩, ⟨_, X', N.snoc ha⟩, e'⟩ W).of fun _ kk => stp _ kk
theorem callS (O : On l Z ws R own nm bytes maxL ret C T h cells slots) {i : Nat} {y : MethodName} {yb : ByteArray} {yl : Nat} {yr : Option FieldType} {rm : Room} {argsL rest : List Value} {wsc : List Addr} {Qc : Option Value → Heap → Prop} {ps : List FieldType} {rr : Option FieldType} {W c2 s2 : Nat}
    (hd : decode bytes pc = .ok (.invokestatic i, 3)) (w1 : (Cond.methodLink own i y).before a0 Z = true) (w2 : (Cond.static y).before a0 Z = true) (w3 : (Cond.initialized y.cls).before a0 Z = true) (w4 : (Cond.code y yb yl yr).before a0 Z = true) (hy : y.cls ≠ "java/lang/invoke/MethodHandle" ∧ y.cls ≠ "java/lang/invoke/VarHandle")
    (hM : Met l Z y yb yl yr [] rm (argsL).toArray wsc h Qc) (hsz : Ls.size = maxL) (hpd : parseMethodDescriptor y.desc = some ⟨ps, rr⟩) (hlen : argsL.length = ps.length) (hst : st = argsL.reverse ++ rest) (hW : (rest.map fun v => v.category).sum ≤ W)
    (hf : rm.frames + 1 ≤ R.frames) (hl : W + (yl + 11) + rm.locals ≤ R.locals) (hc2 : cells + rm.cells = c2) (hs2 : slots + rm.slots = s2) (hcl : c2 ≤ R.cells) (hsl : s2 ≤ R.slots) (hws : ∀ x ∈ wsc, x ∈ ws ∨ C.s.heap.size ≤ x) (hq : pc + 3 = q)
    (K : ∀ v T' h', On l Z ws R own nm bytes maxL ret C T' h' c2 s2 → Keep h h' wsc → Qc v h' → Go C ws Q k n (T'.setTop (mkF C.m q Ls (v.toList ++ rest)))) : Go C ws Q k n (T.setTop (mkF C.m pc Ls st)) := by
  obtain ⟨⟨hx, hZ, rfl, r1, hown, r2⟩, ⟨locs, X, N⟩, eT⟩ := O; subst hq hc2 hs2
  obtain ⟨v, _, ⟨T', L', k', n'⟩, -, X', ⟨Lc, hQ, l', y', z'⟩, stp⟩ := Jvm.LawKit.callS X hx (y := y) hown (mvT hZ w1) (mvT hZ w2) (mvT hZ w3) (mvT hZ w4) hy (backOf (W := W) (Q := Post wsc rm.cells h Qc) hM hZ w4 w3 hf hl) (g := mkF C.m pc Ls st) rfl (hsz.trans r1.symm) (argsL := argsL) (rest := rest) (lenOf hpd hlen) hst (by show 2 * 0 + _ ≤ _; rw [Nat.mul_zero, Nat.zero_add]; exact hW) hd (fun _ _ => ⟨rfl, eT, hcl, hsl⟩)
  dsimp only [Pt.U, Pt.locs, Pt.cells, Pt.slots] at X' l' y' z' stp hQ
  subst l' y' z'
  obtain ⟨hF, hK, hE, hQ⟩ := hQ
  have hb : C.s.heap.size ≤ h.size := eT ▸ X.same.2.1
  exact (K v T' T'.heap ⟨⟨hx, hZ, rfl, r1, hown, r2⟩, ⟨_, X', N.app fun y hy => (hF y hy).elim (hws _) fun z => Or.inr (Nat.le_trans hb z)⟩, rfl⟩ hK hQ).of fun _ kk => stp _ kk
theorem callS0 (O : On l Z ws R own nm bytes maxL ret C T h cells slots) {i : Nat} {y : MethodName} {yb : ByteArray} {yl : Nat} {yr : Option FieldType} {rm : Room} {argsL rest : List Value} {wsc : List Addr} {Qc : Option Value → Heap → Prop} {ps : List FieldType} {rr : Option FieldType} {W c2 s2 : Nat}
    (hd : decode bytes pc = .ok (.invokestatic i, 3)) (w1 : (Cond.methodLink own i y).before a0 Z = true) (w2 : (Cond.static y).before a0 Z = true) (w3 : (Cond.initialized y.cls).before a0 Z = true) (w4 : (Cond.code y yb yl yr).before a0 Z = true) (hy : y.cls ≠ "java/lang/invoke/MethodHandle" ∧ y.cls ≠ "java/lang/invoke/VarHandle")
    (hM : Met l Z y yb yl yr [] rm (argsL).toArray wsc h Qc) (hsz : Ls.size = maxL) (hpd : parseMethodDescriptor y.desc = some ⟨ps, rr⟩) (hlen : argsL.length = ps.length) (hst : st = argsL.reverse ++ rest) (hW : (rest.map fun v => v.category).sum ≤ W)
    (hf : rm.frames + 1 ≤ R.frames) (hl : W + (yl + 11) + rm.locals ≤ R.locals) (hc2 : cells + rm.cells = c2) (hs2 : slots + rm.slots = s2) (hcl : c2 ≤ R.cells) (hsl : s2 ≤ R.slots) (hrc : rm.cells = 0) (hwc : wsc = []) (hq : pc + 3 = q)
    (K : ∀ v T', On l Z ws R own nm bytes maxL ret C T' h c2 s2 → Qc v h → Go C ws Q k n (T'.setTop (mkF C.m q Ls (v.toList ++ rest)))) : Go C ws Q k n (T.setTop (mkF C.m pc Ls st)) := by
  obtain ⟨⟨hx, hZ, rfl, r1, hown, r2⟩, ⟨locs, X, N⟩, eT⟩ := O; subst hq hc2 hs2
  obtain ⟨v, _, ⟨T', L', k', n'⟩, -, X', ⟨Lc, hQ, l', y', z'⟩, stp⟩ := Jvm.LawKit.callS X hx (y := y) hown (mvT hZ w1) (mvT hZ w2) (mvT hZ w3) (mvT hZ w4) hy (backOf (W := W) (Q := Post wsc rm.cells h Qc) hM hZ w4 w3 hf hl) (g := mkF C.m pc Ls st) rfl (hsz.trans r1.symm) (argsL := argsL) (rest := rest) (lenOf hpd hlen) hst (by show 2 * 0 + _ ≤ _; rw [Nat.mul_zero, Nat.zero_add]; exact hW) hd (fun _ _ => ⟨rfl, eT, hcl, hsl⟩)
  dsimp only [Pt.U, Pt.locs, Pt.cells, Pt.slots] at X' l' y' z' stp hQ
  subst l' y' z'
  obtain ⟨hF, hK, hE, hQ⟩ := hQ
  have hb : C.s.heap.size ≤ h.size := eT ▸ X.same.2.1
  have he : T'.heap = h := hE hrc hwc
  refine (K v T' ⟨⟨hx, hZ, rfl, r1, hown, r2⟩, ⟨_, X', N.app fun y hy => (hF y hy).elim (fun z => by rw [hwc] at z; cases z) fun z => Or.inr (Nat.le_trans hb z)⟩, he⟩ (he ▸ hQ)).of fun _ kk => stp _ kk
theorem callI (O : On l Z ws R own nm bytes maxL ret C T h cells slots) {i : Nat} {y : MethodName} {yb : ByteArray} {yl : Nat} {rm : Room} {argsL rest : List Value} {wsc : List Addr} {Qc : Option Value → Heap → Prop} {ps : List FieldType} {rr : Option FieldType} {W c2 s2 : Nat} {a : Addr}
    (hd : decode bytes pc = .ok (.invokespecial i, 3)) (hy1 : y.name = "<init>") (w1 : (Cond.methodLink own i y).before a0 Z = true) (w2 : (Cond.instanceMethod y).before a0 Z = true) (w3 : (Cond.initialized y.cls).before a0 Z = true) (w4 : (Cond.code y yb yl none).before a0 Z = true) (hy : y.cls ≠ "java/lang/invoke/MethodHandle" ∧ y.cls ≠ "java/lang/invoke/VarHandle")
    (hM : Met l Z y yb yl none [] rm (Value.ref a :: argsL).toArray wsc h Qc) (hsz : Ls.size = maxL) (hpd : parseMethodDescriptor y.desc = some ⟨ps, rr⟩) (hlen : argsL.length = ps.length) (hst : st = argsL.reverse ++ .ref a :: rest) (hW : (rest.map fun v => v.category).sum ≤ W)
    (hf : rm.frames + 1 ≤ R.frames) (hl : W + (yl + 11) + rm.locals ≤ R.locals) (hc2 : cells + rm.cells = c2) (hs2 : slots + rm.slots = s2) (hcl : c2 ≤ R.cells) (hsl : s2 ≤ R.slots) (hws : ∀ x ∈ wsc, x ∈ ws ∨ C.s.heap.size ≤ x) (hq : pc + 3 = q)
    (K : ∀ v T' h', On l Z ws R own nm bytes maxL ret C T' h' c2 s2 → Keep h h' wsc → Qc v h' → Go C ws Q k n (T'.setTop (mkF C.m q Ls (v.toList ++ rest)))) : Go C ws Q k n (T.setTop (mkF C.m pc Ls st)) := by
  obtain ⟨⟨hx, hZ, rfl, r1, hown, r2⟩, ⟨locs, X, N⟩, eT⟩ := O; subst hq hc2 hs2
  obtain ⟨v, _, ⟨T', L', k', n'⟩, -, X', ⟨Lc, hQ, l', y', z'⟩, stp⟩ := X.specialBack hx (y := y) hy1 hown (mvT hZ w1) (mvT hZ w2) (mvT hZ w4) hy (backOf (W := W) (Q := Post wsc rm.cells h Qc) hM hZ w4 w3 hf hl) (g := mkF C.m pc Ls st) rfl (hsz.trans r1.symm) (Steps.refl _) (a := a) (argsL := argsL) (rest := rest) (lenOf hpd hlen) hst (by show 2 * 0 + _ ≤ _; rw [Nat.mul_zero, Nat.zero_add]; exact hW) hd (fun _ _ => ⟨rfl, eT, hcl, hsl⟩)
  dsimp only [Pt.U, Pt.locs, Pt.cells, Pt.slots] at X' l' y' z' stp hQ
  subst l' y' z'
  obtain ⟨hF, hK, hE, hQ⟩ := hQ
  have hb : C.s.heap.size ≤ h.size := eT ▸ X.same.2.1
  exact (K v T' T'.heap ⟨⟨hx, hZ, rfl, r1, hown, r2⟩, ⟨_, X', N.app fun y hy => (hF y hy).elim (hws _) fun z => Or.inr (Nat.le_trans hb z)⟩, rfl⟩ hK hQ).via (stp)
theorem callI0 (O : On l Z ws R own nm bytes maxL ret C T h cells slots) {i : Nat} {y : MethodName} {yb : ByteArray} {yl : Nat} {rm : Room} {argsL rest : List Value} {wsc : List Addr} {Qc : Option Value → Heap → Prop} {ps : List FieldType} {rr : Option FieldType} {W c2 s2 : Nat} {a : Addr}
    (hd : decode bytes pc = .ok (.invokespecial i, 3)) (hy1 : y.name = "<init>") (w1 : (Cond.methodLink own i y).before a0 Z = true) (w2 : (Cond.instanceMethod y).before a0 Z = true) (w3 : (Cond.initialized y.cls).before a0 Z = true) (w4 : (Cond.code y yb yl none).before a0 Z = true) (hy : y.cls ≠ "java/lang/invoke/MethodHandle" ∧ y.cls ≠ "java/lang/invoke/VarHandle")
    (hM : Met l Z y yb yl none [] rm (Value.ref a :: argsL).toArray wsc h Qc) (hsz : Ls.size = maxL) (hpd : parseMethodDescriptor y.desc = some ⟨ps, rr⟩) (hlen : argsL.length = ps.length) (hst : st = argsL.reverse ++ .ref a :: rest) (hW : (rest.map fun v => v.category).sum ≤ W)
    (hf : rm.frames + 1 ≤ R.frames) (hl : W + (yl + 11) + rm.locals ≤ R.locals) (hc2 : cells + rm.cells = c2) (hs2 : slots + rm.slots = s2) (hcl : c2 ≤ R.cells) (hsl : s2 ≤ R.slots) (hrc : rm.cells = 0) (hwc : wsc = []) (hq : pc + 3 = q)
    (K : ∀ v T', On l Z ws R own nm bytes maxL ret C T' h c2 s2 → Qc v h → Go C ws Q k n (T'.setTop (mkF C.m q Ls (v.toList ++ rest)))) : Go C ws Q k n (T.setTop (mkF C.m pc Ls st)) := by
  obtain ⟨⟨hx, hZ, rfl, r1, hown, r2⟩, ⟨locs, X, N⟩, eT⟩ := O; subst hq hc2 hs2
  obtain ⟨v, _, ⟨T', L', k', n'⟩, -, X', ⟨Lc, hQ, l', y', z'⟩, stp⟩ := X.specialBack hx (y := y) hy1 hown (mvT hZ w1) (mvT hZ w2) (mvT hZ w4) hy (backOf (W := W) (Q := Post wsc rm.cells h Qc) hM hZ w4 w3 hf hl) (g := mkF C.m pc Ls st) rfl (hsz.trans r1.symm) (Steps.refl _) (a := a) (argsL := argsL) (rest := rest) (lenOf hpd hlen) hst (by show 2 * 0 + _ ≤ _; rw [Nat.mul_zero, Nat.zero_add]; exact hW) hd (fun _ _ => ⟨rfl, eT, hcl, hsl⟩)
  dsimp only [Pt.U, Pt.locs, Pt.cells, Pt.slots] at X' l' y' z' stp hQ
  subst l' y' z'
  obtain ⟨hF, hK, hE, hQ⟩ := hQ
  have hb : C.s.heap.size ≤ h.size := eT ▸ X.same.2.1
  have he : T'.heap = h := hE hrc hwc
  refine (K v T' ⟨⟨hx, hZ, rfl, r1, hown, r2⟩, ⟨_, X', N.app fun y hy => (hF y hy).elim (fun z => by rw [hwc] at z; cases z) fun z => Or.inr (Nat.le_trans hb z)⟩, he⟩ (he ▸ hQ)).via (stp)
theorem callV (O : On l Z ws R own nm bytes maxL ret C T h cells slots) {i : Nat} {y z : MethodName} {yb : ByteArray} {yl : Nat} {yr : Option FieldType} {rm : Room} {argsL rest : List Value} {wsc : List Addr} {Qc : Option Value → Heap → Prop} {ps : List FieldType} {rr : Option FieldType} {W c2 s2 : Nat} {a : Addr} {K0 : String}
    (hd : decode bytes pc = .ok (.invokevirtual i, 3)) (w1 : (Cond.methodLink own i y).before a0 Z = true) (wd : (Cond.declares y).before a0 Z = true) (ws1 : (Cond.selects K0 y z).before a0 Z = true) (hyz : y = z) (w2 : (Cond.instanceMethod z).before a0 Z = true) (w3 : (Cond.initialized z.cls).before a0 Z = true) (w4 : (Cond.code z yb yl yr).before a0 Z = true) (hy : y.cls ≠ "java/lang/invoke/MethodHandle" ∧ y.cls ≠ "java/lang/invoke/VarHandle")
    (hM : Met l Z z yb yl yr [] rm (Value.ref a :: argsL).toArray wsc h Qc) (E : Exa Z h a K0) (hsz : Ls.size = maxL) (hpd : parseMethodDescriptor y.desc = some ⟨ps, rr⟩) (hlen : argsL.length = ps.length) (hst : st = argsL.reverse ++ .ref a :: rest) (hW : (rest.map fun v => v.category).sum ≤ W)
    (hf : rm.frames + 1 ≤ R.frames) (hl : W + (yl + 11) + rm.locals ≤ R.locals) (hc2 : cells + rm.cells = c2) (hs2 : slots + rm.slots = s2) (hcl : c2 ≤ R.cells) (hsl : s2 ≤ R.slots) (hws : ∀ x ∈ wsc, x ∈ ws ∨ C.s.heap.size ≤ x) (hq : pc + 3 = q)
    (K : ∀ v T' h', On l Z ws R own nm bytes maxL ret C T' h' c2 s2 → Keep h h' wsc → Qc v h' → Go C ws Q k n (T'.setTop (mkF C.m q Ls (v.toList ++ rest)))) : Go C ws Q k n (T.setTop (mkF C.m pc Ls st)) := by
  obtain ⟨⟨hx, hZ, rfl, r1, hown, r2⟩, ⟨locs, X, N⟩, eT⟩ := O; subst hq hc2 hs2
  subst hyz
  obtain ⟨_, _, q1, -, q3⟩ := isOf hZ eT E
  obtain ⟨v, _, ⟨T', L', k', n'⟩, -, X', ⟨Lc, hQ, l', y', z'⟩, stp⟩ := X.virtualBack hx (y := y) (z := y) hown (mvT hZ w1) (mvT hZ wd) (notFace_of_selects (args := #[]) (mvT hZ ws1)) (mvT hZ ws1) (mvT hZ w2) hy (backOf (W := W) (Q := Post wsc rm.cells h Qc) hM hZ w4 w3 hf hl) q1 q3 (g := mkF C.m pc Ls st) rfl (hsz.trans r1.symm) (Steps.refl _) (argsL := argsL) (rest := rest) (lenOf hpd hlen) hst (by show 2 * 0 + _ ≤ _; rw [Nat.mul_zero, Nat.zero_add]; exact hW) hd (fun _ _ => ⟨rfl, eT, hcl, hsl⟩)
  dsimp only [Pt.U, Pt.locs, Pt.cells, Pt.slots] at X' l' y' z' stp hQ
  subst l' y' z'
  obtain ⟨hF, hK, hE, hQ⟩ := hQ
  have hb : C.s.heap.size ≤ h.size := eT ▸ X.same.2.1
  exact (K v T' T'.heap ⟨⟨hx, hZ, rfl, r1, hown, r2⟩, ⟨_, X', N.app fun y hy => (hF y hy).elim (hws _) fun z => Or.inr (Nat.le_trans hb z)⟩, rfl⟩ hK hQ).via (stp)
theorem callV0 (O : On l Z ws R own nm bytes maxL ret C T h cells slots) {i : Nat} {y z : MethodName} {yb : ByteArray} {yl : Nat} {yr : Option FieldType} {rm : Room} {argsL rest : List Value} {wsc : List Addr} {Qc : Option Value → Heap → Prop} {ps : List FieldType} {rr : Option FieldType} {W c2 s2 : Nat} {a : Addr} {K0 : String}
    (hd : decode bytes pc = .ok (.invokevirtual i, 3)) (w1 : (Cond.methodLink own i y).before a0 Z = true) (wd : (Cond.declares y).before a0 Z = true) (ws1 : (Cond.selects K0 y z).before a0 Z = true) (hyz : y = z) (w2 : (Cond.instanceMethod z).before a0 Z = true) (w3 : (Cond.initialized z.cls).before a0 Z = true) (w4 : (Cond.code z yb yl yr).before a0 Z = true) (hy : y.cls ≠ "java/lang/invoke/MethodHandle" ∧ y.cls ≠ "java/lang/invoke/VarHandle")
    (hM : Met l Z z yb yl yr [] rm (Value.ref a :: argsL).toArray wsc h Qc) (E : Exa Z h a K0) (hsz : Ls.size = maxL) (hpd : parseMethodDescriptor y.desc = some ⟨ps, rr⟩) (hlen : argsL.length = ps.length) (hst : st = argsL.reverse ++ .ref a :: rest) (hW : (rest.map fun v => v.category).sum ≤ W)
    (hf : rm.frames + 1 ≤ R.frames) (hl : W + (yl + 11) + rm.locals ≤ R.locals) (hc2 : cells + rm.cells = c2) (hs2 : slots + rm.slots = s2) (hcl : c2 ≤ R.cells) (hsl : s2 ≤ R.slots) (hrc : rm.cells = 0) (hwc : wsc = []) (hq : pc + 3 = q)
    (K : ∀ v T', On l Z ws R own nm bytes maxL ret C T' h c2 s2 → Qc v h → Go C ws Q k n (T'.setTop (mkF C.m q Ls (v.toList ++ rest)))) : Go C ws Q k n (T.setTop (mkF C.m pc Ls st)) := by
  obtain ⟨⟨hx, hZ, rfl, r1, hown, r2⟩, ⟨locs, X, N⟩, eT⟩ := O; subst hq hc2 hs2
  subst hyz
  obtain ⟨_, _, q1, -, q3⟩ := isOf hZ eT E
  obtain ⟨v, _, ⟨T', L', k', n'⟩, -, X', ⟨Lc, hQ, l', y', z'⟩, stp⟩ := X.virtualBack hx (y := y) (z := y) hown (mvT hZ w1) (mvT hZ wd) (notFace_of_selects (args := #[]) (mvT hZ ws1)) (mvT hZ ws1) (mvT hZ w2) hy (backOf (W := W) (Q := Post wsc rm.cells h Qc) hM hZ w4 w3 hf hl) q1 q3 (g := mkF C.m pc Ls st) rfl (hsz.trans r1.symm) (Steps.refl _) (argsL := argsL) (rest := rest) (lenOf hpd hlen) hst (by show 2 * 0 + _ ≤ _; rw [Nat.mul_zero, Nat.zero_add]; exact hW) hd (fun _ _ => ⟨rfl, eT, hcl, hsl⟩)
  dsimp only [Pt.U, Pt.locs, Pt.cells, Pt.slots] at X' l' y' z' stp hQ
  subst l' y' z'
  obtain ⟨hF, hK, hE, hQ⟩ := hQ
  have hb : C.s.heap.size ≤ h.size := eT ▸ X.same.2.1
  have he : T'.heap = h := hE hrc hwc
  refine (K v T' ⟨⟨hx, hZ, rfl, r1, hown, r2⟩, ⟨_, X', N.app fun y hy => (hF y hy).elim (fun z => by rw [hwc] at z; cases z) fun z => Or.inr (Nat.le_trans hb z)⟩, he⟩ (he ▸ hQ)).via (stp)
theorem callP (O : On l Z ws R own nm bytes maxL ret C T h cells slots) {i : Nat} {y : MethodName} {yb : ByteArray} {yl : Nat} {yr : Option FieldType} {rm : Room} {argsL rest : List Value} {wsc : List Addr} {Qc : Option Value → Heap → Prop} {ps : List FieldType} {rr : Option FieldType} {W c2 s2 : Nat} {a : Addr} {K0 : String} {ik : Nat}
    (hd : decode bytes pc = .ok (.invokevirtual i, 3)) (w1 : (Cond.methodLink own i y).before a0 Z = true) (w2 : (Cond.instanceMethod y).before a0 Z = true) (wp : (Cond.privateMethod y).before a0 Z = true) (wi : (Cond.instantiable y.cls ik).before a0 Z = true) (w3 : (Cond.initialized y.cls).before a0 Z = true) (w4 : (Cond.code y yb yl yr).before a0 Z = true) (hy : y.cls ≠ "java/lang/invoke/MethodHandle" ∧ y.cls ≠ "java/lang/invoke/VarHandle")
    (hM : Met l Z y yb yl yr [] rm (Value.ref a :: argsL).toArray wsc h Qc) (E : Exa Z h a K0) (hsz : Ls.size = maxL) (hpd : parseMethodDescriptor y.desc = some ⟨ps, rr⟩) (hlen : argsL.length = ps.length) (hst : st = argsL.reverse ++ .ref a :: rest) (hW : (rest.map fun v => v.category).sum ≤ W)
    (hf : rm.frames + 1 ≤ R.frames) (hl : W + (yl + 11) + rm.locals ≤ R.locals) (hc2 : cells + rm.cells = c2) (hs2 : slots + rm.slots = s2) (hcl : c2 ≤ R.cells) (hsl : s2 ≤ R.slots) (hws : ∀ x ∈ wsc, x ∈ ws ∨ C.s.heap.size ≤ x) (hq : pc + 3 = q)
    (K : ∀ v T' h', On l Z ws R own nm bytes maxL ret C T' h' c2 s2 → Keep h h' wsc → Qc v h' → Go C ws Q k n (T'.setTop (mkF C.m q Ls (v.toList ++ rest)))) : Go C ws Q k n (T.setTop (mkF C.m pc Ls st)) := by
  obtain ⟨⟨hx, hZ, rfl, r1, hown, r2⟩, ⟨locs, X, N⟩, eT⟩ := O; subst hq hc2 hs2
  obtain ⟨cI, kI, i1, i2, -, i4, -⟩ := Cond.instantiable_spec (mvT (args := C.args) hZ wi)
  have hpv : C.s.PrivateAt y := Cond.privateMethod_at (mvP (args := #[]) hZ wp)
  have hsel := selects_self_of_private i1 i2 (Bool.or_eq_false_iff.mp i4).1 hpv (mvT (args := C.args) hZ w2) hy
  obtain ⟨cq, q1, q2⟩ := E.cell
  obtain ⟨v, _, ⟨T', L', k', n'⟩, -, X', ⟨Lc, hQ, l', y', z'⟩, stp⟩ := X.privateBack hx (y := y) hown (mvT hZ w1) (mvT hZ w2) hsel hpv (mvT hZ w4) hy (backOf (W := W) (Q := Post wsc rm.cells h Qc) hM hZ w4 w3 hf hl) (g := mkF C.m pc Ls st) rfl (hsz.trans r1.symm) (Steps.refl _) (a := a) (by rw [eT]; exact q1) q2 (argsL := argsL) (rest := rest) (lenOf hpd hlen) hst (by show 2 * 0 + _ ≤ _; rw [Nat.mul_zero, Nat.zero_add]; exact hW) hd (fun _ _ => ⟨rfl, eT, hcl, hsl⟩)
  dsimp only [Pt.U, Pt.locs, Pt.cells, Pt.slots] at X' l' y' z' stp hQ
  subst l' y' z'
  obtain ⟨hF, hK, hE, hQ⟩ := hQ
  have hb : C.s.heap.size ≤ h.size := eT ▸ X.same.2.1
  exact (K v T' T'.heap ⟨⟨hx, hZ, rfl, r1, hown, r2⟩, ⟨_, X', N.app fun y hy => (hF y hy).elim (hws _) fun z => Or.inr (Nat.le_trans hb z)⟩, rfl⟩ hK hQ).via (stp)
theorem callP0 (O : On l Z ws R own nm bytes maxL ret C T h cells slots) {i : Nat} {y : MethodName} {yb : ByteArray} {yl : Nat} {yr : Option FieldType} {rm : Room} {argsL rest : List Value} {wsc : List Addr} {Qc : Option Value → Heap → Prop} {ps : List FieldType} {rr : Option FieldType} {W c2 s2 : Nat} {a : Addr} {K0 : String} {ik : Nat}
    (hd : decode bytes pc = .ok (.invokevirtual i, 3)) (w1 : (Cond.methodLink own i y).before a0 Z = true) (w2 : (Cond.instanceMethod y).before a0 Z = true) (wp : (Cond.privateMethod y).before a0 Z = true) (wi : (Cond.instantiable y.cls ik).before a0 Z = true) (w3 : (Cond.initialized y.cls).before a0 Z = true) (w4 : (Cond.code y yb yl yr).before a0 Z = true) (hy : y.cls ≠ "java/lang/invoke/MethodHandle" ∧ y.cls ≠ "java/lang/invoke/VarHandle")
    (hM : Met l Z y yb yl yr [] rm (Value.ref a :: argsL).toArray wsc h Qc) (E : Exa Z h a K0) (hsz : Ls.size = maxL) (hpd : parseMethodDescriptor y.desc = some ⟨ps, rr⟩) (hlen : argsL.length = ps.length) (hst : st = argsL.reverse ++ .ref a :: rest) (hW : (rest.map fun v => v.category).sum ≤ W)
    (hf : rm.frames + 1 ≤ R.frames) (hl : W + (yl + 11) + rm.locals ≤ R.locals) (hc2 : cells + rm.cells = c2) (hs2 : slots + rm.slots = s2) (hcl : c2 ≤ R.cells) (hsl : s2 ≤ R.slots) (hrc : rm.cells = 0) (hwc : wsc = []) (hq : pc + 3 = q)
    (K : ∀ v T', On l Z ws R own nm bytes maxL ret C T' h c2 s2 → Qc v h → Go C ws Q k n (T'.setTop (mkF C.m q Ls (v.toList ++ rest)))) : Go C ws Q k n (T.setTop (mkF C.m pc Ls st)) := by
  obtain ⟨⟨hx, hZ, rfl, r1, hown, r2⟩, ⟨locs, X, N⟩, eT⟩ := O; subst hq hc2 hs2
  obtain ⟨cI, kI, i1, i2, -, i4, -⟩ := Cond.instantiable_spec (mvT (args := C.args) hZ wi)
  have hpv : C.s.PrivateAt y := Cond.privateMethod_at (mvP (args := #[]) hZ wp)
  have hsel := selects_self_of_private i1 i2 (Bool.or_eq_false_iff.mp i4).1 hpv (mvT (args := C.args) hZ w2) hy
  obtain ⟨cq, q1, q2⟩ := E.cell
  obtain ⟨v, _, ⟨T', L', k', n'⟩, -, X', ⟨Lc, hQ, l', y', z'⟩, stp⟩ := X.privateBack hx (y := y) hown (mvT hZ w1) (mvT hZ w2) hsel hpv (mvT hZ w4) hy (backOf (W := W) (Q := Post wsc rm.cells h Qc) hM hZ w4 w3 hf hl) (g := mkF C.m pc Ls st) rfl (hsz.trans r1.symm) (Steps.refl _) (a := a) (by rw [eT]; exact q1) q2 (argsL := argsL) (rest := rest) (lenOf hpd hlen) hst (by show 2 * 0 + _ ≤ _; rw [Nat.mul_zero, Nat.zero_add]; exact hW) hd (fun _ _ => ⟨rfl, eT, hcl, hsl⟩)
  dsimp only [Pt.U, Pt.locs, Pt.cells, Pt.slots] at X' l' y' z' stp hQ
  subst l' y' z'
  obtain ⟨hF, hK, hE, hQ⟩ := hQ
  have hb : C.s.heap.size ≤ h.size := eT ▸ X.same.2.1
  have he : T'.heap = h := hE hrc hwc
  refine (K v T' ⟨⟨hx, hZ, rfl, r1, hown, r2⟩, ⟨_, X', N.app fun y hy => (hF y hy).elim (fun z => by rw [hwc] at z; cases z) fun z => Or.inr (Nat.le_trans hb z)⟩, he⟩ (he ▸ hQ)).via (stp)
theorem tltL {x y : Int64} (h : x < y) : ifCond.holds .lt (lcmpW x y) = true ∧ ifCond.holds .ge (lcmpW x y) = false ∧ ifCond.holds .gt (lcmpW y x) = true ∧ ifCond.holds .le (lcmpW y x) = false := by
  rw [if0, if0, if0, if0]
  exact ⟨(tlt ((lw_lt x y).mpr h)).1, (tlt ((lw_lt x y).mpr h)).2.1, (tlt ((lw_gt y x).mpr h)).2.2.1, (tlt ((lw_gt y x).mpr h)).2.2.2⟩
theorem fltL {x y : Int64} (h : ¬ x < y) : ifCond.holds .lt (lcmpW x y) = false ∧ ifCond.holds .ge (lcmpW x y) = true ∧ ifCond.holds .gt (lcmpW y x) = false ∧ ifCond.holds .le (lcmpW y x) = true := by
  rw [if0, if0, if0, if0]
  have h1 : ¬ lcmpW x y < 0 := fun q => h ((lw_lt x y).mp q)
  have h2 : ¬ 0 < lcmpW y x := fun q => h ((lw_gt y x).mp q)
  exact ⟨(flt h1).1, (flt h1).2.1, (flt h2).2.2.1, (flt h2).2.2.2⟩
theorem teqL {x y : Int64} (h : x = y) : ifCond.holds .eq (lcmpW x y) = true ∧ ifCond.holds .ne (lcmpW x y) = false := by
  rw [if0, if0]; exact teq ((lw_eq x y).mpr h)
theorem feqL {x y : Int64} (h : ¬ x = y) : ifCond.holds .eq (lcmpW x y) = false ∧ ifCond.holds .ne (lcmpW x y) = true := by
  rw [if0, if0]; exact feq fun q => h ((lw_eq x y).mp q)
theorem tlt0 {x : Int32} (h : x < 0) : ifCond.holds .lt x = true ∧ ifCond.holds .ge x = false := by rw [if0, if0]; exact ⟨(tlt h).1, (tlt h).2.1⟩
theorem flt0 {x : Int32} (h : ¬ x < 0) : ifCond.holds .lt x = false ∧ ifCond.holds .ge x = true := by rw [if0, if0]; exact ⟨(flt h).1, (flt h).2.1⟩
theorem tgt0 {x : Int32} (h : 0 < x) : ifCond.holds .gt x = true ∧ ifCond.holds .le x = false := by rw [if0, if0]; exact ⟨(tlt h).2.2.1, (tlt h).2.2.2⟩
theorem fgt0 {x : Int32} (h : ¬ 0 < x) : ifCond.holds .gt x = false ∧ ifCond.holds .le x = true := by rw [if0, if0]; exact ⟨(flt h).2.2.1, (flt h).2.2.2⟩
theorem teq0 {x : Int32} (h : x = 0) : ifCond.holds .eq x = true ∧ ifCond.holds .ne x = false := by rw [if0, if0]; exact teq h
theorem feq0 {x : Int32} (h : ¬ x = 0) : ifCond.holds .eq x = false ∧ ifCond.holds .ne x = true := by rw [if0, if0]; exact feq h
end Steps
end Jvm.OwnW

namespace Jvm.OwnW
open Sem ClassFile Op Lib Jvm.Free Jvm.Stand Jvm.LawKit Jvm.RoadKit
/-- an array of n places of the kind ty; place j holds f j -/
def Ar (Z : State) (h : Heap) (a : Addr) (ty : FieldType) (n : Nat) (f : Nat → Value) : Prop := ∃ cl : Cell, Arr Z h a cl ty ∧ cl.slots.size = n ∧ n < 2147483648 ∧ ∀ j, j < n → cl.slots[j]? = some (f j)
/-- the values of a list by their places -/
def lf (vs : List Value) : Nat → Value := fun j => vs.getD j .null
def updV (f : Nat → Value) (i : Nat) (v : Value) : Nat → Value := fun j => if j = i then v else f j
section Arrs
variable {Z : State} {h h' : Heap} {a b : Addr} {ty : FieldType} {n i sl : Nat} {f g : Nat → Value} {v : Value} {ws : List Addr} {vs : List Value}
theorem Ar.lt (F : Ar Z h a ty n f) : a < h.size := by obtain ⟨_, A, -⟩ := F; exact A.lt
theorem Ar.ext (F : Ar Z h a ty n f) (E : Ext h h') : Ar Z h' a ty n f := by obtain ⟨c, A, r⟩ := F; exact ⟨c, A.ext E, r⟩
theorem Ar.keep (F : Ar Z h a ty n f) (K : Keep h h' ws) (q : a ∉ ws) : Ar Z h' a ty n f := by obtain ⟨c, A, r⟩ := F; exact ⟨c, ⟨K.2.1 a c A.1 q, A.2⟩, r⟩
theorem Ar.other (F : Ar Z h b ty n f) (W : Wr h h' a sl v) (q : b ≠ a) : Ar Z h' b ty n f := by obtain ⟨c, A, r⟩ := F; exact ⟨c, A.other W q, r⟩
theorem Ar.congr (F : Ar Z h a ty n f) (q : ∀ j, j < n → f j = g j) : Ar Z h a ty n g := by obtain ⟨c, A, r1, r2, r3⟩ := F; exact ⟨c, A, r1, r2, fun j hj => by rw [r3 j hj, q j hj]⟩
theorem Ar.small (F : Ar Z h a ty n f) : n < 2147483648 := by obtain ⟨c, A, r1, r2, r3⟩ := F; exact r2
theorem toNat_of {z : Int32} {n : Nat} (hz : z.toInt = n) : z.toNatClampNeg = n := by simp only [Int32.toNatClampNeg, hz, Int.toNat_natCast]
theorem Ar.new {k : ClassId} {z : Int32} (A : Arr Z h a (newA k ty z) ty) (hz : z.toInt = n) : Ar Z h a ty n (fun _ => defaultValue ty) := by
  have q := toNat_of hz
  refine ⟨_, A, by rw [sz_new, q], ?_, fun j hj => ?_⟩
  · have := z.toInt_lt; omega
  · simp [newA, q, hj]
theorem Ar.set (F : Ar Z h a ty n f) (W : Wr h h' a i v) (hi : i < n) : Ar Z h' a ty n (updV f i v) := by
  obtain ⟨c, A, r1, r2, r3⟩ := F
  refine ⟨_, A.same W, by rw [sz_set]; exact r1, r2, fun j hj => ?_⟩
  by_cases e : j = i
  · subst e; simp [Cell.setSlot, updV, r1, hi]
  · simp only [Cell.setSlot, updV, if_neg e]; rw [Array.getElem?_setIfInBounds_ne (Ne.symm e)]; exact r3 j hj
theorem Ar.setL (F : Ar Z h a ty n (lf vs)) (W : Wr h h' a i v) (hi : i < n) (hl : i < vs.length) : Ar Z h' a ty n (lf (vs.set i v)) := (F.set W hi).congr fun j _ => by
  simp only [updV, lf, List.getD_eq_getElem?_getD]
  by_cases e : j = i
  · subst e; simp [hl]
  · rw [if_neg e, List.getElem?_set_ne (Ne.symm e)]
theorem lf_rep (n : Nat) (d : Value) (j : Nat) (hj : j < n) : d = lf (List.replicate n d) j := by simp [lf, hj]
theorem updV_lf (L : List Value) (hi : i < L.length) : updV (lf L) i v = lf (L.set i v) := by
  funext j
  simp only [updV, lf, List.getD_eq_getElem?_getD]
  by_cases e : j = i
  · subst e; simp [hi]
  · rw [if_neg e, List.getElem?_set_ne (Ne.symm e)]
theorem fill_step (N : Nat → Value) (d : Value) (i j : Nat) : updV (fun j => if j < i then N j else d) i (N i) j = if j < i + 1 then N j else d := by
  simp only [updV]
  by_cases e : j = i
  · subst e; rw [if_pos rfl, if_pos (Nat.lt_succ_self j)]
  · rw [if_neg e]
    by_cases q : j < i
    · rw [if_pos q, if_pos (by omega)]
    · rw [if_neg q, if_neg (by omega)]
theorem Ar.of_arr' {cl : Cell} (A : Arr Z h a cl ty) (hn : cl.slots.size = n) (h31 : n < 2147483648) : Ar Z h a ty n (fun j => (cl.slots[j]?).getD .null) :=
  ⟨cl, A, hn, h31, fun j hj => by simp [hn, hj]⟩
theorem staKeep1 {D n d K0 : String} (F : Sta Z h D n d v) (K : Keep h h' [a]) (E : Exa Z h a K0) : Sta Z h' D n d v := by
  obtain ⟨cf, i, k, f, st, cell, h1, h2, h3, h4, h5, h6, r⟩ := F
  refine ⟨cf, i, k, f, st, cell, h1, h2, h3, h4, K.2.1 _ _ h5 (fun q => ?_), h6, r⟩
  obtain ⟨c, _, e1, -, -, e4, -⟩ := E
  cases List.mem_singleton.mp q
  cases h5.symm.trans e1
  rw [e4] at h6; cases h6
theorem Ar.of_arr {cl : Cell} (A : Arr Z h a cl ty) (hn : cl.slots.size = n) (h31 : n < 2147483648) : ∃ f, Ar Z h a ty n f :=
  ⟨fun j => cl.slots.getD j .null, cl, A, hn, h31, fun j hj => by simp [Array.getD, hn, hj]⟩
theorem staKeep {D n d : String} (F : Sta Z h D n d v) (K : Keep h h' []) : Sta Z h' D n d v := by
  obtain ⟨cf, i, k, f, st, cell, h1, h2, h3, h4, h5, r⟩ := F
  exact ⟨cf, i, k, f, st, cell, h1, h2, h3, h4, K.2.1 _ _ h5 (fun q => nomatch q), r⟩
theorem lenEq {t : Term} {args : Array Value} {s : State} {cl : Cell} {z : Int32} (et : t.eval args s none [] s = some (.ref a)) (ha : s.arrayAt? a = some cl) (hc : (Cond.eq (.length t) (.int z)).value args s none s [] = some true) : cl.slots.size.toInt32 = z ∧ cl.slots.size < 2147483648 := by
  by_cases hb : cl.slots.size < 2 ^ 31
  · exact ⟨gotT (Cond.eq_ints (len_f et ha hb) (Term.int_eval z)) hc, hb⟩
  · obtain ⟨x, y, q1, -⟩ := cmp_v (Or.inl hc)
    simp [Term.eval, et, ha, hb] at q1
theorem inb {z : Int32} {m : Nat} (hz : z.toInt = (i : Int)) (hm : m = n) (hi : i < n) : ¬ (z < 0 ∨ m ≤ z.toNatClampNeg) := by
  rw [toNat_of hz, Int32.lt_iff_toInt_lt, hz, hm]
  have : (0 : Int32).toInt = 0 := rfl
  rw [this]; omega
theorem len32 {m : Nat} {z : Int32} (hm : m = n) (hn : n < 2147483648) (hz : z.toInt = n) : m.toInt32 = z := by
  apply Int32.toInt_inj.mp; rw [hz, hm]; exact len_toInt hn
end Arrs
section ArrSteps
variable {l : Launch} {Z : State} {a0 : Array Value} {ws : List Addr} {R : Room} {own nm : String} {bytes : ByteArray} {maxL : Nat} {ret : Option FieldType} {C : Ctx} {T : State} {h : Heap} {cells slots k n : Nat} {Q : Option Value → Heap → Prop} {pc q : Nat} {Ls L' : Array Slot} {st : List Value}
  {a : Addr} {j : Int32} {i N : Nat} {f : Nat → Value} {v : Value} {ty : FieldType}
theorem ialA (O : On l Z ws R own nm bytes maxL ret C T h cells slots) (hd : decode bytes pc = .ok (.iaload, 1)) (V : Ar Z h a .int N f) (hj : j.toInt = (i : Int)) (hi : i < N) (hv : f i = v) (hq : pc + 1 = q)
    (K : Go C ws Q k n (T.setTop (mkF C.m q Ls (v :: st)))) : Go C ws Q k n (T.setTop (mkF C.m pc Ls (.int j :: .ref a :: st))) := by
  obtain ⟨c, A, r1, r2, r3⟩ := V
  exact iaload O hd A (inb hj r1 hi) (by rw [toNat_of hj, ← hv]; exact r3 i hi) hq K
theorem lalA (O : On l Z ws R own nm bytes maxL ret C T h cells slots) (hd : decode bytes pc = .ok (.laload, 1)) (V : Ar Z h a .long N f) (hj : j.toInt = (i : Int)) (hi : i < N) (hv : f i = v) (hq : pc + 1 = q)
    (K : Go C ws Q k n (T.setTop (mkF C.m q Ls (v :: st)))) : Go C ws Q k n (T.setTop (mkF C.m pc Ls (.int j :: .ref a :: st))) := by
  obtain ⟨c, A, r1, r2, r3⟩ := V
  exact laload O hd A (inb hj r1 hi) (by rw [toNat_of hj, ← hv]; exact r3 i hi) hq K
theorem balA (O : On l Z ws R own nm bytes maxL ret C T h cells slots) (hd : decode bytes pc = .ok (.baload, 1)) (V : Ar Z h a .byte N f) (hj : j.toInt = (i : Int)) (hi : i < N) (hv : f i = v) (hq : pc + 1 = q)
    (K : Go C ws Q k n (T.setTop (mkF C.m q Ls (v :: st)))) : Go C ws Q k n (T.setTop (mkF C.m pc Ls (.int j :: .ref a :: st))) := by
  obtain ⟨c, A, r1, r2, r3⟩ := V
  exact baload O hd A (inb hj r1 hi) (by rw [toNat_of hj, ← hv]; exact r3 i hi) hq K
theorem aalA (O : On l Z ws R own nm bytes maxL ret C T h cells slots) (hd : decode bytes pc = .ok (.aaload, 1)) (V : Ar Z h a ty N f) (hty : ty.isReference = true) (hj : j.toInt = (i : Int)) (hi : i < N) (hv : f i = v) (hq : pc + 1 = q)
    (K : Go C ws Q k n (T.setTop (mkF C.m q Ls (v :: st)))) : Go C ws Q k n (T.setTop (mkF C.m pc Ls (.int j :: .ref a :: st))) := by
  obtain ⟨c, A, r1, r2, r3⟩ := V
  exact aaload O hd A hty (inb hj r1 hi) (by rw [toNat_of hj, ← hv]; exact r3 i hi) hq K
theorem lenA (O : On l Z ws R own nm bytes maxL ret C T h cells slots) (hd : decode bytes pc = .ok (.arraylength, 1)) (V : Ar Z h a ty N f) {z : Int32} (hz : z.toInt = N) (hq : pc + 1 = q)
    (K : Go C ws Q k n (T.setTop (mkF C.m q Ls (.int z :: st)))) : Go C ws Q k n (T.setTop (mkF C.m pc Ls (.ref a :: st))) := by
  obtain ⟨c, A, r1, r2, r3⟩ := V
  exact arraylength O hd A (len32 r1 r2 hz) hq K
theorem iasA (O : On l Z ws R own nm bytes maxL ret C T h cells slots) {x : Int32} (hd : decode bytes pc = .ok (.iastore, 1)) (V : Ar Z h a .int N f) (hj : j.toInt = (i : Int)) (hi : i < N) (ha : a ∈ ws ∨ C.s.heap.size ≤ a) (hq : pc + 1 = q)
    (K : ∀ T' h', On l Z ws R own nm bytes maxL ret C T' h' cells slots → Wr h h' a i (.int x) → Go C ws Q k n (T'.setTop (mkF C.m q Ls st))) : Go C ws Q k n (T.setTop (mkF C.m pc Ls (.int x :: .int j :: .ref a :: st))) := by
  obtain ⟨c, A, r1, r2, r3⟩ := V
  exact iastore O hd A (inb hj r1 hi) ha hq fun T' h' O' W => K T' h' O' (toNat_of hj ▸ W)
theorem lasA (O : On l Z ws R own nm bytes maxL ret C T h cells slots) {x : Int64} (hd : decode bytes pc = .ok (.lastore, 1)) (V : Ar Z h a .long N f) (hj : j.toInt = (i : Int)) (hi : i < N) (ha : a ∈ ws ∨ C.s.heap.size ≤ a) (hq : pc + 1 = q)
    (K : ∀ T' h', On l Z ws R own nm bytes maxL ret C T' h' cells slots → Wr h h' a i (.long x) → Go C ws Q k n (T'.setTop (mkF C.m q Ls st))) : Go C ws Q k n (T.setTop (mkF C.m pc Ls (.long x :: .int j :: .ref a :: st))) := by
  obtain ⟨c, A, r1, r2, r3⟩ := V
  exact lastore O hd A (inb hj r1 hi) ha hq fun T' h' O' W => K T' h' O' (toNat_of hj ▸ W)
theorem basA (O : On l Z ws R own nm bytes maxL ret C T h cells slots) {x y : Int32} (hd : decode bytes pc = .ok (.bastore, 1)) (V : Ar Z h a .byte N f) (hj : j.toInt = (i : Int)) (hi : i < N) (ha : a ∈ ws ∨ C.s.heap.size ≤ a) (hy : x.toInt8.toInt32 = y) (hq : pc + 1 = q)
    (K : ∀ T' h', On l Z ws R own nm bytes maxL ret C T' h' cells slots → Wr h h' a i (.int y) → Go C ws Q k n (T'.setTop (mkF C.m q Ls st))) : Go C ws Q k n (T.setTop (mkF C.m pc Ls (.int x :: .int j :: .ref a :: st))) := by
  obtain ⟨c, A, r1, r2, r3⟩ := V
  subst hy
  exact bastore O hd A (inb hj r1 hi) ha hq fun T' h' O' W => K T' h' O' (toNat_of hj ▸ W)
theorem newA' (O : On l Z ws R own nm bytes maxL ret C T h cells slots) {aty : ArrayType} {c2 s2 : Nat} (hd : decode bytes pc = .ok (.newarray aty, 2)) (ht : newarray.typeOf aty = ty) (w : (Cond.arrayClass ty).before a0 Z = true) {z : Int32} (hz : z.toInt = N) {cap : Nat} (hcap : N ≤ cap) (hb : cap * 8 ≤ 536870912) (hc2 : cells + 1 = c2) (hs2 : slots + cap = s2) (hc : c2 ≤ R.cells) (hl : s2 ≤ R.slots) (hq : pc + 2 = q)
    (K : ∀ a T' h', a = h.size → C.s.heap.size ≤ a → On l Z ws R own nm bytes maxL ret C T' h' c2 s2 → Ext h h' → Ar Z h' a ty N (fun _ => defaultValue ty) → Go C ws Q k n (T'.setTop (mkF C.m q Ls (.ref a :: st)))) : Go C ws Q k n (T.setTop (mkF C.m pc Ls (.int z :: st))) := by
  subst ht
  refine newP O hd w ?_ (by rw [toNat_of hz]; exact hcap) hb hc2 hs2 hc hl hq fun a T' h' cA e1 e2 O' E A => K a T' h' e1 e2 O' E (Ar.new A hz)
  rw [Int32.lt_iff_toInt_lt, hz]
  have : (0 : Int32).toInt = 0 := rfl
  rw [this]; omega
end ArrSteps
end Jvm.OwnW

namespace Jvm.OwnW
open Jvm.RoadKit
theorem add32 {x y : Int32} (h1 : -2147483648 ≤ x.toInt + y.toInt) (h2 : x.toInt + y.toInt < 2147483648) : (x + y).toInt = x.toInt + y.toInt := by
  have := c_iadd x y; have := rng32 (x + y); omega
theorem sub32 {x y : Int32} (h1 : -2147483648 ≤ x.toInt - y.toInt) (h2 : x.toInt - y.toInt < 2147483648) : (x - y).toInt = x.toInt - y.toInt := by
  have := c_isub x y; have := rng32 (x - y); omega
theorem mul32 {x y : Int32} (h1 : -2147483648 ≤ x.toInt * y.toInt) (h2 : x.toInt * y.toInt < 2147483648) : (x * y).toInt = x.toInt * y.toInt := by
  have := c_imul x y; have := rng32 (x * y); omega
theorem add64 {x y : Int64} (h1 : -9223372036854775808 ≤ x.toInt + y.toInt) (h2 : x.toInt + y.toInt < 9223372036854775808) : (x + y).toInt = x.toInt + y.toInt := by
  have := c_ladd x y; have := rng64 (x + y); omega
theorem sub64 {x y : Int64} (h1 : -9223372036854775808 ≤ x.toInt - y.toInt) (h2 : x.toInt - y.toInt < 9223372036854775808) : (x - y).toInt = x.toInt - y.toInt := by
  have := c_lsub x y; have := rng64 (x - y); omega
theorem mul64 {x y : Int64} (h1 : -9223372036854775808 ≤ x.toInt * y.toInt) (h2 : x.toInt * y.toInt < 9223372036854775808) : (x * y).toInt = x.toInt * y.toInt := by
  have := c_lmul x y; have := rng64 (x * y); omega
theorem ne0_32 {z : Int32} (h : 0 < z.toInt) : z ≠ 0 := fun e => by subst e; exact absurd h (by decide)
theorem ne0_64 {z : Int64} (h : 0 < z.toInt) : z ≠ 0 := fun e => by subst e; exact absurd h (by decide)
theorem lt32 {x y : Int32} (h : x.toInt < y.toInt) : x < y := Int32.lt_iff_toInt_lt.mpr h
theorem nlt32 {x y : Int32} (h : y.toInt ≤ x.toInt) : ¬ x < y := fun q => by rw [Int32.lt_iff_toInt_lt] at q; omega
theorem lt64 {x y : Int64} (h : x.toInt < y.toInt) : x < y := Int64.lt_iff_toInt_lt.mpr h
theorem nlt64 {x y : Int64} (h : y.toInt ≤ x.toInt) : ¬ x < y := fun q => by rw [Int64.lt_iff_toInt_lt] at q; omega
theorem eq32 {x y : Int32} (h : x.toInt = y.toInt) : x = y := Int32.toInt_inj.mp h
theorem ne32 {x y : Int32} (h : x.toInt ≠ y.toInt) : ¬ x = y := fun e => h (congrArg _ e)
theorem ne64 {x y : Int64} (h : x.toInt ≠ y.toInt) : ¬ x = y := fun e => h (congrArg _ e)
theorem inc32 {z : Int32} {i : Nat} (hi : z.toInt = (i : Int)) (hb : i < 2147483647) : (z + 1).toInt = ((i + 1 : Nat) : Int) := by
  have h1 : (1 : Int32).toInt = 1 := rfl
  rw [add32 (by omega) (by omega)]; omega
theorem dec32 {z : Int32} {i : Nat} (hi : z.toInt = (i : Int)) (hb : 1 ≤ i) : (z - 1).toInt = ((i - 1 : Nat) : Int) := by
  have h1 : (1 : Int32).toInt = 1 := rfl
  have := rng32 z
  rw [sub32 (by omega) (by omega)]; omega
theorem rem64 {x y : Int64} {d : Int} (hy : y.toInt = d) (hx : 0 ≤ x.toInt) : (x % y).toInt = x.toInt % d := by rw [Int64.toInt_mod, hy]; exact (tr _ _).1 hx
theorem rem32 {x y : Int32} {d : Int} (hy : y.toInt = d) (hx : 0 ≤ x.toInt) : (x % y).toInt = x.toInt % d := by rw [Int32.toInt_mod, hy]; exact (tr _ _).1 hx
theorem eq64 {x y : Int64} (h : x.toInt = y.toInt) : x = y := Int64.toInt_inj.mp h
/-- (s & 0x7fffffff) % z for a z above 0 -/
theorem rem_in (s z : Int32) (hz : 0 < z.toInt) : ∃ i : Nat, ((s &&& 2147483647) % z).toInt = (i : Int) ∧ (i : Int) < z.toInt := by
  have h1 := c_mask s 2147483647 31 (by decide) (by decide)
  have h2 := (c_iremV (s &&& 2147483647) z).1 (by omega) hz
  exact ⟨((s &&& 2147483647) % z).toInt.toNat, by omega, by omega⟩
theorem b8 (x : Int32) : x.toInt8.toInt32.toInt8.toInt32 = x.toInt8.toInt32 := by
  have h := c_i2b x; have h2 := c_i2b x.toInt8.toInt32
  apply Int32.toInt_inj.mp; omega
theorem lf_int (L : List Int32) (j : Nat) (hj : j < L.length) : lf (L.map Value.int) j = .int (L.getD j 0) := by
  simp [lf, List.getD_eq_getElem?_getD, hj]
theorem lf_long (L : List Int64) (j : Nat) (hj : j < L.length) : lf (L.map Value.long) j = .long (L.getD j 0) := by
  simp [lf, List.getD_eq_getElem?_getD, hj]
end Jvm.OwnW

namespace Jvm.OwnW
open Sem ClassFile Op Lib Jvm.Free Jvm.Stand Jvm.LawKit Jvm.RoadKit
/-- the Class object of the class K0 has been made: it is a -/
def MirO (Z : State) (K0 : String) (a : Addr) : Prop := ∃ c k, Z.vm.findClass K0 = some c ∧ Z.vm.classes[c]? = some k ∧ k.mirror = some a
theorem catR {v : Value} (h : v.isRef = true) : v.category = 1 := by cases v <;> first | rfl | cases h
theorem isRef_ite {c : Prop} [Decidable c] {a b : Value} (ha : a.isRef = true) (hb : b.isRef = true) : (if c then a else b).isRef = true := by split <;> assumption
theorem ite_val {α : Type} {c : Prop} [Decidable c] {a b v : α} (h1 : c → a = v) (h2 : ¬ c → b = v) : (if c then a else b) = v := by
  by_cases h : c
  · rw [if_pos h]; exact h1 h
  · rw [if_neg h]; exact h2 h
section StepsR
variable {l : Launch} {Z : State} {a0 : Array Value} {ws : List Addr} {R : Room} {own nm : String} {bytes : ByteArray} {maxL : Nat} {ret : Option FieldType} {C : Ctx} {T : State} {h : Heap} {cells slots k n : Nat} {Q : Option Value → Heap → Prop} {pc q : Nat} {Ls L' : Array Slot} {st : List Value}
theorem ldcM (O : On l Z ws R own nm bytes maxL ret C T h cells slots) {i : Nat} {K0 : String} {a : Addr} (hd : decode bytes pc = .ok (.ldc i, 2)) (w : (Cond.classLink own i K0).before a0 Z = true) (M : MirO Z K0 a) (hq : pc + 2 = q)
    (K : ∀ T', On l Z ws R own nm bytes maxL ret C T' h cells slots → Go C ws Q k n (T'.setTop (mkF C.m q Ls (.ref a :: st)))) : Go C ws Q k n (T.setTop (mkF C.m pc Ls st)) := by
  obtain ⟨⟨hx, hZ, rfl, r1, hown, r2⟩, ⟨_, X, N⟩, eT⟩ := O; subst hq
  obtain ⟨c, kc, m1, m2, m3⟩ := M
  obtain ⟨k', q1, q2⟩ := hZ.alike.2.2 _ _ m2
  have q3 : C.s.vm.findClass K0 = some c := by rw [hZ.alike.findClass]; exact m1
  have q4 : k'.mirror = some a := by rw [q2]; exact m3
  have hev : (Term.mirror K0).eval C.args C.s none [] C.s = some (.ref a) := by simp [Term.eval, q3, q1, q4]
  obtain ⟨vm', X', stp⟩ := X.ldcMirror hx hown (mvT hZ w) hev (g := mkF C.m pc Ls st) rfl hd
  exact (K _ ⟨⟨hx, hZ, rfl, r1, hown, r2⟩, ⟨_, X', N⟩, eT⟩).of fun _ kk => stp _ kk
theorem lswIn (O : On l Z ws R own nm bytes maxL ret C T h cells slots) {df v : Int} {prs : Array (Int × Int)} {ln : Nat} {x : Int32} {o : Int} (hd : decode bytes pc = .ok (.lookupswitch df prs, ln)) (hs : (prs.toList.zip (prs.toList.drop 1)).all (fun (a, next) => a.1 < next.1) = true) (hf : prs.find? (·.1 == x.toInt) = some (v, o)) (h0 : 0 ≤ (pc : Int) + o) (hq : ((pc : Int) + o).toNat = q)
    (K : Go C ws Q k n (T.setTop (mkF C.m q Ls st))) : Go C ws Q k n (T.setTop (mkF C.m pc Ls (.int x :: st))) := by
  obtain ⟨⟨hx, -, rfl, -⟩, ⟨_, X, -⟩, -⟩ := O; subst hq
  refine K.of fun _ kk => ?_
  jvm_step X.here [X.here.top, hx, hd, lookupswitch.wp_whole, hf, h0]
  refine ⟨by simpa using hs, kk⟩
theorem lswOut (O : On l Z ws R own nm bytes maxL ret C T h cells slots) {o : Int} {prs : Array (Int × Int)} {ln : Nat} {x : Int32} (hd : decode bytes pc = .ok (.lookupswitch o prs, ln)) (hs : (prs.toList.zip (prs.toList.drop 1)).all (fun (a, next) => a.1 < next.1) = true) (hf : prs.find? (·.1 == x.toInt) = none) (h0 : 0 ≤ (pc : Int) + o) (hq : ((pc : Int) + o).toNat = q)
    (K : Go C ws Q k n (T.setTop (mkF C.m q Ls st))) : Go C ws Q k n (T.setTop (mkF C.m pc Ls (.int x :: st))) := by
  obtain ⟨⟨hx, -, rfl, -⟩, ⟨_, X, -⟩, -⟩ := O; subst hq
  refine K.of fun _ kk => ?_
  jvm_step X.here [X.here.top, hx, hd, lookupswitch.wp_whole, hf, h0]
  refine ⟨by simpa using hs, kk⟩
theorem castY (O : On l Z ws R own nm bytes maxL ret C T h cells slots) {i : Nat} {K0 : String} {a : Addr} (hd : decode bytes pc = .ok (.checkcast i, 3)) (w : (Cond.classLink own i K0).before a0 Z = true) (F : Ins Z h a K0 true) (hq : pc + 3 = q)
    (K : ∀ T', On l Z ws R own nm bytes maxL ret C T' h cells slots → Go C ws Q k n (T'.setTop (mkF C.m q Ls (.ref a :: st)))) : Go C ws Q k n (T.setTop (mkF C.m pc Ls (.ref a :: st))) := by
  obtain ⟨⟨hx, hZ, rfl, r1, hown, r2⟩, ⟨_, X, N⟩, eT⟩ := O; subst hq
  obtain ⟨T', X', e', stp⟩ := Jvm.RoadKit.castY X hx hZ hown w eT F (g := mkF C.m pc Ls (.ref a :: st)) rfl rfl hd
  exact (K T' ⟨⟨hx, hZ, rfl, r1, hown, r2⟩, ⟨_, X', N⟩, e'⟩).of fun _ kk => stp _ kk
end StepsR
end Jvm.OwnW
namespace Jvm.OwnW
open Sem ClassFile Op Lib Jvm.Free Jvm.Stand Jvm.LawKit Jvm.RoadKit
/-- an array whose own class is known too -/
def ArC (Z : State) (h : Heap) (a : Addr) (ty : FieldType) (n : Nat) (f : Nat → Value) (cA : ClassId) : Prop := ∃ cl : Cell, Arr Z h a cl ty ∧ cl.cls = cA ∧ cl.slots.size = n ∧ n < 2147483648 ∧ ∀ j, j < n → cl.slots[j]? = some (f j)
section ArrsC
variable {Z : State} {h h' : Heap} {a b : Addr} {ty : FieldType} {n i sl : Nat} {f g : Nat → Value} {v : Value} {ws : List Addr} {cA : ClassId}
theorem ArC.ar (F : ArC Z h a ty n f cA) : Ar Z h a ty n f := by obtain ⟨c, A, -, r⟩ := F; exact ⟨c, A, r⟩
theorem ArC.lt (F : ArC Z h a ty n f cA) : a < h.size := F.ar.lt
theorem ArC.ext (F : ArC Z h a ty n f cA) (E : Ext h h') : ArC Z h' a ty n f cA := by obtain ⟨c, A, r⟩ := F; exact ⟨c, A.ext E, r⟩
theorem ArC.keep (F : ArC Z h a ty n f cA) (K : Keep h h' ws) (q : a ∉ ws) : ArC Z h' a ty n f cA := by obtain ⟨c, A, r⟩ := F; exact ⟨c, ⟨K.2.1 a c A.1 q, A.2⟩, r⟩
theorem ArC.other (F : ArC Z h b ty n f cA) (W : Wr h h' a sl v) (q : b ≠ a) : ArC Z h' b ty n f cA := by obtain ⟨c, A, r⟩ := F; exact ⟨c, A.other W q, r⟩
theorem ArC.new {z : Int32} (A : Arr Z h a (newA cA ty z) ty) (hz : z.toInt = n) : ArC Z h a ty n (fun _ => defaultValue ty) cA := by
  have q := toNat_of hz
  refine ⟨_, A, rfl, by rw [sz_new, q], ?_, fun j hj => ?_⟩
  · have := z.toInt_lt; omega
  · simp [newA, q, hj]
theorem ArC.set (F : ArC Z h a ty n f cA) (W : Wr h h' a i v) (hi : i < n) : ArC Z h' a ty n (updV f i v) cA := by
  obtain ⟨c, A, rc, r1, r2, r3⟩ := F
  refine ⟨_, A.same W, rc, by rw [sz_set]; exact r1, r2, fun j hj => ?_⟩
  by_cases e : j = i
  · subst e; simp [Cell.setSlot, updV, r1, hi]
  · simp only [Cell.setSlot, updV, if_neg e]; rw [Array.getElem?_setIfInBounds_ne (Ne.symm e)]; exact r3 j hj
end ArrsC
section StepsC
variable {l : Launch} {Z : State} {a0 : Array Value} {ws : List Addr} {R : Room} {own nm : String} {bytes : ByteArray} {maxL : Nat} {ret : Option FieldType} {C : Ctx} {T : State} {h : Heap} {cells slots k n : Nat} {Q : Option Value → Heap → Prop} {pc q : Nat} {Ls L' : Array Slot} {st : List Value}
  {a : Addr} {j : Int32} {i N : Nat} {f : Nat → Value} {v : Value} {ty : FieldType}
theorem nneg {z : Int32} (hz : z.toInt = (N : Int)) : ¬ z < 0 := by
  rw [Int32.lt_iff_toInt_lt, hz]
  have : (0 : Int32).toInt = 0 := rfl
  rw [this]; omega
theorem newAE (O : On l Z ws R own nm bytes maxL ret C T h cells slots) {aty : ArrayType} {c2 s2 : Nat} {ad : String} (hd : decode bytes pc = .ok (.newarray aty, 2)) (ht : newarray.typeOf aty = ty) (had : "[" ++ ty.toString = ad) (w : (Cond.arrayClass ty).before a0 Z = true) {z : Int32} (hz : z.toInt = N) {cap : Nat} (hcap : N ≤ cap) (hb : cap * 8 ≤ 536870912) (hc2 : cells + 1 = c2) (hs2 : slots + cap = s2) (hc : c2 ≤ R.cells) (hl : s2 ≤ R.slots) (hq : pc + 2 = q)
    (K : ∀ a T' h', a = h.size → C.s.heap.size ≤ a → On l Z ws R own nm bytes maxL ret C T' h' c2 s2 → Ext h h' → Ar Z h' a ty N (fun _ => defaultValue ty) → Exa Z h' a ad → Go C ws Q k n (T'.setTop (mkF C.m q Ls (.ref a :: st)))) : Go C ws Q k n (T.setTop (mkF C.m pc Ls (.int z :: st))) := by
  subst ht
  obtain ⟨⟨hx, hZ, rfl, r1, hown, r2⟩, ⟨_, X, N'⟩, eT⟩ := O; subst hq hc2 hs2
  obtain ⟨T', h', cA, X', e', E, A, Ex, stp⟩ := Jvm.RoadKit.newPE X hx hZ w eT (g := mkF C.m pc Ls (.int z :: st)) rfl hd rfl (nneg hz) (by rw [toNat_of hz]; exact hcap) hb hc hl had
  exact (K _ T' h' rfl (eT ▸ X.same.2.1) ⟨⟨hx, hZ, rfl, r1, hown, r2⟩, ⟨_, X', N'⟩, e'⟩ E (Ar.new A hz) Ex).of fun _ kk => stp _ kk
theorem newRO (O : On l Z ws R own nm bytes maxL ret C T h cells slots) {K0 : String} {ix c2 s2 : Nat} (hd : decode bytes pc = .ok (.anewarray ix, 3)) (w1 : (Cond.classLink own ix K0).before a0 Z = true) (w2 : (Cond.arrayOver (.object K0)).before a0 Z = true) {z : Int32} (hz : z.toInt = N) {cap : Nat} (hcap : N ≤ cap) (hb : cap * 8 ≤ 536870912) (hc2 : cells + 1 = c2) (hs2 : slots + cap = s2) (hc : c2 ≤ R.cells) (hl : s2 ≤ R.slots) (hq : pc + 3 = q)
    (K : ∀ a T' h' cA, a = h.size → C.s.heap.size ≤ a → On l Z ws R own nm bytes maxL ret C T' h' c2 s2 → Ext h h' → ArC Z h' a (.object K0) N (fun _ => .null) cA → Ovr Z cA K0 → Go C ws Q k n (T'.setTop (mkF C.m q Ls (.ref a :: st)))) : Go C ws Q k n (T.setTop (mkF C.m pc Ls (.int z :: st))) := by
  obtain ⟨⟨hx, hZ, rfl, r1, hown, r2⟩, ⟨_, X, N'⟩, eT⟩ := O; subst hq hc2 hs2
  obtain ⟨T', h', cA, X', e', E, A, Ov, stp⟩ := Jvm.RoadKit.newR X hx hZ hown w1 w2 eT (g := mkF C.m pc Ls (.int z :: st)) rfl hd rfl (nneg hz) (by rw [toNat_of hz]; exact hcap) hb hc hl
  exact (K _ T' h' cA rfl (eT ▸ X.same.2.1) ⟨⟨hx, hZ, rfl, r1, hown, r2⟩, ⟨_, X', N'⟩, e'⟩ E (ArC.new A hz) Ov).of fun _ kk => stp _ kk
theorem newRR (O : On l Z ws R own nm bytes maxL ret C T h cells slots) {K0 ad : String} {ix c2 s2 : Nat} (hd : decode bytes pc = .ok (.anewarray ix, 3)) (hC : (FieldType.array ty).toString = K0) (had : "[" ++ K0 = ad) (w1 : (Cond.classLink own ix K0).before a0 Z = true) (w2 : (Cond.arrayOver (.array ty)).before a0 Z = true) {z : Int32} (hz : z.toInt = N) {cap : Nat} (hcap : N ≤ cap) (hb : cap * 8 ≤ 536870912) (hc2 : cells + 1 = c2) (hs2 : slots + cap = s2) (hc : c2 ≤ R.cells) (hl : s2 ≤ R.slots) (hq : pc + 3 = q)
    (K : ∀ a T' h' cA, a = h.size → C.s.heap.size ≤ a → On l Z ws R own nm bytes maxL ret C T' h' c2 s2 → Ext h h' → ArC Z h' a (.array ty) N (fun _ => .null) cA → OvrA Z cA ty K0 → Go C ws Q k n (T'.setTop (mkF C.m q Ls (.ref a :: st)))) : Go C ws Q k n (T.setTop (mkF C.m pc Ls (.int z :: st))) := by
  obtain ⟨⟨hx, hZ, rfl, r1, hown, r2⟩, ⟨_, X, N'⟩, eT⟩ := O; subst hq hc2 hs2
  obtain ⟨T', h', cA, X', e', E, A, -, Ov, stp⟩ := Jvm.RoadKit.newRA X hx hZ hown hC w1 w2 eT (g := mkF C.m pc Ls (.int z :: st)) rfl hd rfl (nneg hz) (by rw [toNat_of hz]; exact hcap) hb hc hl had
  exact (K _ T' h' cA rfl (eT ▸ X.same.2.1) ⟨⟨hx, hZ, rfl, r1, hown, r2⟩, ⟨_, X', N'⟩, e'⟩ E (ArC.new A hz) Ov).of fun _ kk => stp _ kk
theorem aasRR (O : On l Z ws R own nm bytes maxL ret C T h cells slots) {K0 : String} {y : Addr} {cA : ClassId} (hd : decode bytes pc = .ok (.aastore, 1)) (V : ArC Z h a (.array ty) N f cA) (Ov : OvrA Z cA ty K0) (I : Ins Z h y K0 true) (hj : j.toInt = (i : Int)) (hi : i < N) (ha : a ∈ ws ∨ C.s.heap.size ≤ a) (hq : pc + 1 = q)
    (K : ∀ T' h', On l Z ws R own nm bytes maxL ret C T' h' cells slots → Wr h h' a i (.ref y) → Go C ws Q k n (T'.setTop (mkF C.m q Ls st))) : Go C ws Q k n (T.setTop (mkF C.m pc Ls (.ref y :: .int j :: .ref a :: st))) := by
  obtain ⟨⟨hx, hZ, rfl, r1, hown, r2⟩, ⟨_, X, N'⟩, eT⟩ := O; subst hq
  obtain ⟨cl, A, rc, s1, s2, s3⟩ := V
  obtain ⟨T', h', X', e', W, stp⟩ := Jvm.RoadKit.stR X hx hZ eT A (inb hj s1 hi) rfl (Sto.ofVA A rc Ov I) (g := mkF C.m pc Ls (.ref y :: .int j :: .ref a :: st)) rfl rfl hd
  exact (K T' h' ⟨⟨hx, hZ, rfl, r1, hown, r2⟩, ⟨_, X', N'.snoc ha⟩, e'⟩ (toNat_of hj ▸ W)).of fun _ kk => stp _ kk
end StepsC
end Jvm.OwnW

namespace Jvm.Pilot.@@N@@
open Jvm Jvm.ClassFile Sem Op Lib Jvm.Free Jvm.Stand Jvm.LawKit Jvm.RoadKit Bundle Jvm.OwnW Jvm.Pilot.@@N@@.Jvm.D

theorem dm_0 : decode jdk_29_method_65_code 0 = .ok (.iload_n 0, 1) := by decide +kernel
theorem dm_1 : decode jdk_29_method_65_code 1 = .ok (.iload_n 1, 1) := by decide +kernel
theorem dm_2 : decode jdk_29_method_65_code 2 = .ok (.if_icmp .lt 7, 3) := by decide +kernel
theorem dm_5 : decode jdk_29_method_65_code 5 = .ok (.iload_n 0, 1) := by decide +kernel
theorem dm_6 : decode jdk_29_method_65_code 6 = .ok (.goto 4, 3) := by decide +kernel
theorem dm_9 : decode jdk_29_method_65_code 9 = .ok (.iload_n 1, 1) := by decide +kernel
theorem dm_10 : decode jdk_29_method_65_code 10 = .ok (.ireturn, 1) := by decide +kernel
def fn_m (p1 : Int32) (p2 : Int32) : Int32 := (if p1 < p2 then p2 else p1)
theorem ef_m (p1 : Int32) (p2 : Int32) (m : MethodId) : entryFrame m #[(.int p1), (.int p2)] 2 = mkF m 0 #[.val (.int p1), .val (.int p2)] [] := by first | (simp [entryFrame, mkF, argsToLocals, Value.category, maxLocals]; done) | rfl
theorem pn_m : plainFor (⟨"java/lang/Math", "max", "(II)I"⟩ : MethodName) = true := by first | exact plainFor_of_name (by first | (simp [plainName, overriddenIn]; done) | decide +kernel) | decide +kernel
set_option maxRecDepth 65536 in
set_option maxHeartbeats 40000000 in
theorem rm_m (l : Launch) (Z : State) (a0 : Array Value) (hw : ∀ d ∈ tables_1, d.before a0 Z = true) (p1 : Int32) (p2 : Int32) (h0 : Heap)  :
    Met l Z (⟨"java/lang/Math", "max", "(II)I"⟩ : MethodName) jdk_29_method_65_code 2 (some .int) [] ({ frames := 0, cells := 0, slots := 0, locals := 0 } : Room) #[(.int p1), (.int p2)] [] h0 (fun v h => v = some (Value.int (fn_m p1 p2))) := by
  refine Met.mk pn_m (ef_m p1 p2) ?_
  intro C T hs0 O
  show Go C [] (fun v h => v = some (Value.int (fn_m p1 p2))) 0 0 (T.setTop (mkF C.m 0 #[.val (.int p1), .val (.int p2)] []))
  refine Jvm.OwnW.iloadN O dm_0 rfl (q := 1) rfl ?_
  refine Jvm.OwnW.iloadN O dm_1 rfl (q := 2) rfl ?_
  by_cases hc2 : p1 < p2
  · refine Jvm.OwnW.icmpYes O dm_2 (tlt hc2).1 (by decide) (q := 9) rfl ?_
    refine Jvm.OwnW.iloadN O dm_9 rfl (q := 10) rfl ?_
    exact Jvm.OwnW.retI O dm_10 rfl (by decide) (by decide) (by show some (Value.int p2) = some (Value.int (fn_m p1 p2)); rw [fn_m, if_pos hc2])
  · refine Jvm.OwnW.icmpNo O dm_2 (flt hc2).1 (q := 5) rfl ?_
    refine Jvm.OwnW.iloadN O dm_5 rfl (q := 6) rfl ?_
    refine Jvm.OwnW.goto O dm_6 (by decide) (q := 10) rfl ?_
    exact Jvm.OwnW.retI O dm_10 rfl (by decide) (by decide) (by show some (Value.int p1) = some (Value.int (fn_m p1 p2)); rw [fn_m, if_neg hc2])
def own_pw (m : Int64) : Nat → Int64 → Int64 → Int64 → Int64
  | 0, acc, _, _ => acc
  | k + 1, acc, b, e => if 0 < e then own_pw m k (if (e &&& 1) = 0 then acc else (acc * b) % m) ((b * b) % m) (e >>> ((1 : Int32) &&& 0x3f).toInt64) else acc
theorem dw_0 : decode prog_9_method_4_code 0 = .ok (.lconst 1, 1) := by decide +kernel
theorem dw_1 : decode prog_9_method_4_code 1 = .ok (.lstore 5, 2) := by decide +kernel
theorem dw_3 : decode prog_9_method_4_code 3 = .ok (.lload_n 1, 1) := by decide +kernel
theorem dw_4 : decode prog_9_method_4_code 4 = .ok (.aload_n 0, 1) := by decide +kernel
theorem dw_5 : decode prog_9_method_4_code 5 = .ok (.getfield 7, 3) := by decide +kernel
theorem dw_8 : decode prog_9_method_4_code 8 = .ok (.lrem, 1) := by decide +kernel
theorem dw_9 : decode prog_9_method_4_code 9 = .ok (.lstore 7, 2) := by decide +kernel
theorem dw_11 : decode prog_9_method_4_code 11 = .ok (.lload_n 3, 1) := by decide +kernel
theorem dw_12 : decode prog_9_method_4_code 12 = .ok (.lstore 9, 2) := by decide +kernel
theorem dw_14 : decode prog_9_method_4_code 14 = .ok (.lload 9, 2) := by decide +kernel
theorem dw_16 : decode prog_9_method_4_code 16 = .ok (.lconst 0, 1) := by decide +kernel
theorem dw_17 : decode prog_9_method_4_code 17 = .ok (.lcmp, 1) := by decide +kernel
theorem dw_18 : decode prog_9_method_4_code 18 = .ok (.ifCond .le 45, 3) := by decide +kernel
theorem dw_21 : decode prog_9_method_4_code 21 = .ok (.lload 9, 2) := by decide +kernel
theorem dw_23 : decode prog_9_method_4_code 23 = .ok (.lconst 1, 1) := by decide +kernel
theorem dw_24 : decode prog_9_method_4_code 24 = .ok (.land, 1) := by decide +kernel
theorem dw_25 : decode prog_9_method_4_code 25 = .ok (.lconst 0, 1) := by decide +kernel
theorem dw_26 : decode prog_9_method_4_code 26 = .ok (.lcmp, 1) := by decide +kernel
theorem dw_27 : decode prog_9_method_4_code 27 = .ok (.ifCond .eq 15, 3) := by decide +kernel
theorem dw_30 : decode prog_9_method_4_code 30 = .ok (.lload 5, 2) := by decide +kernel
theorem dw_32 : decode prog_9_method_4_code 32 = .ok (.lload 7, 2) := by decide +kernel
theorem dw_34 : decode prog_9_method_4_code 34 = .ok (.lmul, 1) := by decide +kernel
theorem dw_35 : decode prog_9_method_4_code 35 = .ok (.aload_n 0, 1) := by decide +kernel
theorem dw_36 : decode prog_9_method_4_code 36 = .ok (.getfield 7, 3) := by decide +kernel
theorem dw_39 : decode prog_9_method_4_code 39 = .ok (.lrem, 1) := by decide +kernel
theorem dw_40 : decode prog_9_method_4_code 40 = .ok (.lstore 5, 2) := by decide +kernel
theorem dw_42 : decode prog_9_method_4_code 42 = .ok (.lload 7, 2) := by decide +kernel
theorem dw_44 : decode prog_9_method_4_code 44 = .ok (.lload 7, 2) := by decide +kernel
theorem dw_46 : decode prog_9_method_4_code 46 = .ok (.lmul, 1) := by decide +kernel
theorem dw_47 : decode prog_9_method_4_code 47 = .ok (.aload_n 0, 1) := by decide +kernel
theorem dw_48 : decode prog_9_method_4_code 48 = .ok (.getfield 7, 3) := by decide +kernel
theorem dw_51 : decode prog_9_method_4_code 51 = .ok (.lrem, 1) := by decide +kernel
theorem dw_52 : decode prog_9_method_4_code 52 = .ok (.lstore 7, 2) := by decide +kernel
theorem dw_54 : decode prog_9_method_4_code 54 = .ok (.lload 9, 2) := by decide +kernel
theorem dw_56 : decode prog_9_method_4_code 56 = .ok (.iconst 1, 1) := by decide +kernel
theorem dw_57 : decode prog_9_method_4_code 57 = .ok (.lshr, 1) := by decide +kernel
theorem dw_58 : decode prog_9_method_4_code 58 = .ok (.lstore 9, 2) := by decide +kernel
theorem dw_60 : decode prog_9_method_4_code 60 = .ok (.goto (-46), 3) := by decide +kernel
theorem dw_63 : decode prog_9_method_4_code 63 = .ok (.lload 5, 2) := by decide +kernel
theorem dw_65 : decode prog_9_method_4_code 65 = .ok (.lreturn, 1) := by decide +kernel
theorem ef_w (a1 : Addr) (p1 : Int64) (p2 : Int64) (m : Int64) (m : MethodId) : entryFrame m #[(.ref a1), (.long p1), (.long p2)] 11 = mkF m 0 #[.val (.ref a1), .val (.long p1), .second, .val (.long p2), .second, .unset, .unset, .unset, .unset, .unset, .unset] [] := by first | (simp [entryFrame, mkF, argsToLocals, Value.category, maxLocals]; done) | rfl
theorem pn_w : plainFor (⟨"com/example/vary5/vary5/NumberTheoreticTransform", "power", "(JJ)J"⟩ : MethodName) = true := by first | exact plainFor_of_name (by first | (simp [plainName, overriddenIn]; done) | decide +kernel) | decide +kernel
set_option maxRecDepth 65536 in
set_option maxHeartbeats 40000000 in
theorem rm_w (l : Launch) (Z : State) (a0 : Array Value) (hw : ∀ d ∈ tables_1, d.before a0 Z = true) (a1 : Addr) (p1 : Int64) (p2 : Int64) (m : Int64) (h0 : Heap) (E_a1 : Exa Z h0 a1 "com/example/vary5/vary5/NumberTheoreticTransform") (F_modulus_a1 : Fld Z h0 a1 "com/example/vary5/vary5/NumberTheoreticTransform" "modulus" "J" (.long m)) (hm0 : m ≠ 0) (he : p2.toInt < 2 ^ 31) :
    Met l Z (⟨"com/example/vary5/vary5/NumberTheoreticTransform", "power", "(JJ)J"⟩ : MethodName) prog_9_method_4_code 11 (some .long) [] ({ frames := 0, cells := 0, slots := 0, locals := 0 } : Room) #[(.ref a1), (.long p1), (.long p2)] [] h0 (fun v h => v = some (.long (own_pw m 31 1 (p1 % m) p2))) := by
  refine Met.mk pn_w (ef_w a1 p1 p2 m) ?_
  intro C T hs0 O
  show Go C [] (fun v h => v = some (.long (own_pw m 31 1 (p1 % m) p2))) 0 0 (T.setTop (mkF C.m 0 #[.val (.ref a1), .val (.long p1), .second, .val (.long p2), .second, .unset, .unset, .unset, .unset, .unset, .unset] []))
  refine Jvm.OwnW.lconst O dw_0 (r := (1 : Int64)) rfl (q := 1) rfl ?_
  refine Jvm.OwnW.lstore O dw_1 (L' := #[.val (.ref a1), .val (.long p1), .second, .val (.long p2), .second, .val (.long (1 : Int64)), .second, .unset, .unset, .unset, .unset]) rfl (q := 3) rfl ?_
  refine Jvm.OwnW.lloadN O dw_3 rfl (q := 4) rfl ?_
  refine Jvm.OwnW.aloadN O dw_4 rfl rfl (q := 5) rfl ?_
  refine Jvm.OwnW.getF O dw_5 (host := "") (Or.inl (hw _ (List.mem_of_getElem? (i := 9) rfl))) Via.refl F_modulus_a1 (q := 8) rfl ?_
  intro T1 O1
  refine Jvm.OwnW.lrem O1 dw_8 hm0 rfl (q := 9) rfl ?_
  refine Jvm.OwnW.lstore O1 dw_9 (L' := #[.val (.ref a1), .val (.long p1), .second, .val (.long p2), .second, .val (.long (1 : Int64)), .second, .val (.long (p1 % m)), .second, .unset, .unset]) rfl (q := 11) rfl ?_
  refine Jvm.OwnW.lloadN O1 dw_11 rfl (q := 12) rfl ?_
  refine Jvm.OwnW.lstore O1 dw_12 (L' := #[.val (.ref a1), .val (.long p1), .second, .val (.long p2), .second, .val (.long (1 : Int64)), .second, .val (.long (p1 % m)), .second, .val (.long p2), .second]) rfl (q := 14) rfl ?_
  have lp : ∀ (k : Nat) (T2 : State), On l Z [] ({ frames := 0, cells := 0, slots := 0, locals := 0 } : Room) "com/example/vary5/vary5/NumberTheoreticTransform" "power" prog_9_method_4_code 11 (some .long) C T2 h0 0 0 → ∀ (acc b e : Int64), ∀ (hk : e.toInt < 2 ^ k), ∀ (hacc : own_pw m k acc b e = own_pw m 31 1 (p1 % m) p2), Go C [] (fun v h => v = some (.long (own_pw m 31 1 (p1 % m) p2))) 0 0 (T2.setTop (mkF C.m 14 #[.val (.ref a1), .val (.long p1), .second, .val (.long p2), .second, .val (.long acc), .second, .val (.long b), .second, .val (.long e), .second] [])) := by
    intro k
    induction k with
    | zero =>
      intro T2 O2 acc b e hk hacc 
      refine Jvm.OwnW.lload O2 dw_14 rfl (q := 16) rfl ?_
      refine Jvm.OwnW.lconst O2 dw_16 (r := (0 : Int64)) rfl (q := 17) rfl ?_
      refine Jvm.OwnW.lcmp O2 dw_17 rfl (q := 18) rfl ?_
      refine Jvm.OwnW.ifYes O2 dw_18 (fltL (show ¬ ((0 : Int64) < e) from nlt64 (by show _ ≤ (0 : Int); omega))).2.2.2 (by decide) (q := 63) rfl ?_
      refine Jvm.OwnW.lload O2 dw_63 rfl (q := 65) rfl ?_
      exact Jvm.OwnW.retL O2 dw_65 hacc (by decide) (by decide) rfl
    | succ k ih =>
      intro T2 O2 acc b e hk hacc 
      refine Jvm.OwnW.lload O2 dw_14 rfl (q := 16) rfl ?_
      refine Jvm.OwnW.lconst O2 dw_16 (r := (0 : Int64)) rfl (q := 17) rfl ?_
      refine Jvm.OwnW.lcmp O2 dw_17 rfl (q := 18) rfl ?_
      by_cases hc18 : (0 : Int64) < e
      · refine Jvm.OwnW.ifNo O2 dw_18 (tltL hc18).2.2.2 (q := 21) rfl ?_
        have J42 : ∀ (T3 : State), On l Z [] ({ frames := 0, cells := 0, slots := 0, locals := 0 } : Room) "com/example/vary5/vary5/NumberTheoreticTransform" "power" prog_9_method_4_code 11 (some .long) C T3 h0 0 0 → ∀ (ac2 : Int64), ∀ (hac : (if (e &&& 1) = 0 then acc else (acc * b) % m) = ac2), Go C [] (fun v h => v = some (.long (own_pw m 31 1 (p1 % m) p2))) 0 0 (T3.setTop (mkF C.m 42 #[.val (.ref a1), .val (.long p1), .second, .val (.long p2), .second, .val (.long ac2), .second, .val (.long b), .second, .val (.long e), .second] [])) := by
          intro T3 O3 ac2 hac 
          refine Jvm.OwnW.lload O3 dw_42 rfl (q := 44) rfl ?_
          refine Jvm.OwnW.lload O3 dw_44 rfl (q := 46) rfl ?_
          refine Jvm.OwnW.lmul O3 dw_46 rfl (q := 47) rfl ?_
          refine Jvm.OwnW.aloadN O3 dw_47 rfl rfl (q := 48) rfl ?_
          refine Jvm.OwnW.getF O3 dw_48 (host := "") (Or.inl (hw _ (List.mem_of_getElem? (i := 9) rfl))) Via.refl F_modulus_a1 (q := 51) rfl ?_
          intro T4 O4
          refine Jvm.OwnW.lrem O4 dw_51 hm0 rfl (q := 52) rfl ?_
          refine Jvm.OwnW.lstore O4 dw_52 (L' := #[.val (.ref a1), .val (.long p1), .second, .val (.long p2), .second, .val (.long ac2), .second, .val (.long ((b * b) % m)), .second, .val (.long e), .second]) rfl (q := 54) rfl ?_
          refine Jvm.OwnW.lload O4 dw_54 rfl (q := 56) rfl ?_
          refine Jvm.OwnW.iconst O4 dw_56 (r := (1 : Int32)) rfl (q := 57) rfl ?_
          refine Jvm.OwnW.lshr O4 dw_57 rfl (q := 58) rfl ?_
          refine Jvm.OwnW.lstore O4 dw_58 (L' := #[.val (.ref a1), .val (.long p1), .second, .val (.long p2), .second, .val (.long ac2), .second, .val (.long ((b * b) % m)), .second, .val (.long (e >>> ((1 : Int32) &&& 0x3f).toInt64)), .second]) rfl (q := 60) rfl ?_
          refine Jvm.OwnW.goto O4 dw_60 (by decide) (q := 14) rfl ?_
          exact ih _ O4 _ _ _ (by have q := c_lshr e 1 1 (by decide); rw [q]; rw [Int.pow_succ] at hk; omega) (by rw [← hac]; rw [own_pw, if_pos hc18] at hacc; exact hacc) 
        refine Jvm.OwnW.lload O2 dw_21 rfl (q := 23) rfl ?_
        refine Jvm.OwnW.lconst O2 dw_23 (r := (1 : Int64)) rfl (q := 24) rfl ?_
        refine Jvm.OwnW.land O2 dw_24 rfl (q := 25) rfl ?_
        refine Jvm.OwnW.lconst O2 dw_25 (r := (0 : Int64)) rfl (q := 26) rfl ?_
        refine Jvm.OwnW.lcmp O2 dw_26 rfl (q := 27) rfl ?_
        by_cases hc27 : (e &&& (1 : Int64)) = (0 : Int64)
        · refine Jvm.OwnW.ifYes O2 dw_27 (teqL hc27).1 (by decide) (q := 42) rfl ?_
          exact J42 _ O2 _ (if_pos hc27) 
        · refine Jvm.OwnW.ifNo O2 dw_27 (feqL hc27).1 (q := 30) rfl ?_
          refine Jvm.OwnW.lload O2 dw_30 rfl (q := 32) rfl ?_
          refine Jvm.OwnW.lload O2 dw_32 rfl (q := 34) rfl ?_
          refine Jvm.OwnW.lmul O2 dw_34 rfl (q := 35) rfl ?_
          refine Jvm.OwnW.aloadN O2 dw_35 rfl rfl (q := 36) rfl ?_
          refine Jvm.OwnW.getF O2 dw_36 (host := "") (Or.inl (hw _ (List.mem_of_getElem? (i := 9) rfl))) Via.refl F_modulus_a1 (q := 39) rfl ?_
          intro T5 O5
          refine Jvm.OwnW.lrem O5 dw_39 hm0 rfl (q := 40) rfl ?_
          refine Jvm.OwnW.lstore O5 dw_40 (L' := #[.val (.ref a1), .val (.long p1), .second, .val (.long p2), .second, .val (.long ((acc * b) % m)), .second, .val (.long b), .second, .val (.long e), .second]) rfl (q := 42) rfl ?_
          exact J42 _ O5 _ (if_neg hc27) 
      · refine Jvm.OwnW.ifYes O2 dw_18 (fltL hc18).2.2.2 (by decide) (q := 63) rfl ?_
        refine Jvm.OwnW.lload O2 dw_63 rfl (q := 65) rfl ?_
        exact Jvm.OwnW.retL O2 dw_65 (by rw [own_pw, if_neg hc18] at hacc; exact hacc) (by decide) (by decide) rfl
  exact lp 31 _ O1 _ _ _ he rfl
theorem dp_0 : decode prog_9_method_6_code 0 = .ok (.lload_n 1, 1) := by decide +kernel
theorem dp_1 : decode prog_9_method_6_code 1 = .ok (.lload_n 3, 1) := by decide +kernel
theorem dp_2 : decode prog_9_method_6_code 2 = .ok (.lmul, 1) := by decide +kernel
theorem dp_3 : decode prog_9_method_6_code 3 = .ok (.lstore 5, 2) := by decide +kernel
theorem dp_5 : decode prog_9_method_6_code 5 = .ok (.lload 5, 2) := by decide +kernel
theorem dp_7 : decode prog_9_method_6_code 7 = .ok (.l2i, 1) := by decide +kernel
theorem dp_8 : decode prog_9_method_6_code 8 = .ok (.aload_n 0, 1) := by decide +kernel
theorem dp_9 : decode prog_9_method_6_code 9 = .ok (.getfield 13, 3) := by decide +kernel
theorem dp_12 : decode prog_9_method_6_code 12 = .ok (.imul, 1) := by decide +kernel
theorem dp_13 : decode prog_9_method_6_code 13 = .ok (.i2l, 1) := by decide +kernel
theorem dp_14 : decode prog_9_method_6_code 14 = .ok (.ldc2_w 56, 3) := by decide +kernel
theorem dp_17 : decode prog_9_method_6_code 17 = .ok (.land, 1) := by decide +kernel
theorem dp_18 : decode prog_9_method_6_code 18 = .ok (.lstore 7, 2) := by decide +kernel
theorem dp_20 : decode prog_9_method_6_code 20 = .ok (.lload 5, 2) := by decide +kernel
theorem dp_22 : decode prog_9_method_6_code 22 = .ok (.lload 7, 2) := by decide +kernel
theorem dp_24 : decode prog_9_method_6_code 24 = .ok (.aload_n 0, 1) := by decide +kernel
theorem dp_25 : decode prog_9_method_6_code 25 = .ok (.getfield 7, 3) := by decide +kernel
theorem dp_28 : decode prog_9_method_6_code 28 = .ok (.lmul, 1) := by decide +kernel
theorem dp_29 : decode prog_9_method_6_code 29 = .ok (.ladd, 1) := by decide +kernel
theorem dp_30 : decode prog_9_method_6_code 30 = .ok (.bipush 32, 2) := by decide +kernel
theorem dp_32 : decode prog_9_method_6_code 32 = .ok (.lushr, 1) := by decide +kernel
theorem dp_33 : decode prog_9_method_6_code 33 = .ok (.aload_n 0, 1) := by decide +kernel
theorem dp_34 : decode prog_9_method_6_code 34 = .ok (.getfield 7, 3) := by decide +kernel
theorem dp_37 : decode prog_9_method_6_code 37 = .ok (.lsub, 1) := by decide +kernel
theorem dp_38 : decode prog_9_method_6_code 38 = .ok (.lstore 9, 2) := by decide +kernel
theorem dp_40 : decode prog_9_method_6_code 40 = .ok (.lload 9, 2) := by decide +kernel
theorem dp_42 : decode prog_9_method_6_code 42 = .ok (.lload 9, 2) := by decide +kernel
theorem dp_44 : decode prog_9_method_6_code 44 = .ok (.bipush 63, 2) := by decide +kernel
theorem dp_46 : decode prog_9_method_6_code 46 = .ok (.lshr, 1) := by decide +kernel
theorem dp_47 : decode prog_9_method_6_code 47 = .ok (.aload_n 0, 1) := by decide +kernel
theorem dp_48 : decode prog_9_method_6_code 48 = .ok (.getfield 7, 3) := by decide +kernel
theorem dp_51 : decode prog_9_method_6_code 51 = .ok (.land, 1) := by decide +kernel
theorem dp_52 : decode prog_9_method_6_code 52 = .ok (.ladd, 1) := by decide +kernel
theorem dp_53 : decode prog_9_method_6_code 53 = .ok (.lreturn, 1) := by decide +kernel
def fn_p (p1 : Int64) (p2 : Int64) (m : Int64) (ni : Int32) : Int64 := ((((((p1 * p2) + ((((p1 * p2).toInt32 * ni).toInt64 &&& (4294967295 : Int64)) * m)).toUInt64 >>> ((32 : Int32) &&& 0x3f).toInt64.toUInt64).toInt64) - m) + (((((((p1 * p2) + ((((p1 * p2).toInt32 * ni).toInt64 &&& (4294967295 : Int64)) * m)).toUInt64 >>> ((32 : Int32) &&& 0x3f).toInt64.toUInt64).toInt64) - m) >>> ((63 : Int32) &&& 0x3f).toInt64) &&& m))
theorem ef_p (a1 : Addr) (p1 : Int64) (p2 : Int64) (m : Int64) (ni : Int32) (m : MethodId) : entryFrame m #[(.ref a1), (.long p1), (.long p2)] 11 = mkF m 0 #[.val (.ref a1), .val (.long p1), .second, .val (.long p2), .second, .unset, .unset, .unset, .unset, .unset, .unset] [] := by first | (simp [entryFrame, mkF, argsToLocals, Value.category, maxLocals]; done) | rfl
theorem pn_p : plainFor (⟨"com/example/vary5/vary5/NumberTheoreticTransform", "product", "(JJ)J"⟩ : MethodName) = true := by first | exact plainFor_of_name (by first | (simp [plainName, overriddenIn]; done) | decide +kernel) | decide +kernel
set_option maxRecDepth 65536 in
set_option maxHeartbeats 40000000 in
theorem rm_p (l : Launch) (Z : State) (a0 : Array Value) (hw : ∀ d ∈ tables_1, d.before a0 Z = true) (a1 : Addr) (p1 : Int64) (p2 : Int64) (m : Int64) (ni : Int32) (h0 : Heap) (E_a1 : Exa Z h0 a1 "com/example/vary5/vary5/NumberTheoreticTransform") (F_modulus_a1 : Fld Z h0 a1 "com/example/vary5/vary5/NumberTheoreticTransform" "modulus" "J" (.long m)) (F_negatedInverse_a1 : Fld Z h0 a1 "com/example/vary5/vary5/NumberTheoreticTransform" "negatedInverse" "I" (.int ni)) :
    Met l Z (⟨"com/example/vary5/vary5/NumberTheoreticTransform", "product", "(JJ)J"⟩ : MethodName) prog_9_method_6_code 11 (some .long) [] ({ frames := 0, cells := 0, slots := 0, locals := 0 } : Room) #[(.ref a1), (.long p1), (.long p2)] [] h0 (fun v h => v = some (Value.long (fn_p p1 p2 m ni))) := by
  refine Met.mk pn_p (ef_p a1 p1 p2 m ni) ?_
  intro C T hs0 O
  show Go C [] (fun v h => v = some (Value.long (fn_p p1 p2 m ni))) 0 0 (T.setTop (mkF C.m 0 #[.val (.ref a1), .val (.long p1), .second, .val (.long p2), .second, .unset, .unset, .unset, .unset, .unset, .unset] []))
  refine Jvm.OwnW.lloadN O dp_0 rfl (q := 1) rfl ?_
  refine Jvm.OwnW.lloadN O dp_1 rfl (q := 2) rfl ?_
  refine Jvm.OwnW.lmul O dp_2 rfl (q := 3) rfl ?_
  refine Jvm.OwnW.lstore O dp_3 (L' := #[.val (.ref a1), .val (.long p1), .second, .val (.long p2), .second, .val (.long (p1 * p2)), .second, .unset, .unset, .unset, .unset]) rfl (q := 5) rfl ?_
  refine Jvm.OwnW.lload O dp_5 rfl (q := 7) rfl ?_
  refine Jvm.OwnW.l2i O dp_7 rfl (q := 8) rfl ?_
  refine Jvm.OwnW.aloadN O dp_8 rfl rfl (q := 9) rfl ?_
  refine Jvm.OwnW.getF O dp_9 (host := "") (Or.inl (hw _ (List.mem_of_getElem? (i := 11) rfl))) Via.refl F_negatedInverse_a1 (q := 12) rfl ?_
  intro T1 O1
  refine Jvm.OwnW.imul O1 dp_12 rfl (q := 13) rfl ?_
  refine Jvm.OwnW.i2l O1 dp_13 rfl (q := 14) rfl ?_
  refine Jvm.OwnW.ldcL O1 dp_14 (hw _ (List.mem_of_getElem? (i := 48) rfl)) (q := 17) rfl ?_
  refine Jvm.OwnW.land O1 dp_17 rfl (q := 18) rfl ?_
  refine Jvm.OwnW.lstore O1 dp_18 (L' := #[.val (.ref a1), .val (.long p1), .second, .val (.long p2), .second, .val (.long (p1 * p2)), .second, .val (.long (((p1 * p2).toInt32 * ni).toInt64 &&& (4294967295 : Int64))), .second, .unset, .unset]) rfl (q := 20) rfl ?_
  refine Jvm.OwnW.lload O1 dp_20 rfl (q := 22) rfl ?_
  refine Jvm.OwnW.lload O1 dp_22 rfl (q := 24) rfl ?_
  refine Jvm.OwnW.aloadN O1 dp_24 rfl rfl (q := 25) rfl ?_
  refine Jvm.OwnW.getF O1 dp_25 (host := "") (Or.inl (hw _ (List.mem_of_getElem? (i := 9) rfl))) Via.refl F_modulus_a1 (q := 28) rfl ?_
  intro T2 O2
  refine Jvm.OwnW.lmul O2 dp_28 rfl (q := 29) rfl ?_
  refine Jvm.OwnW.ladd O2 dp_29 rfl (q := 30) rfl ?_
  refine Jvm.OwnW.bipush O2 dp_30 (r := (32 : Int32)) rfl (q := 32) rfl ?_
  refine Jvm.OwnW.lushr O2 dp_32 rfl (q := 33) rfl ?_
  refine Jvm.OwnW.aloadN O2 dp_33 rfl rfl (q := 34) rfl ?_
  refine Jvm.OwnW.getF O2 dp_34 (host := "") (Or.inl (hw _ (List.mem_of_getElem? (i := 9) rfl))) Via.refl F_modulus_a1 (q := 37) rfl ?_
  intro T3 O3
  refine Jvm.OwnW.lsub O3 dp_37 rfl (q := 38) rfl ?_
  refine Jvm.OwnW.lstore O3 dp_38 (L' := #[.val (.ref a1), .val (.long p1), .second, .val (.long p2), .second, .val (.long (p1 * p2)), .second, .val (.long (((p1 * p2).toInt32 * ni).toInt64 &&& (4294967295 : Int64))), .second, .val (.long (((((p1 * p2) + ((((p1 * p2).toInt32 * ni).toInt64 &&& (4294967295 : Int64)) * m)).toUInt64 >>> ((32 : Int32) &&& 0x3f).toInt64.toUInt64).toInt64) - m)), .second]) rfl (q := 40) rfl ?_
  refine Jvm.OwnW.lload O3 dp_40 rfl (q := 42) rfl ?_
  refine Jvm.OwnW.lload O3 dp_42 rfl (q := 44) rfl ?_
  refine Jvm.OwnW.bipush O3 dp_44 (r := (63 : Int32)) rfl (q := 46) rfl ?_
  refine Jvm.OwnW.lshr O3 dp_46 rfl (q := 47) rfl ?_
  refine Jvm.OwnW.aloadN O3 dp_47 rfl rfl (q := 48) rfl ?_
  refine Jvm.OwnW.getF O3 dp_48 (host := "") (Or.inl (hw _ (List.mem_of_getElem? (i := 9) rfl))) Via.refl F_modulus_a1 (q := 51) rfl ?_
  intro T4 O4
  refine Jvm.OwnW.land O4 dp_51 rfl (q := 52) rfl ?_
  refine Jvm.OwnW.ladd O4 dp_52 rfl (q := 53) rfl ?_
  exact Jvm.OwnW.retL O4 dp_53 rfl (by decide) (by decide) (by show some (Value.long ((((((p1 * p2) + ((((p1 * p2).toInt32 * ni).toInt64 &&& (4294967295 : Int64)) * m)).toUInt64 >>> ((32 : Int32) &&& 0x3f).toInt64.toUInt64).toInt64) - m) + (((((((p1 * p2) + ((((p1 * p2).toInt32 * ni).toInt64 &&& (4294967295 : Int64)) * m)).toUInt64 >>> ((32 : Int32) &&& 0x3f).toInt64.toUInt64).toInt64) - m) >>> ((63 : Int32) &&& 0x3f).toInt64) &&& m))) = some (Value.long (fn_p p1 p2 m ni)); rw [fn_p])
theorem pd_0 : parseMethodDescriptor "(JJ)J" = some ⟨[.long, .long], some .long⟩ := by decide +kernel
theorem dg_0 : decode prog_9_method_5_code 0 = .ok (.aload_n 0, 1) := by decide +kernel
theorem dg_1 : decode prog_9_method_5_code 1 = .ok (.lload_n 1, 1) := by decide +kernel
theorem dg_2 : decode prog_9_method_5_code 2 = .ok (.aload_n 0, 1) := by decide +kernel
theorem dg_3 : decode prog_9_method_5_code 3 = .ok (.getfield 19, 3) := by decide +kernel
theorem dg_6 : decode prog_9_method_5_code 6 = .ok (.invokevirtual 53, 3) := by decide +kernel
theorem dg_9 : decode prog_9_method_5_code 9 = .ok (.lreturn, 1) := by decide +kernel
theorem ef_g (a1 : Addr) (p1 : Int64) (m : Int64) (ni : Int32) (mr : Int64) (m : MethodId) : entryFrame m #[(.ref a1), (.long p1)] 3 = mkF m 0 #[.val (.ref a1), .val (.long p1), .second] [] := by first | (simp [entryFrame, mkF, argsToLocals, Value.category, maxLocals]; done) | rfl
theorem pn_g : plainFor (⟨"com/example/vary5/vary5/NumberTheoreticTransform", "montgomery", "(J)J"⟩ : MethodName) = true := by first | exact plainFor_of_name (by first | (simp [plainName, overriddenIn]; done) | decide +kernel) | decide +kernel
set_option maxRecDepth 65536 in
set_option maxHeartbeats 40000000 in
theorem rm_g (l : Launch) (Z : State) (a0 : Array Value) (hw : ∀ d ∈ tables_1, d.before a0 Z = true) (a1 : Addr) (p1 : Int64) (m : Int64) (ni : Int32) (mr : Int64) (h0 : Heap) (E_a1 : Exa Z h0 a1 "com/example/vary5/vary5/NumberTheoreticTransform") (F_modulus_a1 : Fld Z h0 a1 "com/example/vary5/vary5/NumberTheoreticTransform" "modulus" "J" (.long m)) (F_negatedInverse_a1 : Fld Z h0 a1 "com/example/vary5/vary5/NumberTheoreticTransform" "negatedInverse" "I" (.int ni)) (F_montgomeryOfR_a1 : Fld Z h0 a1 "com/example/vary5/vary5/NumberTheoreticTransform" "montgomeryOfR" "J" (.long mr)) :
    Met l Z (⟨"com/example/vary5/vary5/NumberTheoreticTransform", "montgomery", "(J)J"⟩ : MethodName) prog_9_method_5_code 3 (some .long) [] ({ frames := 1, cells := 0, slots := 0, locals := 22 } : Room) #[(.ref a1), (.long p1)] [] h0 (fun v h => ∃ z, v = some (.long z)) := by
  refine Met.mk pn_g (ef_g a1 p1 m ni mr) ?_
  intro C T hs0 O
  show Go C [] (fun v h => ∃ z, v = some (.long z)) 0 0 (T.setTop (mkF C.m 0 #[.val (.ref a1), .val (.long p1), .second] []))
  refine Jvm.OwnW.aloadN O dg_0 rfl rfl (q := 1) rfl ?_
  refine Jvm.OwnW.lloadN O dg_1 rfl (q := 2) rfl ?_
  refine Jvm.OwnW.aloadN O dg_2 rfl rfl (q := 3) rfl ?_
  refine Jvm.OwnW.getF O dg_3 (host := "") (Or.inl (hw _ (List.mem_of_getElem? (i := 14) rfl))) Via.refl F_montgomeryOfR_a1 (q := 6) rfl ?_
  intro T1 O1
  refine Jvm.OwnW.callV0 O1 (y := (⟨"com/example/vary5/vary5/NumberTheoreticTransform", "product", "(JJ)J"⟩ : MethodName)) (z := (⟨"com/example/vary5/vary5/NumberTheoreticTransform", "product", "(JJ)J"⟩ : MethodName)) (a := a1) (argsL := [(.long p1), (.long mr)]) (rest := []) dg_6 (hw _ (List.mem_of_getElem? (i := 43) rfl)) (hw _ (List.mem_of_getElem? (i := 44) rfl)) (hw _ (List.mem_of_getElem? (i := 46) rfl)) rfl (hw _ (List.mem_of_getElem? (i := 45) rfl)) (hw _ (List.mem_of_getElem? (i := 2) rfl)) (hw _ (List.mem_of_getElem? (i := 47) rfl)) (by decide) (rm_p l Z a0 hw a1 p1 mr m ni h0 E_a1 F_modulus_a1 F_negatedInverse_a1) E_a1 rfl pd_0 rfl (hst := rfl) (W := 0) (Nat.le_of_eq rfl) (by decide) (by decide) (c2 := 0) (s2 := 0) rfl rfl (by decide) (by decide) rfl rfl (q := 9) rfl ?_
  intro v2 T2 O2 q2
  obtain rfl := q2
  show Go C _ _ _ _ (T2.setTop (mkF C.m 9 #[.val (.ref a1), .val (.long p1), .second] [(.long (fn_p p1 mr m ni))]))
  exact Jvm.OwnW.retL O2 dg_9 rfl (by decide) (by decide) ⟨_, rfl⟩
theorem dn3_0 : decode prog_9_method_3_code 0 = .ok (.ldc2_w 43, 3) := by decide +kernel
theorem dn3_3 : decode prog_9_method_3_code 3 = .ok (.lstore_n 1, 1) := by decide +kernel
theorem dn3_4 : decode prog_9_method_3_code 4 = .ok (.aload_n 0, 1) := by decide +kernel
theorem dn3_5 : decode prog_9_method_3_code 5 = .ok (.lload_n 1, 1) := by decide +kernel
theorem dn3_6 : decode prog_9_method_3_code 6 = .ok (.aload_n 0, 1) := by decide +kernel
theorem dn3_7 : decode prog_9_method_3_code 7 = .ok (.getfield 7, 3) := by decide +kernel
theorem dn3_10 : decode prog_9_method_3_code 10 = .ok (.lconst 1, 1) := by decide +kernel
theorem dn3_11 : decode prog_9_method_3_code 11 = .ok (.lsub, 1) := by decide +kernel
theorem dn3_12 : decode prog_9_method_3_code 12 = .ok (.ldc2_w 43, 3) := by decide +kernel
theorem dn3_15 : decode prog_9_method_3_code 15 = .ok (.ldiv, 1) := by decide +kernel
theorem dn3_16 : decode prog_9_method_3_code 16 = .ok (.invokevirtual 45, 3) := by decide +kernel
theorem dn3_19 : decode prog_9_method_3_code 19 = .ok (.aload_n 0, 1) := by decide +kernel
theorem dn3_20 : decode prog_9_method_3_code 20 = .ok (.getfield 7, 3) := by decide +kernel
theorem dn3_23 : decode prog_9_method_3_code 23 = .ok (.lconst 1, 1) := by decide +kernel
theorem dn3_24 : decode prog_9_method_3_code 24 = .ok (.lsub, 1) := by decide +kernel
theorem dn3_25 : decode prog_9_method_3_code 25 = .ok (.lcmp, 1) := by decide +kernel
theorem dn3_26 : decode prog_9_method_3_code 26 = .ok (.ifCond .eq 10, 3) := by decide +kernel
theorem dn3_36 : decode prog_9_method_3_code 36 = .ok (.lload_n 1, 1) := by decide +kernel
theorem dn3_37 : decode prog_9_method_3_code 37 = .ok (.lreturn, 1) := by decide +kernel
theorem ef_n3 (a1 : Addr) (m : MethodId) : entryFrame m #[(.ref a1)] 3 = mkF m 0 #[.val (.ref a1), .unset, .unset] [] := by first | (simp [entryFrame, mkF, argsToLocals, Value.category, maxLocals]; done) | rfl
theorem pn_n3 : plainFor (⟨"com/example/vary5/vary5/NumberTheoreticTransform", "nonResidue", "()J"⟩ : MethodName) = true := by first | exact plainFor_of_name (by first | (simp [plainName, overriddenIn]; done) | decide +kernel) | decide +kernel
set_option maxRecDepth 65536 in
set_option maxHeartbeats 40000000 in
theorem rm_n3 (l : Launch) (Z : State) (a0 : Array Value) (hw : ∀ d ∈ tables_1, d.before a0 Z = true) (a1 : Addr) (h0 : Heap) (E_a1 : Exa Z h0 a1 "com/example/vary5/vary5/NumberTheoreticTransform") (F_modulus_a1 : Fld Z h0 a1 "com/example/vary5/vary5/NumberTheoreticTransform" "modulus" "J" (.long (3 : Int64))) :
    Met l Z (⟨"com/example/vary5/vary5/NumberTheoreticTransform", "nonResidue", "()J"⟩ : MethodName) prog_9_method_3_code 3 (some .long) [] ({ frames := 1, cells := 0, slots := 0, locals := 22 } : Room) #[(.ref a1)] [] h0 (fun v h => v = some (.long (2 : Int64))) := by
  refine Met.mk pn_n3 (ef_n3 a1) ?_
  intro C T hs0 O
  show Go C [] (fun v h => v = some (.long (2 : Int64))) 0 0 (T.setTop (mkF C.m 0 #[.val (.ref a1), .unset, .unset] []))
  refine Jvm.OwnW.ldcL O dn3_0 (hw _ (List.mem_of_getElem? (i := 33) rfl)) (q := 3) rfl ?_
  refine Jvm.OwnW.lstoreN O dn3_3 (L' := #[.val (.ref a1), .val (.long (2 : Int64)), .second]) rfl (q := 4) rfl ?_
  refine Jvm.OwnW.aloadN O dn3_4 rfl rfl (q := 5) rfl ?_
  refine Jvm.OwnW.lloadN O dn3_5 rfl (q := 6) rfl ?_
  refine Jvm.OwnW.aloadN O dn3_6 rfl rfl (q := 7) rfl ?_
  refine Jvm.OwnW.getF O dn3_7 (host := "") (Or.inl (hw _ (List.mem_of_getElem? (i := 9) rfl))) Via.refl F_modulus_a1 (q := 10) rfl ?_
  intro T1 O1
  refine Jvm.OwnW.lconst O1 dn3_10 (r := (1 : Int64)) rfl (q := 11) rfl ?_
  refine Jvm.OwnW.lsub O1 dn3_11 (r := (2 : Int64)) (by decide) (q := 12) rfl ?_
  refine Jvm.OwnW.ldcL O1 dn3_12 (hw _ (List.mem_of_getElem? (i := 33) rfl)) (q := 15) rfl ?_
  refine Jvm.OwnW.ldiv O1 dn3_15 (by decide) (r := (1 : Int64)) (by decide) (q := 16) rfl ?_
  refine Jvm.OwnW.callP0 O1 (y := (⟨"com/example/vary5/vary5/NumberTheoreticTransform", "power", "(JJ)J"⟩ : MethodName)) (a := a1) (argsL := [(.long (2 : Int64)), (.long (1 : Int64))]) (rest := []) dn3_16 (hw _ (List.mem_of_getElem? (i := 34) rfl)) (hw _ (List.mem_of_getElem? (i := 35) rfl)) (hw _ (List.mem_of_getElem? (i := 36) rfl)) (hw _ (List.mem_of_getElem? (i := 1) rfl)) (hw _ (List.mem_of_getElem? (i := 2) rfl)) (hw _ (List.mem_of_getElem? (i := 37) rfl)) (by decide) (rm_w l Z a0 hw a1 (2 : Int64) (1 : Int64) (3 : Int64) h0 E_a1 F_modulus_a1 (by decide) (by decide)) E_a1 rfl pd_0 rfl (hst := rfl) (W := 0) (Nat.le_of_eq rfl) (by decide) (by decide) (c2 := 0) (s2 := 0) rfl rfl (by decide) (by decide) rfl rfl (q := 19) rfl ?_
  intro v2 T2 O2 q2
  obtain rfl := q2
  show Go C _ _ _ _ (T2.setTop (mkF C.m 19 #[.val (.ref a1), .val (.long (2 : Int64)), .second] [(.long (own_pw (3 : Int64) 31 1 ((2 : Int64) % (3 : Int64)) (1 : Int64)))]))
  refine Jvm.OwnW.aloadN O2 dn3_19 rfl rfl (q := 20) rfl ?_
  refine Jvm.OwnW.getF O2 dn3_20 (host := "") (Or.inl (hw _ (List.mem_of_getElem? (i := 9) rfl))) Via.refl F_modulus_a1 (q := 23) rfl ?_
  intro T3 O3
  refine Jvm.OwnW.lconst O3 dn3_23 (r := (1 : Int64)) rfl (q := 24) rfl ?_
  refine Jvm.OwnW.lsub O3 dn3_24 (r := (2 : Int64)) (by decide) (q := 25) rfl ?_
  refine Jvm.OwnW.lcmp O3 dn3_25 rfl (q := 26) rfl ?_
  refine Jvm.OwnW.ifYes O3 dn3_26 (teqL (show (own_pw (3 : Int64) 31 1 ((2 : Int64) % (3 : Int64)) (1 : Int64)) = (2 : Int64) from by decide +kernel)).1 (by decide) (q := 36) rfl ?_
  refine Jvm.OwnW.lloadN O3 dn3_36 rfl (q := 37) rfl ?_
  exact Jvm.OwnW.retL O3 dn3_37 rfl (by decide) (by decide) rfl
theorem pd_1 : parseMethodDescriptor "(II)I" = some ⟨[.int, .int], some .int⟩ := by decide +kernel
theorem pd_2 : parseMethodDescriptor "()J" = some ⟨[], some .long⟩ := by decide +kernel
theorem pd_3 : parseMethodDescriptor "(J)J" = some ⟨[.long], some .long⟩ := by decide +kernel
theorem df3_0 : decode prog_9_method_2_code 0 = .ok (.iload_n 1, 1) := by decide +kernel
theorem df3_1 : decode prog_9_method_2_code 1 = .ok (.iconst 2, 1) := by decide +kernel
theorem df3_2 : decode prog_9_method_2_code 2 = .ok (.idiv, 1) := by decide +kernel
theorem df3_3 : decode prog_9_method_2_code 3 = .ok (.iconst 1, 1) := by decide +kernel
theorem df3_4 : decode prog_9_method_2_code 4 = .ok (.invokestatic 22, 3) := by decide +kernel
theorem df3_7 : decode prog_9_method_2_code 7 = .ok (.istore_n 2, 1) := by decide +kernel
theorem df3_8 : decode prog_9_method_2_code 8 = .ok (.aload_n 0, 1) := by decide +kernel
theorem df3_9 : decode prog_9_method_2_code 9 = .ok (.aload_n 0, 1) := by decide +kernel
theorem df3_10 : decode prog_9_method_2_code 10 = .ok (.aload_n 0, 1) := by decide +kernel
theorem df3_11 : decode prog_9_method_2_code 11 = .ok (.invokevirtual 39, 3) := by decide +kernel
theorem df3_14 : decode prog_9_method_2_code 14 = .ok (.aload_n 0, 1) := by decide +kernel
theorem df3_15 : decode prog_9_method_2_code 15 = .ok (.getfield 7, 3) := by decide +kernel
theorem df3_18 : decode prog_9_method_2_code 18 = .ok (.lconst 1, 1) := by decide +kernel
theorem df3_19 : decode prog_9_method_2_code 19 = .ok (.lsub, 1) := by decide +kernel
theorem df3_20 : decode prog_9_method_2_code 20 = .ok (.ldc2_w 43, 3) := by decide +kernel
theorem df3_23 : decode prog_9_method_2_code 23 = .ok (.iload_n 2, 1) := by decide +kernel
theorem df3_24 : decode prog_9_method_2_code 24 = .ok (.i2l, 1) := by decide +kernel
theorem df3_25 : decode prog_9_method_2_code 25 = .ok (.lmul, 1) := by decide +kernel
theorem df3_26 : decode prog_9_method_2_code 26 = .ok (.ldiv, 1) := by decide +kernel
theorem df3_27 : decode prog_9_method_2_code 27 = .ok (.invokevirtual 45, 3) := by decide +kernel
theorem df3_30 : decode prog_9_method_2_code 30 = .ok (.invokevirtual 49, 3) := by decide +kernel
theorem df3_33 : decode prog_9_method_2_code 33 = .ok (.lstore_n 3, 1) := by decide +kernel
theorem df3_34 : decode prog_9_method_2_code 34 = .ok (.aload_n 0, 1) := by decide +kernel
theorem df3_35 : decode prog_9_method_2_code 35 = .ok (.lconst 1, 1) := by decide +kernel
theorem df3_36 : decode prog_9_method_2_code 36 = .ok (.invokevirtual 49, 3) := by decide +kernel
theorem df3_39 : decode prog_9_method_2_code 39 = .ok (.lstore 5, 2) := by decide +kernel
theorem df3_41 : decode prog_9_method_2_code 41 = .ok (.iconst 0, 1) := by decide +kernel
theorem df3_42 : decode prog_9_method_2_code 42 = .ok (.istore 7, 2) := by decide +kernel
theorem df3_44 : decode prog_9_method_2_code 44 = .ok (.iload 7, 2) := by decide +kernel
theorem df3_46 : decode prog_9_method_2_code 46 = .ok (.iload_n 2, 1) := by decide +kernel
theorem df3_47 : decode prog_9_method_2_code 47 = .ok (.if_icmp .ge 30, 3) := by decide +kernel
theorem df3_50 : decode prog_9_method_2_code 50 = .ok (.aload_n 0, 1) := by decide +kernel
theorem df3_51 : decode prog_9_method_2_code 51 = .ok (.getfield 28, 3) := by decide +kernel
theorem df3_54 : decode prog_9_method_2_code 54 = .ok (.iload_n 2, 1) := by decide +kernel
theorem df3_55 : decode prog_9_method_2_code 55 = .ok (.iload 7, 2) := by decide +kernel
theorem df3_57 : decode prog_9_method_2_code 57 = .ok (.iadd, 1) := by decide +kernel
theorem df3_58 : decode prog_9_method_2_code 58 = .ok (.lload 5, 2) := by decide +kernel
theorem df3_60 : decode prog_9_method_2_code 60 = .ok (.l2i, 1) := by decide +kernel
theorem df3_61 : decode prog_9_method_2_code 61 = .ok (.iastore, 1) := by decide +kernel
theorem df3_62 : decode prog_9_method_2_code 62 = .ok (.aload_n 0, 1) := by decide +kernel
theorem df3_63 : decode prog_9_method_2_code 63 = .ok (.lload 5, 2) := by decide +kernel
theorem df3_65 : decode prog_9_method_2_code 65 = .ok (.lload_n 3, 1) := by decide +kernel
theorem df3_66 : decode prog_9_method_2_code 66 = .ok (.invokevirtual 53, 3) := by decide +kernel
theorem df3_69 : decode prog_9_method_2_code 69 = .ok (.lstore 5, 2) := by decide +kernel
theorem df3_71 : decode prog_9_method_2_code 71 = .ok (.iinc 7 1, 3) := by decide +kernel
theorem df3_74 : decode prog_9_method_2_code 74 = .ok (.goto (-30), 3) := by decide +kernel
theorem df3_77 : decode prog_9_method_2_code 77 = .ok (.iload_n 2, 1) := by decide +kernel
theorem df3_78 : decode prog_9_method_2_code 78 = .ok (.iconst 2, 1) := by decide +kernel
theorem df3_79 : decode prog_9_method_2_code 79 = .ok (.idiv, 1) := by decide +kernel
theorem df3_80 : decode prog_9_method_2_code 80 = .ok (.istore 7, 2) := by decide +kernel
theorem df3_82 : decode prog_9_method_2_code 82 = .ok (.iload 7, 2) := by decide +kernel
theorem df3_84 : decode prog_9_method_2_code 84 = .ok (.iconst 1, 1) := by decide +kernel
theorem df3_85 : decode prog_9_method_2_code 85 = .ok (.if_icmp .lt 52, 3) := by decide +kernel
theorem df3_137 : decode prog_9_method_2_code 137 = .ok (.iconst 1, 1) := by decide +kernel
theorem df3_138 : decode prog_9_method_2_code 138 = .ok (.istore 7, 2) := by decide +kernel
theorem df3_140 : decode prog_9_method_2_code 140 = .ok (.iload 7, 2) := by decide +kernel
theorem df3_142 : decode prog_9_method_2_code 142 = .ok (.iload_n 2, 1) := by decide +kernel
theorem df3_143 : decode prog_9_method_2_code 143 = .ok (.if_icmp .gt 71, 3) := by decide +kernel
theorem df3_146 : decode prog_9_method_2_code 146 = .ok (.aload_n 0, 1) := by decide +kernel
theorem df3_147 : decode prog_9_method_2_code 147 = .ok (.getfield 32, 3) := by decide +kernel
theorem df3_150 : decode prog_9_method_2_code 150 = .ok (.iload 7, 2) := by decide +kernel
theorem df3_152 : decode prog_9_method_2_code 152 = .ok (.aload_n 0, 1) := by decide +kernel
theorem df3_153 : decode prog_9_method_2_code 153 = .ok (.getfield 28, 3) := by decide +kernel
theorem df3_156 : decode prog_9_method_2_code 156 = .ok (.iload 7, 2) := by decide +kernel
theorem df3_158 : decode prog_9_method_2_code 158 = .ok (.iaload, 1) := by decide +kernel
theorem df3_159 : decode prog_9_method_2_code 159 = .ok (.iastore, 1) := by decide +kernel
theorem df3_160 : decode prog_9_method_2_code 160 = .ok (.iconst 1, 1) := by decide +kernel
theorem df3_161 : decode prog_9_method_2_code 161 = .ok (.istore 8, 2) := by decide +kernel
theorem df3_163 : decode prog_9_method_2_code 163 = .ok (.iload 8, 2) := by decide +kernel
theorem df3_165 : decode prog_9_method_2_code 165 = .ok (.iload 7, 2) := by decide +kernel
theorem df3_167 : decode prog_9_method_2_code 167 = .ok (.if_icmp .ge 38, 3) := by decide +kernel
theorem df3_205 : decode prog_9_method_2_code 205 = .ok (.iload 7, 2) := by decide +kernel
theorem df3_207 : decode prog_9_method_2_code 207 = .ok (.iconst 2, 1) := by decide +kernel
theorem df3_208 : decode prog_9_method_2_code 208 = .ok (.imul, 1) := by decide +kernel
theorem df3_209 : decode prog_9_method_2_code 209 = .ok (.istore 7, 2) := by decide +kernel
theorem df3_211 : decode prog_9_method_2_code 211 = .ok (.goto (-71), 3) := by decide +kernel
theorem df3_214 : decode prog_9_method_2_code 214 = .ok (.return_, 1) := by decide +kernel
theorem ef_f3 (a1 : Addr) (ar ai : Addr) (m : MethodId) : entryFrame m #[(.ref a1), (.int (2 : Int32))] 9 = mkF m 0 #[.val (.ref a1), .val (.int (2 : Int32)), .unset, .unset, .unset, .unset, .unset, .unset, .unset] [] := by first | (simp [entryFrame, mkF, argsToLocals, Value.category, maxLocals]; done) | rfl
theorem pn_f3 : plainFor (⟨"com/example/vary5/vary5/NumberTheoreticTransform", "fillRoots", "(I)V"⟩ : MethodName) = true := by first | exact plainFor_of_name (by first | (simp [plainName, overriddenIn]; done) | decide +kernel) | decide +kernel
set_option maxRecDepth 65536 in
set_option maxHeartbeats 40000000 in
theorem rm_f3 (l : Launch) (Z : State) (a0 : Array Value) (hw : ∀ d ∈ tables_1, d.before a0 Z = true) (a1 : Addr) (ar ai : Addr) (h0 : Heap) (E_a1 : Exa Z h0 a1 "com/example/vary5/vary5/NumberTheoreticTransform") (F_modulus_a1 : Fld Z h0 a1 "com/example/vary5/vary5/NumberTheoreticTransform" "modulus" "J" (.long (3 : Int64))) (F_negatedInverse_a1 : Fld Z h0 a1 "com/example/vary5/vary5/NumberTheoreticTransform" "negatedInverse" "I" (.int (1431655765 : Int32))) (F_montgomeryOfR_a1 : Fld Z h0 a1 "com/example/vary5/vary5/NumberTheoreticTransform" "montgomeryOfR" "J" (.long (1 : Int64))) (F_roots_a1 : Fld Z h0 a1 "com/example/vary5/vary5/NumberTheoreticTransform" "roots" "[I" (.ref ar)) (F_inverseRoots_a1 : Fld Z h0 a1 "com/example/vary5/vary5/NumberTheoreticTransform" "inverseRoots" "[I" (.ref ai)) (V_ar : Ar Z h0 ar .int 2 (lf [.int 0, .int 0])) (V_ai : Ar Z h0 ai .int 2 (lf [.int 0, .int 0])) (n1r : a1 ≠ ar) (n1i : a1 ≠ ai) (nri : ar ≠ ai) :
    Met l Z (⟨"com/example/vary5/vary5/NumberTheoreticTransform", "fillRoots", "(I)V"⟩ : MethodName) prog_9_method_2_code 9 none [] ({ frames := 2, cells := 0, slots := 0, locals := 38 } : Room) #[(.ref a1), (.int (2 : Int32))] [ar, ai] h0 (fun v h => v = none) := by
  refine Met.mk pn_f3 (ef_f3 a1 ar ai) ?_
  intro C T hs0 O
  show Go C [ar, ai] (fun v h => v = none) 0 0 (T.setTop (mkF C.m 0 #[.val (.ref a1), .val (.int (2 : Int32)), .unset, .unset, .unset, .unset, .unset, .unset, .unset] []))
  refine Jvm.OwnW.iloadN O df3_0 rfl (q := 1) rfl ?_
  refine Jvm.OwnW.iconst O df3_1 (r := (2 : Int32)) rfl (q := 2) rfl ?_
  refine Jvm.OwnW.idiv O df3_2 (by decide) (r := (1 : Int32)) (by decide) (q := 3) rfl ?_
  refine Jvm.OwnW.iconst O df3_3 (r := (1 : Int32)) rfl (q := 4) rfl ?_
  refine Jvm.OwnW.callS0 O (y := (⟨"java/lang/Math", "max", "(II)I"⟩ : MethodName)) (argsL := [(.int (1 : Int32)), (.int (1 : Int32))]) (rest := []) df3_4 (hw _ (List.mem_of_getElem? (i := 16) rfl)) (hw _ (List.mem_of_getElem? (i := 17) rfl)) (hw _ (List.mem_of_getElem? (i := 18) rfl)) (hw _ (List.mem_of_getElem? (i := 19) rfl)) (by decide) (rm_m l Z a0 hw (1 : Int32) (1 : Int32) h0) rfl pd_1 rfl (hst := rfl) (W := 0) (Nat.le_of_eq rfl) (by decide) (by decide) (c2 := 0) (s2 := 0) rfl rfl (by decide) (by decide) rfl rfl (q := 7) rfl ?_
  intro v1 T1 O1 q1
  obtain rfl := q1
  rw [show fn_m (1 : Int32) (1 : Int32) = (1 : Int32) from by decide]
  show Go C _ _ _ _ (T1.setTop (mkF C.m 7 #[.val (.ref a1), .val (.int (2 : Int32)), .unset, .unset, .unset, .unset, .unset, .unset, .unset] [(.int (1 : Int32))]))
  refine Jvm.OwnW.istoreN O1 df3_7 (L' := #[.val (.ref a1), .val (.int (2 : Int32)), .val (.int (1 : Int32)), .unset, .unset, .unset, .unset, .unset, .unset]) rfl (q := 8) rfl ?_
  refine Jvm.OwnW.aloadN O1 df3_8 rfl rfl (q := 9) rfl ?_
  refine Jvm.OwnW.aloadN O1 df3_9 rfl rfl (q := 10) rfl ?_
  refine Jvm.OwnW.aloadN O1 df3_10 rfl rfl (q := 11) rfl ?_
  refine Jvm.OwnW.callP0 O1 (y := (⟨"com/example/vary5/vary5/NumberTheoreticTransform", "nonResidue", "()J"⟩ : MethodName)) (a := a1) (argsL := []) (rest := [(.ref a1), (.ref a1)]) df3_11 (hw _ (List.mem_of_getElem? (i := 29) rfl)) (hw _ (List.mem_of_getElem? (i := 30) rfl)) (hw _ (List.mem_of_getElem? (i := 31) rfl)) (hw _ (List.mem_of_getElem? (i := 1) rfl)) (hw _ (List.mem_of_getElem? (i := 2) rfl)) (hw _ (List.mem_of_getElem? (i := 32) rfl)) (by decide) (rm_n3 l Z a0 hw a1 h0 E_a1 F_modulus_a1) E_a1 rfl pd_2 rfl (hst := rfl) (W := 2) (Nat.le_of_eq rfl) (by decide) (by decide) (c2 := 0) (s2 := 0) rfl rfl (by decide) (by decide) rfl rfl (q := 14) rfl ?_
  intro v2 T2 O2 q2
  obtain rfl := q2
  show Go C _ _ _ _ (T2.setTop (mkF C.m 14 #[.val (.ref a1), .val (.int (2 : Int32)), .val (.int (1 : Int32)), .unset, .unset, .unset, .unset, .unset, .unset] [(.long (2 : Int64)), (.ref a1), (.ref a1)]))
  refine Jvm.OwnW.aloadN O2 df3_14 rfl rfl (q := 15) rfl ?_
  refine Jvm.OwnW.getF O2 df3_15 (host := "") (Or.inl (hw _ (List.mem_of_getElem? (i := 9) rfl))) Via.refl F_modulus_a1 (q := 18) rfl ?_
  intro T3 O3
  refine Jvm.OwnW.lconst O3 df3_18 (r := (1 : Int64)) rfl (q := 19) rfl ?_
  refine Jvm.OwnW.lsub O3 df3_19 (r := (2 : Int64)) (by decide) (q := 20) rfl ?_
  refine Jvm.OwnW.ldcL O3 df3_20 (hw _ (List.mem_of_getElem? (i := 33) rfl)) (q := 23) rfl ?_
  refine Jvm.OwnW.iloadN O3 df3_23 rfl (q := 24) rfl ?_
  refine Jvm.OwnW.i2l O3 df3_24 (r := (1 : Int64)) (by decide) (q := 25) rfl ?_
  refine Jvm.OwnW.lmul O3 df3_25 (r := (2 : Int64)) (by decide) (q := 26) rfl ?_
  refine Jvm.OwnW.ldiv O3 df3_26 (by decide) (r := (1 : Int64)) (by decide) (q := 27) rfl ?_
  refine Jvm.OwnW.callP0 O3 (y := (⟨"com/example/vary5/vary5/NumberTheoreticTransform", "power", "(JJ)J"⟩ : MethodName)) (a := a1) (argsL := [(.long (2 : Int64)), (.long (1 : Int64))]) (rest := [(.ref a1)]) df3_27 (hw _ (List.mem_of_getElem? (i := 34) rfl)) (hw _ (List.mem_of_getElem? (i := 35) rfl)) (hw _ (List.mem_of_getElem? (i := 36) rfl)) (hw _ (List.mem_of_getElem? (i := 1) rfl)) (hw _ (List.mem_of_getElem? (i := 2) rfl)) (hw _ (List.mem_of_getElem? (i := 37) rfl)) (by decide) (rm_w l Z a0 hw a1 (2 : Int64) (1 : Int64) (3 : Int64) h0 E_a1 F_modulus_a1 (by decide) (by decide)) E_a1 rfl pd_0 rfl (hst := rfl) (W := 1) (Nat.le_of_eq rfl) (by decide) (by decide) (c2 := 0) (s2 := 0) rfl rfl (by decide) (by decide) rfl rfl (q := 30) rfl ?_
  intro v4 T4 O4 q4
  obtain rfl := q4
  show Go C _ _ _ _ (T4.setTop (mkF C.m 30 #[.val (.ref a1), .val (.int (2 : Int32)), .val (.int (1 : Int32)), .unset, .unset, .unset, .unset, .unset, .unset] [(.long (own_pw (3 : Int64) 31 1 ((2 : Int64) % (3 : Int64)) (1 : Int64))), (.ref a1)]))
  refine Jvm.OwnW.callV0 O4 (y := (⟨"com/example/vary5/vary5/NumberTheoreticTransform", "montgomery", "(J)J"⟩ : MethodName)) (z := (⟨"com/example/vary5/vary5/NumberTheoreticTransform", "montgomery", "(J)J"⟩ : MethodName)) (a := a1) (argsL := [(.long (own_pw (3 : Int64) 31 1 ((2 : Int64) % (3 : Int64)) (1 : Int64)))]) (rest := []) df3_30 (hw _ (List.mem_of_getElem? (i := 38) rfl)) (hw _ (List.mem_of_getElem? (i := 39) rfl)) (hw _ (List.mem_of_getElem? (i := 41) rfl)) rfl (hw _ (List.mem_of_getElem? (i := 40) rfl)) (hw _ (List.mem_of_getElem? (i := 2) rfl)) (hw _ (List.mem_of_getElem? (i := 42) rfl)) (by decide) (rm_g l Z a0 hw a1 (own_pw (3 : Int64) 31 1 ((2 : Int64) % (3 : Int64)) (1 : Int64)) (3 : Int64) (1431655765 : Int32) (1 : Int64) h0 E_a1 F_modulus_a1 F_negatedInverse_a1 F_montgomeryOfR_a1) E_a1 rfl pd_3 rfl (hst := rfl) (W := 0) (Nat.le_of_eq rfl) (by decide) (by decide) (c2 := 0) (s2 := 0) rfl rfl (by decide) (by decide) rfl rfl (q := 33) rfl ?_
  intro v5 T5 O5 q5
  obtain ⟨zg6, rfl⟩ := q5
  show Go C _ _ _ _ (T5.setTop (mkF C.m 33 #[.val (.ref a1), .val (.int (2 : Int32)), .val (.int (1 : Int32)), .unset, .unset, .unset, .unset, .unset, .unset] [(.long zg6)]))
  refine Jvm.OwnW.lstoreN O5 df3_33 (L' := #[.val (.ref a1), .val (.int (2 : Int32)), .val (.int (1 : Int32)), .val (.long zg6), .second, .unset, .unset, .unset, .unset]) rfl (q := 34) rfl ?_
  refine Jvm.OwnW.aloadN O5 df3_34 rfl rfl (q := 35) rfl ?_
  refine Jvm.OwnW.lconst O5 df3_35 (r := (1 : Int64)) rfl (q := 36) rfl ?_
  refine Jvm.OwnW.callV0 O5 (y := (⟨"com/example/vary5/vary5/NumberTheoreticTransform", "montgomery", "(J)J"⟩ : MethodName)) (z := (⟨"com/example/vary5/vary5/NumberTheoreticTransform", "montgomery", "(J)J"⟩ : MethodName)) (a := a1) (argsL := [(.long (1 : Int64))]) (rest := []) df3_36 (hw _ (List.mem_of_getElem? (i := 38) rfl)) (hw _ (List.mem_of_getElem? (i := 39) rfl)) (hw _ (List.mem_of_getElem? (i := 41) rfl)) rfl (hw _ (List.mem_of_getElem? (i := 40) rfl)) (hw _ (List.mem_of_getElem? (i := 2) rfl)) (hw _ (List.mem_of_getElem? (i := 42) rfl)) (by decide) (rm_g l Z a0 hw a1 (1 : Int64) (3 : Int64) (1431655765 : Int32) (1 : Int64) h0 E_a1 F_modulus_a1 F_negatedInverse_a1 F_montgomeryOfR_a1) E_a1 rfl pd_3 rfl (hst := rfl) (W := 0) (Nat.le_of_eq rfl) (by decide) (by decide) (c2 := 0) (s2 := 0) rfl rfl (by decide) (by decide) rfl rfl (q := 39) rfl ?_
  intro v7 T7 O7 q7
  obtain ⟨zg8, rfl⟩ := q7
  show Go C _ _ _ _ (T7.setTop (mkF C.m 39 #[.val (.ref a1), .val (.int (2 : Int32)), .val (.int (1 : Int32)), .val (.long zg6), .second, .unset, .unset, .unset, .unset] [(.long zg8)]))
  refine Jvm.OwnW.lstore O7 df3_39 (L' := #[.val (.ref a1), .val (.int (2 : Int32)), .val (.int (1 : Int32)), .val (.long zg6), .second, .val (.long zg8), .second, .unset, .unset]) rfl (q := 41) rfl ?_
  refine Jvm.OwnW.iconst O7 df3_41 (r := (0 : Int32)) rfl (q := 42) rfl ?_
  refine Jvm.OwnW.istore O7 df3_42 (L' := #[.val (.ref a1), .val (.int (2 : Int32)), .val (.int (1 : Int32)), .val (.long zg6), .second, .val (.long zg8), .second, .val (.int (0 : Int32)), .unset]) rfl (q := 44) rfl ?_
  refine Jvm.OwnW.iload O7 df3_44 rfl (q := 46) rfl ?_
  refine Jvm.OwnW.iloadN O7 df3_46 rfl (q := 47) rfl ?_
  refine Jvm.OwnW.icmpNo O7 df3_47 (tlt (show (0 : Int32) < (1 : Int32) from (by decide))).2.1 (q := 50) rfl ?_
  refine Jvm.OwnW.aloadN O7 df3_50 rfl rfl (q := 51) rfl ?_
  refine Jvm.OwnW.getF O7 df3_51 (host := "") (Or.inl (hw _ (List.mem_of_getElem? (i := 21) rfl))) Via.refl F_roots_a1 (q := 54) rfl ?_
  intro T9 O9
  refine Jvm.OwnW.iloadN O9 df3_54 rfl (q := 55) rfl ?_
  refine Jvm.OwnW.iload O9 df3_55 rfl (q := 57) rfl ?_
  refine Jvm.OwnW.iadd O9 df3_57 (r := (1 : Int32)) (by decide) (q := 58) rfl ?_
  refine Jvm.OwnW.lload O9 df3_58 rfl (q := 60) rfl ?_
  refine Jvm.OwnW.l2i O9 df3_60 rfl (q := 61) rfl ?_
  refine Jvm.OwnW.iasA O9 df3_61 V_ar (i := 1) rfl (by decide) (Or.inl (List.mem_cons_self ..)) (q := 62) rfl ?_
  intro T10 h10 O10 W10
  have V_ar : Ar Z h10 ar .int 2 (lf [(.int (0 : Int32)), (.int zg8.toInt32)]) := V_ar.setL W10 (by decide) (Nat.le_of_ble_eq_true rfl)
  have E_a1 := E_a1.wr W10
  have F_modulus_a1 := F_modulus_a1.other W10 (Or.inl n1r)
  have F_negatedInverse_a1 := F_negatedInverse_a1.other W10 (Or.inl n1r)
  have F_montgomeryOfR_a1 := F_montgomeryOfR_a1.other W10 (Or.inl n1r)
  have F_roots_a1 := F_roots_a1.other W10 (Or.inl n1r)
  have F_inverseRoots_a1 := F_inverseRoots_a1.other W10 (Or.inl n1r)
  have V_ai := V_ai.other W10 (Ne.symm nri)
  refine Jvm.OwnW.aloadN O10 df3_62 rfl rfl (q := 63) rfl ?_
  refine Jvm.OwnW.lload O10 df3_63 rfl (q := 65) rfl ?_
  refine Jvm.OwnW.lloadN O10 df3_65 rfl (q := 66) rfl ?_
  refine Jvm.OwnW.callV0 O10 (y := (⟨"com/example/vary5/vary5/NumberTheoreticTransform", "product", "(JJ)J"⟩ : MethodName)) (z := (⟨"com/example/vary5/vary5/NumberTheoreticTransform", "product", "(JJ)J"⟩ : MethodName)) (a := a1) (argsL := [(.long zg8), (.long zg6)]) (rest := []) df3_66 (hw _ (List.mem_of_getElem? (i := 43) rfl)) (hw _ (List.mem_of_getElem? (i := 44) rfl)) (hw _ (List.mem_of_getElem? (i := 46) rfl)) rfl (hw _ (List.mem_of_getElem? (i := 45) rfl)) (hw _ (List.mem_of_getElem? (i := 2) rfl)) (hw _ (List.mem_of_getElem? (i := 47) rfl)) (by decide) (rm_p l Z a0 hw a1 zg8 zg6 (3 : Int64) (1431655765 : Int32) h10 E_a1 F_modulus_a1 F_negatedInverse_a1) E_a1 rfl pd_0 rfl (hst := rfl) (W := 0) (Nat.le_of_eq rfl) (by decide) (by decide) (c2 := 0) (s2 := 0) rfl rfl (by decide) (by decide) rfl rfl (q := 69) rfl ?_
  intro v11 T11 O11 q11
  obtain rfl := q11
  show Go C _ _ _ _ (T11.setTop (mkF C.m 69 #[.val (.ref a1), .val (.int (2 : Int32)), .val (.int (1 : Int32)), .val (.long zg6), .second, .val (.long zg8), .second, .val (.int (0 : Int32)), .unset] [(.long (fn_p zg8 zg6 (3 : Int64) (1431655765 : Int32)))]))
  refine Jvm.OwnW.lstore O11 df3_69 (L' := #[.val (.ref a1), .val (.int (2 : Int32)), .val (.int (1 : Int32)), .val (.long zg6), .second, .val (.long (fn_p zg8 zg6 (3 : Int64) (1431655765 : Int32))), .second, .val (.int (0 : Int32)), .unset]) rfl (q := 71) rfl ?_
  refine Jvm.OwnW.iinc O11 df3_71 rfl (L' := #[.val (.ref a1), .val (.int (2 : Int32)), .val (.int (1 : Int32)), .val (.long zg6), .second, .val (.long (fn_p zg8 zg6 (3 : Int64) (1431655765 : Int32))), .second, .val (.int (1 : Int32)), .unset]) rfl (q := 74) rfl ?_
  refine Jvm.OwnW.goto O11 df3_74 (by decide) (q := 44) rfl ?_
  refine Jvm.OwnW.iload O11 df3_44 rfl (q := 46) rfl ?_
  refine Jvm.OwnW.iloadN O11 df3_46 rfl (q := 47) rfl ?_
  refine Jvm.OwnW.icmpYes O11 df3_47 (flt (show ¬ ((1 : Int32) < (1 : Int32)) from (by decide))).2.1 (by decide) (q := 77) rfl ?_
  refine Jvm.OwnW.iloadN O11 df3_77 rfl (q := 78) rfl ?_
  refine Jvm.OwnW.iconst O11 df3_78 (r := (2 : Int32)) rfl (q := 79) rfl ?_
  refine Jvm.OwnW.idiv O11 df3_79 (by decide) (r := (0 : Int32)) (by decide) (q := 80) rfl ?_
  refine Jvm.OwnW.istore O11 df3_80 (L' := #[.val (.ref a1), .val (.int (2 : Int32)), .val (.int (1 : Int32)), .val (.long zg6), .second, .val (.long (fn_p zg8 zg6 (3 : Int64) (1431655765 : Int32))), .second, .val (.int (0 : Int32)), .unset]) rfl (q := 82) rfl ?_
  refine Jvm.OwnW.iload O11 df3_82 rfl (q := 84) rfl ?_
  refine Jvm.OwnW.iconst O11 df3_84 (r := (1 : Int32)) rfl (q := 85) rfl ?_
  refine Jvm.OwnW.icmpYes O11 df3_85 (tlt (show (0 : Int32) < (1 : Int32) from (by decide))).1 (by decide) (q := 137) rfl ?_
  refine Jvm.OwnW.iconst O11 df3_137 (r := (1 : Int32)) rfl (q := 138) rfl ?_
  refine Jvm.OwnW.istore O11 df3_138 (L' := #[.val (.ref a1), .val (.int (2 : Int32)), .val (.int (1 : Int32)), .val (.long zg6), .second, .val (.long (fn_p zg8 zg6 (3 : Int64) (1431655765 : Int32))), .second, .val (.int (1 : Int32)), .unset]) rfl (q := 140) rfl ?_
  refine Jvm.OwnW.iload O11 df3_140 rfl (q := 142) rfl ?_
  refine Jvm.OwnW.iloadN O11 df3_142 rfl (q := 143) rfl ?_
  refine Jvm.OwnW.icmpNo O11 df3_143 (flt (show ¬ ((1 : Int32) < (1 : Int32)) from (by decide))).2.2.1 (q := 146) rfl ?_
  refine Jvm.OwnW.aloadN O11 df3_146 rfl rfl (q := 147) rfl ?_
  refine Jvm.OwnW.getF O11 df3_147 (host := "") (Or.inl (hw _ (List.mem_of_getElem? (i := 23) rfl))) Via.refl F_inverseRoots_a1 (q := 150) rfl ?_
  intro T12 O12
  refine Jvm.OwnW.iload O12 df3_150 rfl (q := 152) rfl ?_
  refine Jvm.OwnW.aloadN O12 df3_152 rfl rfl (q := 153) rfl ?_
  refine Jvm.OwnW.getF O12 df3_153 (host := "") (Or.inl (hw _ (List.mem_of_getElem? (i := 21) rfl))) Via.refl F_roots_a1 (q := 156) rfl ?_
  intro T13 O13
  refine Jvm.OwnW.iload O13 df3_156 rfl (q := 158) rfl ?_
  refine Jvm.OwnW.ialA O13 df3_158 V_ar (i := 1) rfl (by decide) (v := (.int zg8.toInt32)) rfl (q := 159) rfl ?_
  refine Jvm.OwnW.iasA O13 df3_159 V_ai (i := 1) rfl (by decide) (Or.inl (List.mem_cons_of_mem _ (List.mem_cons_self ..))) (q := 160) rfl ?_
  intro T14 h14 O14 W14
  have V_ai : Ar Z h14 ai .int 2 (lf [(.int (0 : Int32)), (.int zg8.toInt32)]) := V_ai.setL W14 (by decide) (Nat.le_of_ble_eq_true rfl)
  have E_a1 := E_a1.wr W14
  have F_modulus_a1 := F_modulus_a1.other W14 (Or.inl n1i)
  have F_negatedInverse_a1 := F_negatedInverse_a1.other W14 (Or.inl n1i)
  have F_montgomeryOfR_a1 := F_montgomeryOfR_a1.other W14 (Or.inl n1i)
  have F_roots_a1 := F_roots_a1.other W14 (Or.inl n1i)
  have F_inverseRoots_a1 := F_inverseRoots_a1.other W14 (Or.inl n1i)
  have V_ar := V_ar.other W14 nri
  refine Jvm.OwnW.iconst O14 df3_160 (r := (1 : Int32)) rfl (q := 161) rfl ?_
  refine Jvm.OwnW.istore O14 df3_161 (L' := #[.val (.ref a1), .val (.int (2 : Int32)), .val (.int (1 : Int32)), .val (.long zg6), .second, .val (.long (fn_p zg8 zg6 (3 : Int64) (1431655765 : Int32))), .second, .val (.int (1 : Int32)), .val (.int (1 : Int32))]) rfl (q := 163) rfl ?_
  refine Jvm.OwnW.iload O14 df3_163 rfl (q := 165) rfl ?_
  refine Jvm.OwnW.iload O14 df3_165 rfl (q := 167) rfl ?_
  refine Jvm.OwnW.icmpYes O14 df3_167 (flt (show ¬ ((1 : Int32) < (1 : Int32)) from (by decide))).2.1 (by decide) (q := 205) rfl ?_
  refine Jvm.OwnW.iload O14 df3_205 rfl (q := 207) rfl ?_
  refine Jvm.OwnW.iconst O14 df3_207 (r := (2 : Int32)) rfl (q := 208) rfl ?_
  refine Jvm.OwnW.imul O14 df3_208 (r := (2 : Int32)) (by decide) (q := 209) rfl ?_
  refine Jvm.OwnW.istore O14 df3_209 (L' := #[.val (.ref a1), .val (.int (2 : Int32)), .val (.int (1 : Int32)), .val (.long zg6), .second, .val (.long (fn_p zg8 zg6 (3 : Int64) (1431655765 : Int32))), .second, .val (.int (2 : Int32)), .val (.int (1 : Int32))]) rfl (q := 211) rfl ?_
  refine Jvm.OwnW.goto O14 df3_211 (by decide) (q := 140) rfl ?_
  refine Jvm.OwnW.iload O14 df3_140 rfl (q := 142) rfl ?_
  refine Jvm.OwnW.iloadN O14 df3_142 rfl (q := 143) rfl ?_
  refine Jvm.OwnW.icmpYes O14 df3_143 (tlt (show (1 : Int32) < (2 : Int32) from (by decide))).2.2.1 (by decide) (q := 214) rfl ?_
  exact Jvm.OwnW.ret0 O14 df3_214 (by decide) (by decide) rfl
theorem pd_4 : parseMethodDescriptor "(I)V" = some ⟨[.int], none⟩ := by decide +kernel
theorem di3_0 : decode prog_9_method_1_code 0 = .ok (.aload_n 0, 1) := by decide +kernel
theorem di3_1 : decode prog_9_method_1_code 1 = .ok (.invokespecial 1, 3) := by decide +kernel
theorem di3_4 : decode prog_9_method_1_code 4 = .ok (.aload_n 0, 1) := by decide +kernel
theorem di3_5 : decode prog_9_method_1_code 5 = .ok (.iload_n 1, 1) := by decide +kernel
theorem di3_6 : decode prog_9_method_1_code 6 = .ok (.i2l, 1) := by decide +kernel
theorem di3_7 : decode prog_9_method_1_code 7 = .ok (.putfield 7, 3) := by decide +kernel
theorem di3_10 : decode prog_9_method_1_code 10 = .ok (.iload_n 1, 1) := by decide +kernel
theorem di3_11 : decode prog_9_method_1_code 11 = .ok (.istore_n 3, 1) := by decide +kernel
theorem di3_12 : decode prog_9_method_1_code 12 = .ok (.iconst 0, 1) := by decide +kernel
theorem di3_13 : decode prog_9_method_1_code 13 = .ok (.istore 4, 2) := by decide +kernel
theorem di3_15 : decode prog_9_method_1_code 15 = .ok (.iload 4, 2) := by decide +kernel
theorem di3_17 : decode prog_9_method_1_code 17 = .ok (.iconst 4, 1) := by decide +kernel
theorem di3_18 : decode prog_9_method_1_code 18 = .ok (.if_icmp .ge 17, 3) := by decide +kernel
theorem di3_21 : decode prog_9_method_1_code 21 = .ok (.iload_n 3, 1) := by decide +kernel
theorem di3_22 : decode prog_9_method_1_code 22 = .ok (.iconst 2, 1) := by decide +kernel
theorem di3_23 : decode prog_9_method_1_code 23 = .ok (.iload_n 1, 1) := by decide +kernel
theorem di3_24 : decode prog_9_method_1_code 24 = .ok (.iload_n 3, 1) := by decide +kernel
theorem di3_25 : decode prog_9_method_1_code 25 = .ok (.imul, 1) := by decide +kernel
theorem di3_26 : decode prog_9_method_1_code 26 = .ok (.isub, 1) := by decide +kernel
theorem di3_27 : decode prog_9_method_1_code 27 = .ok (.imul, 1) := by decide +kernel
theorem di3_28 : decode prog_9_method_1_code 28 = .ok (.istore_n 3, 1) := by decide +kernel
theorem di3_29 : decode prog_9_method_1_code 29 = .ok (.iinc 4 1, 3) := by decide +kernel
theorem di3_32 : decode prog_9_method_1_code 32 = .ok (.goto (-17), 3) := by decide +kernel
theorem di3_35 : decode prog_9_method_1_code 35 = .ok (.aload_n 0, 1) := by decide +kernel
theorem di3_36 : decode prog_9_method_1_code 36 = .ok (.iload_n 3, 1) := by decide +kernel
theorem di3_37 : decode prog_9_method_1_code 37 = .ok (.ineg, 1) := by decide +kernel
theorem di3_38 : decode prog_9_method_1_code 38 = .ok (.putfield 13, 3) := by decide +kernel
theorem di3_41 : decode prog_9_method_1_code 41 = .ok (.ldc2_w 17, 3) := by decide +kernel
theorem di3_44 : decode prog_9_method_1_code 44 = .ok (.iload_n 1, 1) := by decide +kernel
theorem di3_45 : decode prog_9_method_1_code 45 = .ok (.i2l, 1) := by decide +kernel
theorem di3_46 : decode prog_9_method_1_code 46 = .ok (.lrem, 1) := by decide +kernel
theorem di3_47 : decode prog_9_method_1_code 47 = .ok (.lstore 4, 2) := by decide +kernel
theorem di3_49 : decode prog_9_method_1_code 49 = .ok (.aload_n 0, 1) := by decide +kernel
theorem di3_50 : decode prog_9_method_1_code 50 = .ok (.lload 4, 2) := by decide +kernel
theorem di3_52 : decode prog_9_method_1_code 52 = .ok (.lload 4, 2) := by decide +kernel
theorem di3_54 : decode prog_9_method_1_code 54 = .ok (.lmul, 1) := by decide +kernel
theorem di3_55 : decode prog_9_method_1_code 55 = .ok (.iload_n 1, 1) := by decide +kernel
theorem di3_56 : decode prog_9_method_1_code 56 = .ok (.i2l, 1) := by decide +kernel
theorem di3_57 : decode prog_9_method_1_code 57 = .ok (.lrem, 1) := by decide +kernel
theorem di3_58 : decode prog_9_method_1_code 58 = .ok (.putfield 19, 3) := by decide +kernel
theorem di3_61 : decode prog_9_method_1_code 61 = .ok (.aload_n 0, 1) := by decide +kernel
theorem di3_62 : decode prog_9_method_1_code 62 = .ok (.iload_n 2, 1) := by decide +kernel
theorem di3_63 : decode prog_9_method_1_code 63 = .ok (.iconst 2, 1) := by decide +kernel
theorem di3_64 : decode prog_9_method_1_code 64 = .ok (.invokestatic 22, 3) := by decide +kernel
theorem di3_67 : decode prog_9_method_1_code 67 = .ok (.newarray .int, 2) := by decide +kernel
theorem di3_69 : decode prog_9_method_1_code 69 = .ok (.putfield 28, 3) := by decide +kernel
theorem di3_72 : decode prog_9_method_1_code 72 = .ok (.aload_n 0, 1) := by decide +kernel
theorem di3_73 : decode prog_9_method_1_code 73 = .ok (.aload_n 0, 1) := by decide +kernel
theorem di3_74 : decode prog_9_method_1_code 74 = .ok (.getfield 28, 3) := by decide +kernel
theorem di3_77 : decode prog_9_method_1_code 77 = .ok (.arraylength, 1) := by decide +kernel
theorem di3_78 : decode prog_9_method_1_code 78 = .ok (.newarray .int, 2) := by decide +kernel
theorem di3_80 : decode prog_9_method_1_code 80 = .ok (.putfield 32, 3) := by decide +kernel
theorem di3_83 : decode prog_9_method_1_code 83 = .ok (.aload_n 0, 1) := by decide +kernel
theorem di3_84 : decode prog_9_method_1_code 84 = .ok (.iload_n 2, 1) := by decide +kernel
theorem di3_85 : decode prog_9_method_1_code 85 = .ok (.invokevirtual 35, 3) := by decide +kernel
theorem di3_88 : decode prog_9_method_1_code 88 = .ok (.return_, 1) := by decide +kernel
theorem ef_i3 (a1 : Addr) (m : MethodId) : entryFrame m #[(.ref a1), (.int (3 : Int32)), (.int (2 : Int32))] 6 = mkF m 0 #[.val (.ref a1), .val (.int (3 : Int32)), .val (.int (2 : Int32)), .unset, .unset, .unset] [] := by first | (simp [entryFrame, mkF, argsToLocals, Value.category, maxLocals]; done) | rfl
theorem pn_i3 : plainFor (⟨"com/example/vary5/vary5/NumberTheoreticTransform", "<init>", "(II)V"⟩ : MethodName) = true := by first | exact plainFor_of_name (by first | (simp [plainName, overriddenIn]; done) | decide +kernel) | decide +kernel
set_option maxRecDepth 65536 in
set_option maxHeartbeats 40000000 in
theorem rm_i3 (l : Launch) (Z : State) (a0 : Array Value) (hw : ∀ d ∈ tables_1, d.before a0 Z = true) (a1 : Addr) (h0 : Heap) (E_a1 : Exa Z h0 a1 "com/example/vary5/vary5/NumberTheoreticTransform") (F_modulus_a1 : Fld Z h0 a1 "com/example/vary5/vary5/NumberTheoreticTransform" "modulus" "J" (.long (0 : Int64))) (F_negatedInverse_a1 : Fld Z h0 a1 "com/example/vary5/vary5/NumberTheoreticTransform" "negatedInverse" "I" (.int (0 : Int32))) (F_montgomeryOfR_a1 : Fld Z h0 a1 "com/example/vary5/vary5/NumberTheoreticTransform" "montgomeryOfR" "J" (.long (0 : Int64))) (F_roots_a1 : Fld Z h0 a1 "com/example/vary5/vary5/NumberTheoreticTransform" "roots" "[I" .null) (F_inverseRoots_a1 : Fld Z h0 a1 "com/example/vary5/vary5/NumberTheoreticTransform" "inverseRoots" "[I" .null) :
    Met l Z (⟨"com/example/vary5/vary5/NumberTheoreticTransform", "<init>", "(II)V"⟩ : MethodName) prog_9_method_1_code 6 none [] ({ frames := 3, cells := 2, slots := 4, locals := 58 } : Room) #[(.ref a1), (.int (3 : Int32)), (.int (2 : Int32))] [a1] h0 (fun v h => v = none ∧ Fld Z h a1 "com/example/vary5/vary5/NumberTheoreticTransform" "modulus" "J" (.long (3 : Int64)) ∧ Fld Z h a1 "com/example/vary5/vary5/NumberTheoreticTransform" "negatedInverse" "I" (.int (1431655765 : Int32))) := by
  refine Met.mk pn_i3 (ef_i3 a1) ?_
  intro C T hs0 O
  show Go C [a1] (fun v h => v = none ∧ Fld Z h a1 "com/example/vary5/vary5/NumberTheoreticTransform" "modulus" "J" (.long (3 : Int64)) ∧ Fld Z h a1 "com/example/vary5/vary5/NumberTheoreticTransform" "negatedInverse" "I" (.int (1431655765 : Int32))) 2 4 (T.setTop (mkF C.m 0 #[.val (.ref a1), .val (.int (3 : Int32)), .val (.int (2 : Int32)), .unset, .unset, .unset] []))
  refine Jvm.OwnW.aloadN O di3_0 rfl rfl (q := 1) rfl ?_
  refine Jvm.OwnW.initO O di3_1 (hw _ (List.mem_of_getElem? (i := 6) rfl)) (hw _ (List.mem_of_getElem? (i := 7) rfl)) (hw _ (List.mem_of_getElem? (i := 8) rfl)) rfl (by decide) (W := 0) (Nat.le_of_eq rfl) (by decide) (q := 4) rfl ?_
  intro T1 O1
  refine Jvm.OwnW.aloadN O1 di3_4 rfl rfl (q := 5) rfl ?_
  refine Jvm.OwnW.iloadN O1 di3_5 rfl (q := 6) rfl ?_
  refine Jvm.OwnW.i2l O1 di3_6 (r := (3 : Int64)) (by decide) (q := 7) rfl ?_
  refine Jvm.OwnW.putF O1 di3_7 (host := "") (Or.inl (hw _ (List.mem_of_getElem? (i := 9) rfl))) Via.refl F_modulus_a1 E_a1 (Or.inr ⟨hw _ (List.mem_of_getElem? (i := 10) rfl), rfl, rfl⟩) (hw _ (List.mem_of_getElem? (i := 1) rfl)) (ty := .long) (by decide) rfl rfl (Or.inl (List.mem_cons_self ..)) (q := 10) rfl ?_
  intro T2 h2 O2 W2
  have E_a1 := E_a1.wr W2
  have F_modulus_a1 := F_modulus_a1.same W2
  have F_negatedInverse_a1 := F_negatedInverse_a1.other W2 (Or.inr (slot_ne (Or.inr (hw _ (List.mem_of_getElem? (i := 12) rfl))) (Or.inr (hw _ (List.mem_of_getElem? (i := 10) rfl))) (by decide) (t := .int) (t' := .long) (by decide) (by decide)))
  have F_montgomeryOfR_a1 := F_montgomeryOfR_a1.other W2 (Or.inr (slot_ne (Or.inr (hw _ (List.mem_of_getElem? (i := 15) rfl))) (Or.inr (hw _ (List.mem_of_getElem? (i := 10) rfl))) (by decide) (t := .long) (t' := .long) (by decide) (by decide)))
  have F_roots_a1 := F_roots_a1.other W2 (Or.inr (slot_ne (Or.inr (hw _ (List.mem_of_getElem? (i := 22) rfl))) (Or.inr (hw _ (List.mem_of_getElem? (i := 10) rfl))) (by decide) (t := (.array .int)) (t' := .long) (by decide) (by decide)))
  have F_inverseRoots_a1 := F_inverseRoots_a1.other W2 (Or.inr (slot_ne (Or.inr (hw _ (List.mem_of_getElem? (i := 24) rfl))) (Or.inr (hw _ (List.mem_of_getElem? (i := 10) rfl))) (by decide) (t := (.array .int)) (t' := .long) (by decide) (by decide)))
  refine Jvm.OwnW.iloadN O2 di3_10 rfl (q := 11) rfl ?_
  refine Jvm.OwnW.istoreN O2 di3_11 (L' := #[.val (.ref a1), .val (.int (3 : Int32)), .val (.int (2 : Int32)), .val (.int (3 : Int32)), .unset, .unset]) rfl (q := 12) rfl ?_
  refine Jvm.OwnW.iconst O2 di3_12 (r := (0 : Int32)) rfl (q := 13) rfl ?_
  refine Jvm.OwnW.istore O2 di3_13 (L' := #[.val (.ref a1), .val (.int (3 : Int32)), .val (.int (2 : Int32)), .val (.int (3 : Int32)), .val (.int (0 : Int32)), .unset]) rfl (q := 15) rfl ?_
  refine Jvm.OwnW.iload O2 di3_15 rfl (q := 17) rfl ?_
  refine Jvm.OwnW.iconst O2 di3_17 (r := (4 : Int32)) rfl (q := 18) rfl ?_
  refine Jvm.OwnW.icmpNo O2 di3_18 (tlt (show (0 : Int32) < (4 : Int32) from (by decide))).2.1 (q := 21) rfl ?_
  refine Jvm.OwnW.iloadN O2 di3_21 rfl (q := 22) rfl ?_
  refine Jvm.OwnW.iconst O2 di3_22 (r := (2 : Int32)) rfl (q := 23) rfl ?_
  refine Jvm.OwnW.iloadN O2 di3_23 rfl (q := 24) rfl ?_
  refine Jvm.OwnW.iloadN O2 di3_24 rfl (q := 25) rfl ?_
  refine Jvm.OwnW.imul O2 di3_25 (r := (9 : Int32)) (by decide) (q := 26) rfl ?_
  refine Jvm.OwnW.isub O2 di3_26 (r := (-7 : Int32)) (by decide) (q := 27) rfl ?_
  refine Jvm.OwnW.imul O2 di3_27 (r := (-21 : Int32)) (by decide) (q := 28) rfl ?_
  refine Jvm.OwnW.istoreN O2 di3_28 (L' := #[.val (.ref a1), .val (.int (3 : Int32)), .val (.int (2 : Int32)), .val (.int (-21 : Int32)), .val (.int (0 : Int32)), .unset]) rfl (q := 29) rfl ?_
  refine Jvm.OwnW.iinc O2 di3_29 rfl (L' := #[.val (.ref a1), .val (.int (3 : Int32)), .val (.int (2 : Int32)), .val (.int (-21 : Int32)), .val (.int (1 : Int32)), .unset]) rfl (q := 32) rfl ?_
  refine Jvm.OwnW.goto O2 di3_32 (by decide) (q := 15) rfl ?_
  refine Jvm.OwnW.iload O2 di3_15 rfl (q := 17) rfl ?_
  refine Jvm.OwnW.iconst O2 di3_17 (r := (4 : Int32)) rfl (q := 18) rfl ?_
  refine Jvm.OwnW.icmpNo O2 di3_18 (tlt (show (1 : Int32) < (4 : Int32) from (by decide))).2.1 (q := 21) rfl ?_
  refine Jvm.OwnW.iloadN O2 di3_21 rfl (q := 22) rfl ?_
  refine Jvm.OwnW.iconst O2 di3_22 (r := (2 : Int32)) rfl (q := 23) rfl ?_
  refine Jvm.OwnW.iloadN O2 di3_23 rfl (q := 24) rfl ?_
  refine Jvm.OwnW.iloadN O2 di3_24 rfl (q := 25) rfl ?_
  refine Jvm.OwnW.imul O2 di3_25 (r := (-63 : Int32)) (by decide) (q := 26) rfl ?_
  refine Jvm.OwnW.isub O2 di3_26 (r := (65 : Int32)) (by decide) (q := 27) rfl ?_
  refine Jvm.OwnW.imul O2 di3_27 (r := (-1365 : Int32)) (by decide) (q := 28) rfl ?_
  refine Jvm.OwnW.istoreN O2 di3_28 (L' := #[.val (.ref a1), .val (.int (3 : Int32)), .val (.int (2 : Int32)), .val (.int (-1365 : Int32)), .val (.int (1 : Int32)), .unset]) rfl (q := 29) rfl ?_
  refine Jvm.OwnW.iinc O2 di3_29 rfl (L' := #[.val (.ref a1), .val (.int (3 : Int32)), .val (.int (2 : Int32)), .val (.int (-1365 : Int32)), .val (.int (2 : Int32)), .unset]) rfl (q := 32) rfl ?_
  refine Jvm.OwnW.goto O2 di3_32 (by decide) (q := 15) rfl ?_
  refine Jvm.OwnW.iload O2 di3_15 rfl (q := 17) rfl ?_
  refine Jvm.OwnW.iconst O2 di3_17 (r := (4 : Int32)) rfl (q := 18) rfl ?_
  refine Jvm.OwnW.icmpNo O2 di3_18 (tlt (show (2 : Int32) < (4 : Int32) from (by decide))).2.1 (q := 21) rfl ?_
  refine Jvm.OwnW.iloadN O2 di3_21 rfl (q := 22) rfl ?_
  refine Jvm.OwnW.iconst O2 di3_22 (r := (2 : Int32)) rfl (q := 23) rfl ?_
  refine Jvm.OwnW.iloadN O2 di3_23 rfl (q := 24) rfl ?_
  refine Jvm.OwnW.iloadN O2 di3_24 rfl (q := 25) rfl ?_
  refine Jvm.OwnW.imul O2 di3_25 (r := (-4095 : Int32)) (by decide) (q := 26) rfl ?_
  refine Jvm.OwnW.isub O2 di3_26 (r := (4097 : Int32)) (by decide) (q := 27) rfl ?_
  refine Jvm.OwnW.imul O2 di3_27 (r := (-5592405 : Int32)) (by decide) (q := 28) rfl ?_
  refine Jvm.OwnW.istoreN O2 di3_28 (L' := #[.val (.ref a1), .val (.int (3 : Int32)), .val (.int (2 : Int32)), .val (.int (-5592405 : Int32)), .val (.int (2 : Int32)), .unset]) rfl (q := 29) rfl ?_
  refine Jvm.OwnW.iinc O2 di3_29 rfl (L' := #[.val (.ref a1), .val (.int (3 : Int32)), .val (.int (2 : Int32)), .val (.int (-5592405 : Int32)), .val (.int (3 : Int32)), .unset]) rfl (q := 32) rfl ?_
  refine Jvm.OwnW.goto O2 di3_32 (by decide) (q := 15) rfl ?_
  refine Jvm.OwnW.iload O2 di3_15 rfl (q := 17) rfl ?_
  refine Jvm.OwnW.iconst O2 di3_17 (r := (4 : Int32)) rfl (q := 18) rfl ?_
  refine Jvm.OwnW.icmpNo O2 di3_18 (tlt (show (3 : Int32) < (4 : Int32) from (by decide))).2.1 (q := 21) rfl ?_
  refine Jvm.OwnW.iloadN O2 di3_21 rfl (q := 22) rfl ?_
  refine Jvm.OwnW.iconst O2 di3_22 (r := (2 : Int32)) rfl (q := 23) rfl ?_
  refine Jvm.OwnW.iloadN O2 di3_23 rfl (q := 24) rfl ?_
  refine Jvm.OwnW.iloadN O2 di3_24 rfl (q := 25) rfl ?_
  refine Jvm.OwnW.imul O2 di3_25 (r := (-16777215 : Int32)) (by decide) (q := 26) rfl ?_
  refine Jvm.OwnW.isub O2 di3_26 (r := (16777217 : Int32)) (by decide) (q := 27) rfl ?_
  refine Jvm.OwnW.imul O2 di3_27 (r := (-1431655765 : Int32)) (by decide) (q := 28) rfl ?_
  refine Jvm.OwnW.istoreN O2 di3_28 (L' := #[.val (.ref a1), .val (.int (3 : Int32)), .val (.int (2 : Int32)), .val (.int (-1431655765 : Int32)), .val (.int (3 : Int32)), .unset]) rfl (q := 29) rfl ?_
  refine Jvm.OwnW.iinc O2 di3_29 rfl (L' := #[.val (.ref a1), .val (.int (3 : Int32)), .val (.int (2 : Int32)), .val (.int (-1431655765 : Int32)), .val (.int (4 : Int32)), .unset]) rfl (q := 32) rfl ?_
  refine Jvm.OwnW.goto O2 di3_32 (by decide) (q := 15) rfl ?_
  refine Jvm.OwnW.iload O2 di3_15 rfl (q := 17) rfl ?_
  refine Jvm.OwnW.iconst O2 di3_17 (r := (4 : Int32)) rfl (q := 18) rfl ?_
  refine Jvm.OwnW.icmpYes O2 di3_18 (flt (show ¬ ((4 : Int32) < (4 : Int32)) from (by decide))).2.1 (by decide) (q := 35) rfl ?_
  refine Jvm.OwnW.aloadN O2 di3_35 rfl rfl (q := 36) rfl ?_
  refine Jvm.OwnW.iloadN O2 di3_36 rfl (q := 37) rfl ?_
  refine Jvm.OwnW.ineg O2 di3_37 (r := (1431655765 : Int32)) (by decide) (q := 38) rfl ?_
  refine Jvm.OwnW.putF O2 di3_38 (host := "") (Or.inl (hw _ (List.mem_of_getElem? (i := 11) rfl))) Via.refl F_negatedInverse_a1 E_a1 (Or.inr ⟨hw _ (List.mem_of_getElem? (i := 12) rfl), rfl, rfl⟩) (hw _ (List.mem_of_getElem? (i := 1) rfl)) (ty := .int) (by decide) rfl rfl (Or.inl (List.mem_cons_self ..)) (q := 41) rfl ?_
  intro T3 h3 O3 W3
  have E_a1 := E_a1.wr W3
  have F_modulus_a1 := F_modulus_a1.other W3 (Or.inr (slot_ne (Or.inr (hw _ (List.mem_of_getElem? (i := 10) rfl))) (Or.inr (hw _ (List.mem_of_getElem? (i := 12) rfl))) (by decide) (t := .long) (t' := .int) (by decide) (by decide)))
  have F_negatedInverse_a1 := F_negatedInverse_a1.same W3
  have F_montgomeryOfR_a1 := F_montgomeryOfR_a1.other W3 (Or.inr (slot_ne (Or.inr (hw _ (List.mem_of_getElem? (i := 15) rfl))) (Or.inr (hw _ (List.mem_of_getElem? (i := 12) rfl))) (by decide) (t := .long) (t' := .int) (by decide) (by decide)))
  have F_roots_a1 := F_roots_a1.other W3 (Or.inr (slot_ne (Or.inr (hw _ (List.mem_of_getElem? (i := 22) rfl))) (Or.inr (hw _ (List.mem_of_getElem? (i := 12) rfl))) (by decide) (t := (.array .int)) (t' := .int) (by decide) (by decide)))
  have F_inverseRoots_a1 := F_inverseRoots_a1.other W3 (Or.inr (slot_ne (Or.inr (hw _ (List.mem_of_getElem? (i := 24) rfl))) (Or.inr (hw _ (List.mem_of_getElem? (i := 12) rfl))) (by decide) (t := (.array .int)) (t' := .int) (by decide) (by decide)))
  refine Jvm.OwnW.ldcL O3 di3_41 (hw _ (List.mem_of_getElem? (i := 13) rfl)) (q := 44) rfl ?_
  refine Jvm.OwnW.iloadN O3 di3_44 rfl (q := 45) rfl ?_
  refine Jvm.OwnW.i2l O3 di3_45 (r := (3 : Int64)) (by decide) (q := 46) rfl ?_
  refine Jvm.OwnW.lrem O3 di3_46 (by decide) (r := (1 : Int64)) (by decide) (q := 47) rfl ?_
  refine Jvm.OwnW.lstore O3 di3_47 (L' := #[.val (.ref a1), .val (.int (3 : Int32)), .val (.int (2 : Int32)), .val (.int (-1431655765 : Int32)), .val (.long (1 : Int64)), .second]) rfl (q := 49) rfl ?_
  refine Jvm.OwnW.aloadN O3 di3_49 rfl rfl (q := 50) rfl ?_
  refine Jvm.OwnW.lload O3 di3_50 rfl (q := 52) rfl ?_
  refine Jvm.OwnW.lload O3 di3_52 rfl (q := 54) rfl ?_
  refine Jvm.OwnW.lmul O3 di3_54 (r := (1 : Int64)) (by decide) (q := 55) rfl ?_
  refine Jvm.OwnW.iloadN O3 di3_55 rfl (q := 56) rfl ?_
  refine Jvm.OwnW.i2l O3 di3_56 (r := (3 : Int64)) (by decide) (q := 57) rfl ?_
  refine Jvm.OwnW.lrem O3 di3_57 (by decide) (r := (1 : Int64)) (by decide) (q := 58) rfl ?_
  refine Jvm.OwnW.putF O3 di3_58 (host := "") (Or.inl (hw _ (List.mem_of_getElem? (i := 14) rfl))) Via.refl F_montgomeryOfR_a1 E_a1 (Or.inr ⟨hw _ (List.mem_of_getElem? (i := 15) rfl), rfl, rfl⟩) (hw _ (List.mem_of_getElem? (i := 1) rfl)) (ty := .long) (by decide) rfl rfl (Or.inl (List.mem_cons_self ..)) (q := 61) rfl ?_
  intro T4 h4 O4 W4
  have E_a1 := E_a1.wr W4
  have F_modulus_a1 := F_modulus_a1.other W4 (Or.inr (slot_ne (Or.inr (hw _ (List.mem_of_getElem? (i := 10) rfl))) (Or.inr (hw _ (List.mem_of_getElem? (i := 15) rfl))) (by decide) (t := .long) (t' := .long) (by decide) (by decide)))
  have F_negatedInverse_a1 := F_negatedInverse_a1.other W4 (Or.inr (slot_ne (Or.inr (hw _ (List.mem_of_getElem? (i := 12) rfl))) (Or.inr (hw _ (List.mem_of_getElem? (i := 15) rfl))) (by decide) (t := .int) (t' := .long) (by decide) (by decide)))
  have F_montgomeryOfR_a1 := F_montgomeryOfR_a1.same W4
  have F_roots_a1 := F_roots_a1.other W4 (Or.inr (slot_ne (Or.inr (hw _ (List.mem_of_getElem? (i := 22) rfl))) (Or.inr (hw _ (List.mem_of_getElem? (i := 15) rfl))) (by decide) (t := (.array .int)) (t' := .long) (by decide) (by decide)))
  have F_inverseRoots_a1 := F_inverseRoots_a1.other W4 (Or.inr (slot_ne (Or.inr (hw _ (List.mem_of_getElem? (i := 24) rfl))) (Or.inr (hw _ (List.mem_of_getElem? (i := 15) rfl))) (by decide) (t := (.array .int)) (t' := .long) (by decide) (by decide)))
  refine Jvm.OwnW.aloadN O4 di3_61 rfl rfl (q := 62) rfl ?_
  refine Jvm.OwnW.iloadN O4 di3_62 rfl (q := 63) rfl ?_
  refine Jvm.OwnW.iconst O4 di3_63 (r := (2 : Int32)) rfl (q := 64) rfl ?_
  refine Jvm.OwnW.callS0 O4 (y := (⟨"java/lang/Math", "max", "(II)I"⟩ : MethodName)) (argsL := [(.int (2 : Int32)), (.int (2 : Int32))]) (rest := [(.ref a1)]) di3_64 (hw _ (List.mem_of_getElem? (i := 16) rfl)) (hw _ (List.mem_of_getElem? (i := 17) rfl)) (hw _ (List.mem_of_getElem? (i := 18) rfl)) (hw _ (List.mem_of_getElem? (i := 19) rfl)) (by decide) (rm_m l Z a0 hw (2 : Int32) (2 : Int32) h4) rfl pd_1 rfl (hst := rfl) (W := 1) (Nat.le_of_eq rfl) (by decide) (by decide) (c2 := 0) (s2 := 0) rfl rfl (by decide) (by decide) rfl rfl (q := 67) rfl ?_
  intro v5 T5 O5 q5
  obtain rfl := q5
  rw [show fn_m (2 : Int32) (2 : Int32) = (2 : Int32) from by decide]
  show Go C _ _ _ _ (T5.setTop (mkF C.m 67 #[.val (.ref a1), .val (.int (3 : Int32)), .val (.int (2 : Int32)), .val (.int (-1431655765 : Int32)), .val (.long (1 : Int64)), .second] [(.int (2 : Int32)), (.ref a1)]))
  refine Jvm.OwnW.newA' O5 di3_67 (ty := .int) rfl (hw _ (List.mem_of_getElem? (i := 20) rfl)) (N := 2) rfl (cap := 2) (by decide) (by decide) (c2 := 1) (s2 := 2) rfl rfl (by decide) (by decide) (q := 69) rfl ?_
  intro nb6 T6 h6 g6 N6 O6 X6 V_nb6
  have ne_a1_nb6 : a1 ≠ nb6 := Nat.ne_of_lt (Nat.lt_of_lt_of_le E_a1.lt (Nat.le_of_eq g6.symm))
  have E_a1 := E_a1.ext X6
  have F_modulus_a1 := F_modulus_a1.ext X6
  have F_negatedInverse_a1 := F_negatedInverse_a1.ext X6
  have F_montgomeryOfR_a1 := F_montgomeryOfR_a1.ext X6
  have F_roots_a1 := F_roots_a1.ext X6
  have F_inverseRoots_a1 := F_inverseRoots_a1.ext X6
  have V_nb6 : Ar Z h6 nb6 .int 2 (lf [(.int (0 : Int32)), (.int (0 : Int32))]) := V_nb6.congr (lf_rep 2 _)
  refine Jvm.OwnW.putF O6 di3_69 (host := "") (Or.inl (hw _ (List.mem_of_getElem? (i := 21) rfl))) Via.refl F_roots_a1 E_a1 (Or.inr ⟨hw _ (List.mem_of_getElem? (i := 22) rfl), rfl, rfl⟩) (hw _ (List.mem_of_getElem? (i := 1) rfl)) (ty := (.array .int)) (by decide) rfl rfl (Or.inl (List.mem_cons_self ..)) (q := 72) rfl ?_
  intro T7 h7 O7 W7
  have E_a1 := E_a1.wr W7
  have F_modulus_a1 := F_modulus_a1.other W7 (Or.inr (slot_ne (Or.inr (hw _ (List.mem_of_getElem? (i := 10) rfl))) (Or.inr (hw _ (List.mem_of_getElem? (i := 22) rfl))) (by decide) (t := .long) (t' := (.array .int)) (by decide) (by decide)))
  have F_negatedInverse_a1 := F_negatedInverse_a1.other W7 (Or.inr (slot_ne (Or.inr (hw _ (List.mem_of_getElem? (i := 12) rfl))) (Or.inr (hw _ (List.mem_of_getElem? (i := 22) rfl))) (by decide) (t := .int) (t' := (.array .int)) (by decide) (by decide)))
  have F_montgomeryOfR_a1 := F_montgomeryOfR_a1.other W7 (Or.inr (slot_ne (Or.inr (hw _ (List.mem_of_getElem? (i := 15) rfl))) (Or.inr (hw _ (List.mem_of_getElem? (i := 22) rfl))) (by decide) (t := .long) (t' := (.array .int)) (by decide) (by decide)))
  have F_roots_a1 := F_roots_a1.same W7
  have F_inverseRoots_a1 := F_inverseRoots_a1.other W7 (Or.inr (slot_ne (Or.inr (hw _ (List.mem_of_getElem? (i := 24) rfl))) (Or.inr (hw _ (List.mem_of_getElem? (i := 22) rfl))) (by decide) (t := (.array .int)) (t' := (.array .int)) (by decide) (by decide)))
  have V_nb6 := V_nb6.other W7 (Ne.symm ne_a1_nb6)
  refine Jvm.OwnW.aloadN O7 di3_72 rfl rfl (q := 73) rfl ?_
  refine Jvm.OwnW.aloadN O7 di3_73 rfl rfl (q := 74) rfl ?_
  refine Jvm.OwnW.getF O7 di3_74 (host := "") (Or.inl (hw _ (List.mem_of_getElem? (i := 21) rfl))) Via.refl F_roots_a1 (q := 77) rfl ?_
  intro T8 O8
  refine Jvm.OwnW.lenA O8 di3_77 V_nb6 (z := (2 : Int32)) rfl (q := 78) rfl ?_
  refine Jvm.OwnW.newA' O8 di3_78 (ty := .int) rfl (hw _ (List.mem_of_getElem? (i := 20) rfl)) (N := 2) rfl (cap := 2) (by decide) (by decide) (c2 := 2) (s2 := 4) rfl rfl (by decide) (by decide) (q := 80) rfl ?_
  intro nb9 T9 h9 g9 N9 O9 X9 V_nb9
  have ne_a1_nb9 : a1 ≠ nb9 := Nat.ne_of_lt (Nat.lt_of_lt_of_le E_a1.lt (Nat.le_of_eq g9.symm))
  have ne_nb6_nb9 : nb6 ≠ nb9 := Nat.ne_of_lt (Nat.lt_of_lt_of_le V_nb6.lt (Nat.le_of_eq g9.symm))
  have E_a1 := E_a1.ext X9
  have F_modulus_a1 := F_modulus_a1.ext X9
  have F_negatedInverse_a1 := F_negatedInverse_a1.ext X9
  have F_montgomeryOfR_a1 := F_montgomeryOfR_a1.ext X9
  have F_roots_a1 := F_roots_a1.ext X9
  have F_inverseRoots_a1 := F_inverseRoots_a1.ext X9
  have V_nb6 := V_nb6.ext X9
  have V_nb9 : Ar Z h9 nb9 .int 2 (lf [(.int (0 : Int32)), (.int (0 : Int32))]) := V_nb9.congr (lf_rep 2 _)
  refine Jvm.OwnW.putF O9 di3_80 (host := "") (Or.inl (hw _ (List.mem_of_getElem? (i := 23) rfl))) Via.refl F_inverseRoots_a1 E_a1 (Or.inr ⟨hw _ (List.mem_of_getElem? (i := 24) rfl), rfl, rfl⟩) (hw _ (List.mem_of_getElem? (i := 1) rfl)) (ty := (.array .int)) (by decide) rfl rfl (Or.inl (List.mem_cons_self ..)) (q := 83) rfl ?_
  intro T10 h10 O10 W10
  have E_a1 := E_a1.wr W10
  have F_modulus_a1 := F_modulus_a1.other W10 (Or.inr (slot_ne (Or.inr (hw _ (List.mem_of_getElem? (i := 10) rfl))) (Or.inr (hw _ (List.mem_of_getElem? (i := 24) rfl))) (by decide) (t := .long) (t' := (.array .int)) (by decide) (by decide)))
  have F_negatedInverse_a1 := F_negatedInverse_a1.other W10 (Or.inr (slot_ne (Or.inr (hw _ (List.mem_of_getElem? (i := 12) rfl))) (Or.inr (hw _ (List.mem_of_getElem? (i := 24) rfl))) (by decide) (t := .int) (t' := (.array .int)) (by decide) (by decide)))
  have F_montgomeryOfR_a1 := F_montgomeryOfR_a1.other W10 (Or.inr (slot_ne (Or.inr (hw _ (List.mem_of_getElem? (i := 15) rfl))) (Or.inr (hw _ (List.mem_of_getElem? (i := 24) rfl))) (by decide) (t := .long) (t' := (.array .int)) (by decide) (by decide)))
  have F_roots_a1 := F_roots_a1.other W10 (Or.inr (slot_ne (Or.inr (hw _ (List.mem_of_getElem? (i := 22) rfl))) (Or.inr (hw _ (List.mem_of_getElem? (i := 24) rfl))) (by decide) (t := (.array .int)) (t' := (.array .int)) (by decide) (by decide)))
  have F_inverseRoots_a1 := F_inverseRoots_a1.same W10
  have V_nb6 := V_nb6.other W10 (Ne.symm ne_a1_nb6)
  have V_nb9 := V_nb9.other W10 (Ne.symm ne_a1_nb9)
  refine Jvm.OwnW.aloadN O10 di3_83 rfl rfl (q := 84) rfl ?_
  refine Jvm.OwnW.iloadN O10 di3_84 rfl (q := 85) rfl ?_
  refine Jvm.OwnW.callP O10 (y := (⟨"com/example/vary5/vary5/NumberTheoreticTransform", "fillRoots", "(I)V"⟩ : MethodName)) (a := a1) (argsL := [(.int (2 : Int32))]) (rest := []) di3_85 (hw _ (List.mem_of_getElem? (i := 25) rfl)) (hw _ (List.mem_of_getElem? (i := 26) rfl)) (hw _ (List.mem_of_getElem? (i := 27) rfl)) (hw _ (List.mem_of_getElem? (i := 1) rfl)) (hw _ (List.mem_of_getElem? (i := 2) rfl)) (hw _ (List.mem_of_getElem? (i := 28) rfl)) (by decide) (rm_f3 l Z a0 hw a1 nb6 nb9 h10 E_a1 F_modulus_a1 F_negatedInverse_a1 F_montgomeryOfR_a1 F_roots_a1 F_inverseRoots_a1 V_nb6 V_nb9 ne_a1_nb6 ne_a1_nb9 ne_nb6_nb9) E_a1 rfl pd_4 rfl (hst := rfl) (W := 0) (Nat.le_of_eq rfl) (by decide) (by decide) (c2 := 2) (s2 := 4) rfl rfl (by decide) (by decide) (allS (Or.inr N6) (allS (Or.inr N9) all0)) (q := 88) rfl ?_
  intro v11 T11 h11 O11 K11 q11
  obtain rfl := q11
  have E_a1 := E_a1.keep K11
  have F_modulus_a1 := F_modulus_a1.keep K11 (ninS ne_a1_nb6 (ninS ne_a1_nb9 nin0))
  have F_negatedInverse_a1 := F_negatedInverse_a1.keep K11 (ninS ne_a1_nb6 (ninS ne_a1_nb9 nin0))
  have F_montgomeryOfR_a1 := F_montgomeryOfR_a1.keep K11 (ninS ne_a1_nb6 (ninS ne_a1_nb9 nin0))
  have F_roots_a1 := F_roots_a1.keep K11 (ninS ne_a1_nb6 (ninS ne_a1_nb9 nin0))
  have F_inverseRoots_a1 := F_inverseRoots_a1.keep K11 (ninS ne_a1_nb6 (ninS ne_a1_nb9 nin0))
  show Go C _ _ _ _ (T11.setTop (mkF C.m 88 #[.val (.ref a1), .val (.int (3 : Int32)), .val (.int (2 : Int32)), .val (.int (-1431655765 : Int32)), .val (.long (1 : Int64)), .second] []))
  exact Jvm.OwnW.ret0 O11 di3_88 (by decide) (by decide) ⟨rfl, F_modulus_a1, F_negatedInverse_a1⟩
theorem own_main_3 (x y r : Int64) (hr : fn_p (x &&& 4294967295) ((y &&& 9223372036854775807) % 3) 3 (1431655765) = r) :
    ¬ r < 0 ∧ r < 3 ∧ (r <<< ((32 : Int32) &&& 0x3f).toInt64) % 3 = (((x &&& 4294967295) % 3) * ((y &&& 9223372036854775807) % 3)) % 3 := by
  have hP : (3 : Int64).toInt = 3 := by decide
  have z0 : (0 : Int64).toInt = 0 := by decide
  have z1 : (-1 : Int64).toInt = -1 := by decide
  have hN : (1431655765 : Int32).toInt = 1431655765 := by decide
  have ha := c_maskL x 4294967295 32 (by decide) (by decide)
  have hy := c_maskL y 9223372036854775807 63 (by decide) (by decide)
  have hb := rem64 (x := y &&& 9223372036854775807) hP (by omega)
  generalize (x &&& 4294967295) = a at hr ha ⊢
  generalize (y &&& 9223372036854775807) % 3 = b at hr hb ⊢
  have hA0 : 0 ≤ a.toInt := by omega
  have hA1 : a.toInt ≤ 4294967295 := by omega
  have hB0 : 0 ≤ b.toInt := by omega
  have hB1 : b.toInt ≤ 3 - 1 := by omega
  have hAB0 : 0 ≤ a.toInt * b.toInt := Int.mul_nonneg hA0 hB0
  have hAB1 : a.toInt * b.toInt ≤ 4294967295 * (3 - 1) := Int.mul_le_mul hA1 hB1 hB0 (by decide)
  have ht : (a * b).toInt = a.toInt * b.toInt := mul64 (by omega) (by omega)
  unfold fn_p at hr
  generalize hTd : a * b = t at hr ht
  rw [← ht] at hAB0 hAB1
  have h1 := c_l2i t
  have h2 := c_imul t.toInt32 (1431655765)
  rw [hN] at h2
  generalize t.toInt32 * (1431655765 : Int32) = i at hr h2
  have h3 := c_i2l i
  have h4 := c_maskL i.toInt64 4294967295 32 (by decide) (by decide)
  generalize (i.toInt64 &&& 4294967295) = q at hr h4
  have h5 : (q * 3).toInt = q.toInt * 3 := by rw [mul64 (by rw [hP]; omega) (by rw [hP]; omega), hP]
  generalize q * 3 = qm at hr h5
  have h6 := c_ladd t qm
  have h6' := rng64 (t + qm)
  generalize t + qm = s at hr h6 h6'
  have h7 := c_lushr s 32 32 (by decide) (by decide)
  generalize ((s.toUInt64 >>> ((32 : Int32) &&& 0x3f).toInt64.toUInt64).toInt64) = u at hr h7
  have hs : s.toInt % 18446744073709551616 = t.toInt + q.toInt * 3 := by omega
  rw [hs] at h7
  have hdv : (t.toInt + q.toInt * 3) % 4294967296 = 0 := by omega
  have hu : u.toInt * 4294967296 = t.toInt + q.toInt * 3 := by omega
  have hu1 : 0 ≤ u.toInt ∧ u.toInt < 2 * 3 := by omega
  have h8 : (u - 3).toInt = u.toInt - 3 := by rw [sub64 (by rw [hP]; omega) (by rw [hP]; omega), hP]
  generalize u - 3 = r0 at hr h8
  have h9 := c_lshr r0 63 63 (by decide)
  have hrr : r.toInt * 4294967296 = t.toInt + q.toInt * 3 ∨ r.toInt * 4294967296 = t.toInt + q.toInt * 3 - 3 * 4294967296 := by
    by_cases c : r0.toInt < 0
    · have e1 : (r0 >>> ((63 : Int32) &&& 0x3f).toInt64) = -1 := eq64 (by rw [h9]; omega)
      rw [e1, show ((-1 : Int64) &&& 3) = 3 from by decide] at hr
      have e2 : (r0 + 3).toInt = r0.toInt + 3 := by rw [add64 (by rw [hP]; omega) (by rw [hP]; omega), hP]
      rw [hr] at e2; left; omega
    · have e1 : (r0 >>> ((63 : Int32) &&& 0x3f).toInt64) = 0 := eq64 (by rw [h9]; omega)
      rw [e1, show ((0 : Int64) &&& 3) = 0 from by decide, Int64.add_zero] at hr
      subst hr; right; omega
  have hr0 : 0 ≤ r.toInt ∧ r.toInt < 3 := by
    by_cases c : r0.toInt < 0
    · have e1 : (r0 >>> ((63 : Int32) &&& 0x3f).toInt64) = -1 := eq64 (by rw [h9]; omega)
      rw [e1, show ((-1 : Int64) &&& 3) = 3 from by decide] at hr
      have e2 : (r0 + 3).toInt = r0.toInt + 3 := by rw [add64 (by rw [hP]; omega) (by rw [hP]; omega), hP]
      rw [hr] at e2; omega
    · have e1 : (r0 >>> ((63 : Int32) &&& 0x3f).toInt64) = 0 := eq64 (by rw [h9]; omega)
      rw [e1, show ((0 : Int64) &&& 3) = 0 from by decide, Int64.add_zero] at hr
      subst hr; omega
  refine ⟨nlt64 (by omega), lt64 (by omega), eq64 ?_⟩
  have k1 := c_lshl r 32 32 (by decide)
  have k2 := rng64 (r <<< ((32 : Int32) &&& 0x3f).toInt64)
  generalize (r <<< ((32 : Int32) &&& 0x3f).toInt64) = rs at k1 k2 ⊢
  have k3 : rs.toInt = r.toInt * 4294967296 := by omega
  rw [rem64 hP (by omega), k3]
  have m1 : (a % 3).toInt = a.toInt % 3 := rem64 hP hA0
  have m2 : 0 ≤ a.toInt % 3 := by omega
  have m3 : a.toInt % 3 ≤ 3 - 1 := by omega
  have m4 : 0 ≤ (a.toInt % 3) * b.toInt := Int.mul_nonneg m2 hB0
  have m5 : (a.toInt % 3) * b.toInt ≤ (3 - 1) * (3 - 1) := Int.mul_le_mul m3 hB1 hB0 (by decide)
  have m6 : ((a % 3) * b).toInt = (a.toInt % 3) * b.toInt := by rw [mul64 (by rw [m1]; omega) (by rw [m1]; omega), m1]
  rw [rem64 hP (by omega), m6]
  have m7 : ((a.toInt % 3) * b.toInt) % 3 = (a.toInt * b.toInt) % 3 := by rw [Int.mul_emod, Int.emod_emod, ← Int.mul_emod]
  rw [m7, ← ht]
  rcases hrr with e | e <;> omega
theorem dn5_0 : decode prog_9_method_3_code 0 = .ok (.ldc2_w 43, 3) := by decide +kernel
theorem dn5_3 : decode prog_9_method_3_code 3 = .ok (.lstore_n 1, 1) := by decide +kernel
theorem dn5_4 : decode prog_9_method_3_code 4 = .ok (.aload_n 0, 1) := by decide +kernel
theorem dn5_5 : decode prog_9_method_3_code 5 = .ok (.lload_n 1, 1) := by decide +kernel
theorem dn5_6 : decode prog_9_method_3_code 6 = .ok (.aload_n 0, 1) := by decide +kernel
theorem dn5_7 : decode prog_9_method_3_code 7 = .ok (.getfield 7, 3) := by decide +kernel
theorem dn5_10 : decode prog_9_method_3_code 10 = .ok (.lconst 1, 1) := by decide +kernel
theorem dn5_11 : decode prog_9_method_3_code 11 = .ok (.lsub, 1) := by decide +kernel
theorem dn5_12 : decode prog_9_method_3_code 12 = .ok (.ldc2_w 43, 3) := by decide +kernel
theorem dn5_15 : decode prog_9_method_3_code 15 = .ok (.ldiv, 1) := by decide +kernel
theorem dn5_16 : decode prog_9_method_3_code 16 = .ok (.invokevirtual 45, 3) := by decide +kernel
theorem dn5_19 : decode prog_9_method_3_code 19 = .ok (.aload_n 0, 1) := by decide +kernel
theorem dn5_20 : decode prog_9_method_3_code 20 = .ok (.getfield 7, 3) := by decide +kernel
theorem dn5_23 : decode prog_9_method_3_code 23 = .ok (.lconst 1, 1) := by decide +kernel
theorem dn5_24 : decode prog_9_method_3_code 24 = .ok (.lsub, 1) := by decide +kernel
theorem dn5_25 : decode prog_9_method_3_code 25 = .ok (.lcmp, 1) := by decide +kernel
theorem dn5_26 : decode prog_9_method_3_code 26 = .ok (.ifCond .eq 10, 3) := by decide +kernel
theorem dn5_36 : decode prog_9_method_3_code 36 = .ok (.lload_n 1, 1) := by decide +kernel
theorem dn5_37 : decode prog_9_method_3_code 37 = .ok (.lreturn, 1) := by decide +kernel
theorem ef_n5 (a1 : Addr) (m : MethodId) : entryFrame m #[(.ref a1)] 3 = mkF m 0 #[.val (.ref a1), .unset, .unset] [] := by first | (simp [entryFrame, mkF, argsToLocals, Value.category, maxLocals]; done) | rfl
theorem pn_n5 : plainFor (⟨"com/example/vary5/vary5/NumberTheoreticTransform", "nonResidue", "()J"⟩ : MethodName) = true := by first | exact plainFor_of_name (by first | (simp [plainName, overriddenIn]; done) | decide +kernel) | decide +kernel
set_option maxRecDepth 65536 in
set_option maxHeartbeats 40000000 in
theorem rm_n5 (l : Launch) (Z : State) (a0 : Array Value) (hw : ∀ d ∈ tables_1, d.before a0 Z = true) (a1 : Addr) (h0 : Heap) (E_a1 : Exa Z h0 a1 "com/example/vary5/vary5/NumberTheoreticTransform") (F_modulus_a1 : Fld Z h0 a1 "com/example/vary5/vary5/NumberTheoreticTransform" "modulus" "J" (.long (5 : Int64))) :
    Met l Z (⟨"com/example/vary5/vary5/NumberTheoreticTransform", "nonResidue", "()J"⟩ : MethodName) prog_9_method_3_code 3 (some .long) [] ({ frames := 1, cells := 0, slots := 0, locals := 22 } : Room) #[(.ref a1)] [] h0 (fun v h => v = some (.long (2 : Int64))) := by
  refine Met.mk pn_n5 (ef_n5 a1) ?_
  intro C T hs0 O
  show Go C [] (fun v h => v = some (.long (2 : Int64))) 0 0 (T.setTop (mkF C.m 0 #[.val (.ref a1), .unset, .unset] []))
  refine Jvm.OwnW.ldcL O dn5_0 (hw _ (List.mem_of_getElem? (i := 33) rfl)) (q := 3) rfl ?_
  refine Jvm.OwnW.lstoreN O dn5_3 (L' := #[.val (.ref a1), .val (.long (2 : Int64)), .second]) rfl (q := 4) rfl ?_
  refine Jvm.OwnW.aloadN O dn5_4 rfl rfl (q := 5) rfl ?_
  refine Jvm.OwnW.lloadN O dn5_5 rfl (q := 6) rfl ?_
  refine Jvm.OwnW.aloadN O dn5_6 rfl rfl (q := 7) rfl ?_
  refine Jvm.OwnW.getF O dn5_7 (host := "") (Or.inl (hw _ (List.mem_of_getElem? (i := 9) rfl))) Via.refl F_modulus_a1 (q := 10) rfl ?_
  intro T1 O1
  refine Jvm.OwnW.lconst O1 dn5_10 (r := (1 : Int64)) rfl (q := 11) rfl ?_
  refine Jvm.OwnW.lsub O1 dn5_11 (r := (4 : Int64)) (by decide) (q := 12) rfl ?_
  refine Jvm.OwnW.ldcL O1 dn5_12 (hw _ (List.mem_of_getElem? (i := 33) rfl)) (q := 15) rfl ?_
  refine Jvm.OwnW.ldiv O1 dn5_15 (by decide) (r := (2 : Int64)) (by decide) (q := 16) rfl ?_
  refine Jvm.OwnW.callP0 O1 (y := (⟨"com/example/vary5/vary5/NumberTheoreticTransform", "power", "(JJ)J"⟩ : MethodName)) (a := a1) (argsL := [(.long (2 : Int64)), (.long (2 : Int64))]) (rest := []) dn5_16 (hw _ (List.mem_of_getElem? (i := 34) rfl)) (hw _ (List.mem_of_getElem? (i := 35) rfl)) (hw _ (List.mem_of_getElem? (i := 36) rfl)) (hw _ (List.mem_of_getElem? (i := 1) rfl)) (hw _ (List.mem_of_getElem? (i := 2) rfl)) (hw _ (List.mem_of_getElem? (i := 37) rfl)) (by decide) (rm_w l Z a0 hw a1 (2 : Int64) (2 : Int64) (5 : Int64) h0 E_a1 F_modulus_a1 (by decide) (by decide)) E_a1 rfl pd_0 rfl (hst := rfl) (W := 0) (Nat.le_of_eq rfl) (by decide) (by decide) (c2 := 0) (s2 := 0) rfl rfl (by decide) (by decide) rfl rfl (q := 19) rfl ?_
  intro v2 T2 O2 q2
  obtain rfl := q2
  show Go C _ _ _ _ (T2.setTop (mkF C.m 19 #[.val (.ref a1), .val (.long (2 : Int64)), .second] [(.long (own_pw (5 : Int64) 31 1 ((2 : Int64) % (5 : Int64)) (2 : Int64)))]))
  refine Jvm.OwnW.aloadN O2 dn5_19 rfl rfl (q := 20) rfl ?_
  refine Jvm.OwnW.getF O2 dn5_20 (host := "") (Or.inl (hw _ (List.mem_of_getElem? (i := 9) rfl))) Via.refl F_modulus_a1 (q := 23) rfl ?_
  intro T3 O3
  refine Jvm.OwnW.lconst O3 dn5_23 (r := (1 : Int64)) rfl (q := 24) rfl ?_
  refine Jvm.OwnW.lsub O3 dn5_24 (r := (4 : Int64)) (by decide) (q := 25) rfl ?_
  refine Jvm.OwnW.lcmp O3 dn5_25 rfl (q := 26) rfl ?_
  refine Jvm.OwnW.ifYes O3 dn5_26 (teqL (show (own_pw (5 : Int64) 31 1 ((2 : Int64) % (5 : Int64)) (2 : Int64)) = (4 : Int64) from by decide +kernel)).1 (by decide) (q := 36) rfl ?_
  refine Jvm.OwnW.lloadN O3 dn5_36 rfl (q := 37) rfl ?_
  exact Jvm.OwnW.retL O3 dn5_37 rfl (by decide) (by decide) rfl
theorem df5_0 : decode prog_9_method_2_code 0 = .ok (.iload_n 1, 1) := by decide +kernel
theorem df5_1 : decode prog_9_method_2_code 1 = .ok (.iconst 2, 1) := by decide +kernel
theorem df5_2 : decode prog_9_method_2_code 2 = .ok (.idiv, 1) := by decide +kernel
theorem df5_3 : decode prog_9_method_2_code 3 = .ok (.iconst 1, 1) := by decide +kernel
theorem df5_4 : decode prog_9_method_2_code 4 = .ok (.invokestatic 22, 3) := by decide +kernel
theorem df5_7 : decode prog_9_method_2_code 7 = .ok (.istore_n 2, 1) := by decide +kernel
theorem df5_8 : decode prog_9_method_2_code 8 = .ok (.aload_n 0, 1) := by decide +kernel
theorem df5_9 : decode prog_9_method_2_code 9 = .ok (.aload_n 0, 1) := by decide +kernel
theorem df5_10 : decode prog_9_method_2_code 10 = .ok (.aload_n 0, 1) := by decide +kernel
theorem df5_11 : decode prog_9_method_2_code 11 = .ok (.invokevirtual 39, 3) := by decide +kernel
theorem df5_14 : decode prog_9_method_2_code 14 = .ok (.aload_n 0, 1) := by decide +kernel
theorem df5_15 : decode prog_9_method_2_code 15 = .ok (.getfield 7, 3) := by decide +kernel
theorem df5_18 : decode prog_9_method_2_code 18 = .ok (.lconst 1, 1) := by decide +kernel
theorem df5_19 : decode prog_9_method_2_code 19 = .ok (.lsub, 1) := by decide +kernel
theorem df5_20 : decode prog_9_method_2_code 20 = .ok (.ldc2_w 43, 3) := by decide +kernel
theorem df5_23 : decode prog_9_method_2_code 23 = .ok (.iload_n 2, 1) := by decide +kernel
theorem df5_24 : decode prog_9_method_2_code 24 = .ok (.i2l, 1) := by decide +kernel
theorem df5_25 : decode prog_9_method_2_code 25 = .ok (.lmul, 1) := by decide +kernel
theorem df5_26 : decode prog_9_method_2_code 26 = .ok (.ldiv, 1) := by decide +kernel
theorem df5_27 : decode prog_9_method_2_code 27 = .ok (.invokevirtual 45, 3) := by decide +kernel
theorem df5_30 : decode prog_9_method_2_code 30 = .ok (.invokevirtual 49, 3) := by decide +kernel
theorem df5_33 : decode prog_9_method_2_code 33 = .ok (.lstore_n 3, 1) := by decide +kernel
theorem df5_34 : decode prog_9_method_2_code 34 = .ok (.aload_n 0, 1) := by decide +kernel
theorem df5_35 : decode prog_9_method_2_code 35 = .ok (.lconst 1, 1) := by decide +kernel
theorem df5_36 : decode prog_9_method_2_code 36 = .ok (.invokevirtual 49, 3) := by decide +kernel
theorem df5_39 : decode prog_9_method_2_code 39 = .ok (.lstore 5, 2) := by decide +kernel
theorem df5_41 : decode prog_9_method_2_code 41 = .ok (.iconst 0, 1) := by decide +kernel
theorem df5_42 : decode prog_9_method_2_code 42 = .ok (.istore 7, 2) := by decide +kernel
theorem df5_44 : decode prog_9_method_2_code 44 = .ok (.iload 7, 2) := by decide +kernel
theorem df5_46 : decode prog_9_method_2_code 46 = .ok (.iload_n 2, 1) := by decide +kernel
theorem df5_47 : decode prog_9_method_2_code 47 = .ok (.if_icmp .ge 30, 3) := by decide +kernel
theorem df5_50 : decode prog_9_method_2_code 50 = .ok (.aload_n 0, 1) := by decide +kernel
theorem df5_51 : decode prog_9_method_2_code 51 = .ok (.getfield 28, 3) := by decide +kernel
theorem df5_54 : decode prog_9_method_2_code 54 = .ok (.iload_n 2, 1) := by decide +kernel
theorem df5_55 : decode prog_9_method_2_code 55 = .ok (.iload 7, 2) := by decide +kernel
theorem df5_57 : decode prog_9_method_2_code 57 = .ok (.iadd, 1) := by decide +kernel
theorem df5_58 : decode prog_9_method_2_code 58 = .ok (.lload 5, 2) := by decide +kernel
theorem df5_60 : decode prog_9_method_2_code 60 = .ok (.l2i, 1) := by decide +kernel
theorem df5_61 : decode prog_9_method_2_code 61 = .ok (.iastore, 1) := by decide +kernel
theorem df5_62 : decode prog_9_method_2_code 62 = .ok (.aload_n 0, 1) := by decide +kernel
theorem df5_63 : decode prog_9_method_2_code 63 = .ok (.lload 5, 2) := by decide +kernel
theorem df5_65 : decode prog_9_method_2_code 65 = .ok (.lload_n 3, 1) := by decide +kernel
theorem df5_66 : decode prog_9_method_2_code 66 = .ok (.invokevirtual 53, 3) := by decide +kernel
theorem df5_69 : decode prog_9_method_2_code 69 = .ok (.lstore 5, 2) := by decide +kernel
theorem df5_71 : decode prog_9_method_2_code 71 = .ok (.iinc 7 1, 3) := by decide +kernel
theorem df5_74 : decode prog_9_method_2_code 74 = .ok (.goto (-30), 3) := by decide +kernel
theorem df5_77 : decode prog_9_method_2_code 77 = .ok (.iload_n 2, 1) := by decide +kernel
theorem df5_78 : decode prog_9_method_2_code 78 = .ok (.iconst 2, 1) := by decide +kernel
theorem df5_79 : decode prog_9_method_2_code 79 = .ok (.idiv, 1) := by decide +kernel
theorem df5_80 : decode prog_9_method_2_code 80 = .ok (.istore 7, 2) := by decide +kernel
theorem df5_82 : decode prog_9_method_2_code 82 = .ok (.iload 7, 2) := by decide +kernel
theorem df5_84 : decode prog_9_method_2_code 84 = .ok (.iconst 1, 1) := by decide +kernel
theorem df5_85 : decode prog_9_method_2_code 85 = .ok (.if_icmp .lt 52, 3) := by decide +kernel
theorem df5_137 : decode prog_9_method_2_code 137 = .ok (.iconst 1, 1) := by decide +kernel
theorem df5_138 : decode prog_9_method_2_code 138 = .ok (.istore 7, 2) := by decide +kernel
theorem df5_140 : decode prog_9_method_2_code 140 = .ok (.iload 7, 2) := by decide +kernel
theorem df5_142 : decode prog_9_method_2_code 142 = .ok (.iload_n 2, 1) := by decide +kernel
theorem df5_143 : decode prog_9_method_2_code 143 = .ok (.if_icmp .gt 71, 3) := by decide +kernel
theorem df5_146 : decode prog_9_method_2_code 146 = .ok (.aload_n 0, 1) := by decide +kernel
theorem df5_147 : decode prog_9_method_2_code 147 = .ok (.getfield 32, 3) := by decide +kernel
theorem df5_150 : decode prog_9_method_2_code 150 = .ok (.iload 7, 2) := by decide +kernel
theorem df5_152 : decode prog_9_method_2_code 152 = .ok (.aload_n 0, 1) := by decide +kernel
theorem df5_153 : decode prog_9_method_2_code 153 = .ok (.getfield 28, 3) := by decide +kernel
theorem df5_156 : decode prog_9_method_2_code 156 = .ok (.iload 7, 2) := by decide +kernel
theorem df5_158 : decode prog_9_method_2_code 158 = .ok (.iaload, 1) := by decide +kernel
theorem df5_159 : decode prog_9_method_2_code 159 = .ok (.iastore, 1) := by decide +kernel
theorem df5_160 : decode prog_9_method_2_code 160 = .ok (.iconst 1, 1) := by decide +kernel
theorem df5_161 : decode prog_9_method_2_code 161 = .ok (.istore 8, 2) := by decide +kernel
theorem df5_163 : decode prog_9_method_2_code 163 = .ok (.iload 8, 2) := by decide +kernel
theorem df5_165 : decode prog_9_method_2_code 165 = .ok (.iload 7, 2) := by decide +kernel
theorem df5_167 : decode prog_9_method_2_code 167 = .ok (.if_icmp .ge 38, 3) := by decide +kernel
theorem df5_205 : decode prog_9_method_2_code 205 = .ok (.iload 7, 2) := by decide +kernel
theorem df5_207 : decode prog_9_method_2_code 207 = .ok (.iconst 2, 1) := by decide +kernel
theorem df5_208 : decode prog_9_method_2_code 208 = .ok (.imul, 1) := by decide +kernel
theorem df5_209 : decode prog_9_method_2_code 209 = .ok (.istore 7, 2) := by decide +kernel
theorem df5_211 : decode prog_9_method_2_code 211 = .ok (.goto (-71), 3) := by decide +kernel
theorem df5_214 : decode prog_9_method_2_code 214 = .ok (.return_, 1) := by decide +kernel
theorem ef_f5 (a1 : Addr) (ar ai : Addr) (m : MethodId) : entryFrame m #[(.ref a1), (.int (2 : Int32))] 9 = mkF m 0 #[.val (.ref a1), .val (.int (2 : Int32)), .unset, .unset, .unset, .unset, .unset, .unset, .unset] [] := by first | (simp [entryFrame, mkF, argsToLocals, Value.category, maxLocals]; done) | rfl
theorem pn_f5 : plainFor (⟨"com/example/vary5/vary5/NumberTheoreticTransform", "fillRoots", "(I)V"⟩ : MethodName) = true := by first | exact plainFor_of_name (by first | (simp [plainName, overriddenIn]; done) | decide +kernel) | decide +kernel
set_option maxRecDepth 65536 in
set_option maxHeartbeats 40000000 in
theorem rm_f5 (l : Launch) (Z : State) (a0 : Array Value) (hw : ∀ d ∈ tables_1, d.before a0 Z = true) (a1 : Addr) (ar ai : Addr) (h0 : Heap) (E_a1 : Exa Z h0 a1 "com/example/vary5/vary5/NumberTheoreticTransform") (F_modulus_a1 : Fld Z h0 a1 "com/example/vary5/vary5/NumberTheoreticTransform" "modulus" "J" (.long (5 : Int64))) (F_negatedInverse_a1 : Fld Z h0 a1 "com/example/vary5/vary5/NumberTheoreticTransform" "negatedInverse" "I" (.int (858993459 : Int32))) (F_montgomeryOfR_a1 : Fld Z h0 a1 "com/example/vary5/vary5/NumberTheoreticTransform" "montgomeryOfR" "J" (.long (1 : Int64))) (F_roots_a1 : Fld Z h0 a1 "com/example/vary5/vary5/NumberTheoreticTransform" "roots" "[I" (.ref ar)) (F_inverseRoots_a1 : Fld Z h0 a1 "com/example/vary5/vary5/NumberTheoreticTransform" "inverseRoots" "[I" (.ref ai)) (V_ar : Ar Z h0 ar .int 2 (lf [.int 0, .int 0])) (V_ai : Ar Z h0 ai .int 2 (lf [.int 0, .int 0])) (n1r : a1 ≠ ar) (n1i : a1 ≠ ai) (nri : ar ≠ ai) :
    Met l Z (⟨"com/example/vary5/vary5/NumberTheoreticTransform", "fillRoots", "(I)V"⟩ : MethodName) prog_9_method_2_code 9 none [] ({ frames := 2, cells := 0, slots := 0, locals := 38 } : Room) #[(.ref a1), (.int (2 : Int32))] [ar, ai] h0 (fun v h => v = none) := by
  refine Met.mk pn_f5 (ef_f5 a1 ar ai) ?_
  intro C T hs0 O
  show Go C [ar, ai] (fun v h => v = none) 0 0 (T.setTop (mkF C.m 0 #[.val (.ref a1), .val (.int (2 : Int32)), .unset, .unset, .unset, .unset, .unset, .unset, .unset] []))
  refine Jvm.OwnW.iloadN O df5_0 rfl (q := 1) rfl ?_
  refine Jvm.OwnW.iconst O df5_1 (r := (2 : Int32)) rfl (q := 2) rfl ?_
  refine Jvm.OwnW.idiv O df5_2 (by decide) (r := (1 : Int32)) (by decide) (q := 3) rfl ?_
  refine Jvm.OwnW.iconst O df5_3 (r := (1 : Int32)) rfl (q := 4) rfl ?_
  refine Jvm.OwnW.callS0 O (y := (⟨"java/lang/Math", "max", "(II)I"⟩ : MethodName)) (argsL := [(.int (1 : Int32)), (.int (1 : Int32))]) (rest := []) df5_4 (hw _ (List.mem_of_getElem? (i := 16) rfl)) (hw _ (List.mem_of_getElem? (i := 17) rfl)) (hw _ (List.mem_of_getElem? (i := 18) rfl)) (hw _ (List.mem_of_getElem? (i := 19) rfl)) (by decide) (rm_m l Z a0 hw (1 : Int32) (1 : Int32) h0) rfl pd_1 rfl (hst := rfl) (W := 0) (Nat.le_of_eq rfl) (by decide) (by decide) (c2 := 0) (s2 := 0) rfl rfl (by decide) (by decide) rfl rfl (q := 7) rfl ?_
  intro v1 T1 O1 q1
  obtain rfl := q1
  rw [show fn_m (1 : Int32) (1 : Int32) = (1 : Int32) from by decide]
  show Go C _ _ _ _ (T1.setTop (mkF C.m 7 #[.val (.ref a1), .val (.int (2 : Int32)), .unset, .unset, .unset, .unset, .unset, .unset, .unset] [(.int (1 : Int32))]))
  refine Jvm.OwnW.istoreN O1 df5_7 (L' := #[.val (.ref a1), .val (.int (2 : Int32)), .val (.int (1 : Int32)), .unset, .unset, .unset, .unset, .unset, .unset]) rfl (q := 8) rfl ?_
  refine Jvm.OwnW.aloadN O1 df5_8 rfl rfl (q := 9) rfl ?_
  refine Jvm.OwnW.aloadN O1 df5_9 rfl rfl (q := 10) rfl ?_
  refine Jvm.OwnW.aloadN O1 df5_10 rfl rfl (q := 11) rfl ?_
  refine Jvm.OwnW.callP0 O1 (y := (⟨"com/example/vary5/vary5/NumberTheoreticTransform", "nonResidue", "()J"⟩ : MethodName)) (a := a1) (argsL := []) (rest := [(.ref a1), (.ref a1)]) df5_11 (hw _ (List.mem_of_getElem? (i := 29) rfl)) (hw _ (List.mem_of_getElem? (i := 30) rfl)) (hw _ (List.mem_of_getElem? (i := 31) rfl)) (hw _ (List.mem_of_getElem? (i := 1) rfl)) (hw _ (List.mem_of_getElem? (i := 2) rfl)) (hw _ (List.mem_of_getElem? (i := 32) rfl)) (by decide) (rm_n5 l Z a0 hw a1 h0 E_a1 F_modulus_a1) E_a1 rfl pd_2 rfl (hst := rfl) (W := 2) (Nat.le_of_eq rfl) (by decide) (by decide) (c2 := 0) (s2 := 0) rfl rfl (by decide) (by decide) rfl rfl (q := 14) rfl ?_
  intro v2 T2 O2 q2
  obtain rfl := q2
  show Go C _ _ _ _ (T2.setTop (mkF C.m 14 #[.val (.ref a1), .val (.int (2 : Int32)), .val (.int (1 : Int32)), .unset, .unset, .unset, .unset, .unset, .unset] [(.long (2 : Int64)), (.ref a1), (.ref a1)]))
  refine Jvm.OwnW.aloadN O2 df5_14 rfl rfl (q := 15) rfl ?_
  refine Jvm.OwnW.getF O2 df5_15 (host := "") (Or.inl (hw _ (List.mem_of_getElem? (i := 9) rfl))) Via.refl F_modulus_a1 (q := 18) rfl ?_
  intro T3 O3
  refine Jvm.OwnW.lconst O3 df5_18 (r := (1 : Int64)) rfl (q := 19) rfl ?_
  refine Jvm.OwnW.lsub O3 df5_19 (r := (4 : Int64)) (by decide) (q := 20) rfl ?_
  refine Jvm.OwnW.ldcL O3 df5_20 (hw _ (List.mem_of_getElem? (i := 33) rfl)) (q := 23) rfl ?_
  refine Jvm.OwnW.iloadN O3 df5_23 rfl (q := 24) rfl ?_
  refine Jvm.OwnW.i2l O3 df5_24 (r := (1 : Int64)) (by decide) (q := 25) rfl ?_
  refine Jvm.OwnW.lmul O3 df5_25 (r := (2 : Int64)) (by decide) (q := 26) rfl ?_
  refine Jvm.OwnW.ldiv O3 df5_26 (by decide) (r := (2 : Int64)) (by decide) (q := 27) rfl ?_
  refine Jvm.OwnW.callP0 O3 (y := (⟨"com/example/vary5/vary5/NumberTheoreticTransform", "power", "(JJ)J"⟩ : MethodName)) (a := a1) (argsL := [(.long (2 : Int64)), (.long (2 : Int64))]) (rest := [(.ref a1)]) df5_27 (hw _ (List.mem_of_getElem? (i := 34) rfl)) (hw _ (List.mem_of_getElem? (i := 35) rfl)) (hw _ (List.mem_of_getElem? (i := 36) rfl)) (hw _ (List.mem_of_getElem? (i := 1) rfl)) (hw _ (List.mem_of_getElem? (i := 2) rfl)) (hw _ (List.mem_of_getElem? (i := 37) rfl)) (by decide) (rm_w l Z a0 hw a1 (2 : Int64) (2 : Int64) (5 : Int64) h0 E_a1 F_modulus_a1 (by decide) (by decide)) E_a1 rfl pd_0 rfl (hst := rfl) (W := 1) (Nat.le_of_eq rfl) (by decide) (by decide) (c2 := 0) (s2 := 0) rfl rfl (by decide) (by decide) rfl rfl (q := 30) rfl ?_
  intro v4 T4 O4 q4
  obtain rfl := q4
  show Go C _ _ _ _ (T4.setTop (mkF C.m 30 #[.val (.ref a1), .val (.int (2 : Int32)), .val (.int (1 : Int32)), .unset, .unset, .unset, .unset, .unset, .unset] [(.long (own_pw (5 : Int64) 31 1 ((2 : Int64) % (5 : Int64)) (2 : Int64))), (.ref a1)]))
  refine Jvm.OwnW.callV0 O4 (y := (⟨"com/example/vary5/vary5/NumberTheoreticTransform", "montgomery", "(J)J"⟩ : MethodName)) (z := (⟨"com/example/vary5/vary5/NumberTheoreticTransform", "montgomery", "(J)J"⟩ : MethodName)) (a := a1) (argsL := [(.long (own_pw (5 : Int64) 31 1 ((2 : Int64) % (5 : Int64)) (2 : Int64)))]) (rest := []) df5_30 (hw _ (List.mem_of_getElem? (i := 38) rfl)) (hw _ (List.mem_of_getElem? (i := 39) rfl)) (hw _ (List.mem_of_getElem? (i := 41) rfl)) rfl (hw _ (List.mem_of_getElem? (i := 40) rfl)) (hw _ (List.mem_of_getElem? (i := 2) rfl)) (hw _ (List.mem_of_getElem? (i := 42) rfl)) (by decide) (rm_g l Z a0 hw a1 (own_pw (5 : Int64) 31 1 ((2 : Int64) % (5 : Int64)) (2 : Int64)) (5 : Int64) (858993459 : Int32) (1 : Int64) h0 E_a1 F_modulus_a1 F_negatedInverse_a1 F_montgomeryOfR_a1) E_a1 rfl pd_3 rfl (hst := rfl) (W := 0) (Nat.le_of_eq rfl) (by decide) (by decide) (c2 := 0) (s2 := 0) rfl rfl (by decide) (by decide) rfl rfl (q := 33) rfl ?_
  intro v5 T5 O5 q5
  obtain ⟨zg6, rfl⟩ := q5
  show Go C _ _ _ _ (T5.setTop (mkF C.m 33 #[.val (.ref a1), .val (.int (2 : Int32)), .val (.int (1 : Int32)), .unset, .unset, .unset, .unset, .unset, .unset] [(.long zg6)]))
  refine Jvm.OwnW.lstoreN O5 df5_33 (L' := #[.val (.ref a1), .val (.int (2 : Int32)), .val (.int (1 : Int32)), .val (.long zg6), .second, .unset, .unset, .unset, .unset]) rfl (q := 34) rfl ?_
  refine Jvm.OwnW.aloadN O5 df5_34 rfl rfl (q := 35) rfl ?_
  refine Jvm.OwnW.lconst O5 df5_35 (r := (1 : Int64)) rfl (q := 36) rfl ?_
  refine Jvm.OwnW.callV0 O5 (y := (⟨"com/example/vary5/vary5/NumberTheoreticTransform", "montgomery", "(J)J"⟩ : MethodName)) (z := (⟨"com/example/vary5/vary5/NumberTheoreticTransform", "montgomery", "(J)J"⟩ : MethodName)) (a := a1) (argsL := [(.long (1 : Int64))]) (rest := []) df5_36 (hw _ (List.mem_of_getElem? (i := 38) rfl)) (hw _ (List.mem_of_getElem? (i := 39) rfl)) (hw _ (List.mem_of_getElem? (i := 41) rfl)) rfl (hw _ (List.mem_of_getElem? (i := 40) rfl)) (hw _ (List.mem_of_getElem? (i := 2) rfl)) (hw _ (List.mem_of_getElem? (i := 42) rfl)) (by decide) (rm_g l Z a0 hw a1 (1 : Int64) (5 : Int64) (858993459 : Int32) (1 : Int64) h0 E_a1 F_modulus_a1 F_negatedInverse_a1 F_montgomeryOfR_a1) E_a1 rfl pd_3 rfl (hst := rfl) (W := 0) (Nat.le_of_eq rfl) (by decide) (by decide) (c2 := 0) (s2 := 0) rfl rfl (by decide) (by decide) rfl rfl (q := 39) rfl ?_
  intro v7 T7 O7 q7
  obtain ⟨zg8, rfl⟩ := q7
  show Go C _ _ _ _ (T7.setTop (mkF C.m 39 #[.val (.ref a1), .val (.int (2 : Int32)), .val (.int (1 : Int32)), .val (.long zg6), .second, .unset, .unset, .unset, .unset] [(.long zg8)]))
  refine Jvm.OwnW.lstore O7 df5_39 (L' := #[.val (.ref a1), .val (.int (2 : Int32)), .val (.int (1 : Int32)), .val (.long zg6), .second, .val (.long zg8), .second, .unset, .unset]) rfl (q := 41) rfl ?_
  refine Jvm.OwnW.iconst O7 df5_41 (r := (0 : Int32)) rfl (q := 42) rfl ?_
  refine Jvm.OwnW.istore O7 df5_42 (L' := #[.val (.ref a1), .val (.int (2 : Int32)), .val (.int (1 : Int32)), .val (.long zg6), .second, .val (.long zg8), .second, .val (.int (0 : Int32)), .unset]) rfl (q := 44) rfl ?_
  refine Jvm.OwnW.iload O7 df5_44 rfl (q := 46) rfl ?_
  refine Jvm.OwnW.iloadN O7 df5_46 rfl (q := 47) rfl ?_
  refine Jvm.OwnW.icmpNo O7 df5_47 (tlt (show (0 : Int32) < (1 : Int32) from (by decide))).2.1 (q := 50) rfl ?_
  refine Jvm.OwnW.aloadN O7 df5_50 rfl rfl (q := 51) rfl ?_
  refine Jvm.OwnW.getF O7 df5_51 (host := "") (Or.inl (hw _ (List.mem_of_getElem? (i := 21) rfl))) Via.refl F_roots_a1 (q := 54) rfl ?_
  intro T9 O9
  refine Jvm.OwnW.iloadN O9 df5_54 rfl (q := 55) rfl ?_
  refine Jvm.OwnW.iload O9 df5_55 rfl (q := 57) rfl ?_
  refine Jvm.OwnW.iadd O9 df5_57 (r := (1 : Int32)) (by decide) (q := 58) rfl ?_
  refine Jvm.OwnW.lload O9 df5_58 rfl (q := 60) rfl ?_
  refine Jvm.OwnW.l2i O9 df5_60 rfl (q := 61) rfl ?_
  refine Jvm.OwnW.iasA O9 df5_61 V_ar (i := 1) rfl (by decide) (Or.inl (List.mem_cons_self ..)) (q := 62) rfl ?_
  intro T10 h10 O10 W10
  have V_ar : Ar Z h10 ar .int 2 (lf [(.int (0 : Int32)), (.int zg8.toInt32)]) := V_ar.setL W10 (by decide) (Nat.le_of_ble_eq_true rfl)
  have E_a1 := E_a1.wr W10
  have F_modulus_a1 := F_modulus_a1.other W10 (Or.inl n1r)
  have F_negatedInverse_a1 := F_negatedInverse_a1.other W10 (Or.inl n1r)
  have F_montgomeryOfR_a1 := F_montgomeryOfR_a1.other W10 (Or.inl n1r)
  have F_roots_a1 := F_roots_a1.other W10 (Or.inl n1r)
  have F_inverseRoots_a1 := F_inverseRoots_a1.other W10 (Or.inl n1r)
  have V_ai := V_ai.other W10 (Ne.symm nri)
  refine Jvm.OwnW.aloadN O10 df5_62 rfl rfl (q := 63) rfl ?_
  refine Jvm.OwnW.lload O10 df5_63 rfl (q := 65) rfl ?_
  refine Jvm.OwnW.lloadN O10 df5_65 rfl (q := 66) rfl ?_
  refine Jvm.OwnW.callV0 O10 (y := (⟨"com/example/vary5/vary5/NumberTheoreticTransform", "product", "(JJ)J"⟩ : MethodName)) (z := (⟨"com/example/vary5/vary5/NumberTheoreticTransform", "product", "(JJ)J"⟩ : MethodName)) (a := a1) (argsL := [(.long zg8), (.long zg6)]) (rest := []) df5_66 (hw _ (List.mem_of_getElem? (i := 43) rfl)) (hw _ (List.mem_of_getElem? (i := 44) rfl)) (hw _ (List.mem_of_getElem? (i := 46) rfl)) rfl (hw _ (List.mem_of_getElem? (i := 45) rfl)) (hw _ (List.mem_of_getElem? (i := 2) rfl)) (hw _ (List.mem_of_getElem? (i := 47) rfl)) (by decide) (rm_p l Z a0 hw a1 zg8 zg6 (5 : Int64) (858993459 : Int32) h10 E_a1 F_modulus_a1 F_negatedInverse_a1) E_a1 rfl pd_0 rfl (hst := rfl) (W := 0) (Nat.le_of_eq rfl) (by decide) (by decide) (c2 := 0) (s2 := 0) rfl rfl (by decide) (by decide) rfl rfl (q := 69) rfl ?_
  intro v11 T11 O11 q11
  obtain rfl := q11
  show Go C _ _ _ _ (T11.setTop (mkF C.m 69 #[.val (.ref a1), .val (.int (2 : Int32)), .val (.int (1 : Int32)), .val (.long zg6), .second, .val (.long zg8), .second, .val (.int (0 : Int32)), .unset] [(.long (fn_p zg8 zg6 (5 : Int64) (858993459 : Int32)))]))
  refine Jvm.OwnW.lstore O11 df5_69 (L' := #[.val (.ref a1), .val (.int (2 : Int32)), .val (.int (1 : Int32)), .val (.long zg6), .second, .val (.long (fn_p zg8 zg6 (5 : Int64) (858993459 : Int32))), .second, .val (.int (0 : Int32)), .unset]) rfl (q := 71) rfl ?_
  refine Jvm.OwnW.iinc O11 df5_71 rfl (L' := #[.val (.ref a1), .val (.int (2 : Int32)), .val (.int (1 : Int32)), .val (.long zg6), .second, .val (.long (fn_p zg8 zg6 (5 : Int64) (858993459 : Int32))), .second, .val (.int (1 : Int32)), .unset]) rfl (q := 74) rfl ?_
  refine Jvm.OwnW.goto O11 df5_74 (by decide) (q := 44) rfl ?_
  refine Jvm.OwnW.iload O11 df5_44 rfl (q := 46) rfl ?_
  refine Jvm.OwnW.iloadN O11 df5_46 rfl (q := 47) rfl ?_
  refine Jvm.OwnW.icmpYes O11 df5_47 (flt (show ¬ ((1 : Int32) < (1 : Int32)) from (by decide))).2.1 (by decide) (q := 77) rfl ?_
  refine Jvm.OwnW.iloadN O11 df5_77 rfl (q := 78) rfl ?_
  refine Jvm.OwnW.iconst O11 df5_78 (r := (2 : Int32)) rfl (q := 79) rfl ?_
  refine Jvm.OwnW.idiv O11 df5_79 (by decide) (r := (0 : Int32)) (by decide) (q := 80) rfl ?_
  refine Jvm.OwnW.istore O11 df5_80 (L' := #[.val (.ref a1), .val (.int (2 : Int32)), .val (.int (1 : Int32)), .val (.long zg6), .second, .val (.long (fn_p zg8 zg6 (5 : Int64) (858993459 : Int32))), .second, .val (.int (0 : Int32)), .unset]) rfl (q := 82) rfl ?_
  refine Jvm.OwnW.iload O11 df5_82 rfl (q := 84) rfl ?_
  refine Jvm.OwnW.iconst O11 df5_84 (r := (1 : Int32)) rfl (q := 85) rfl ?_
  refine Jvm.OwnW.icmpYes O11 df5_85 (tlt (show (0 : Int32) < (1 : Int32) from (by decide))).1 (by decide) (q := 137) rfl ?_
  refine Jvm.OwnW.iconst O11 df5_137 (r := (1 : Int32)) rfl (q := 138) rfl ?_
  refine Jvm.OwnW.istore O11 df5_138 (L' := #[.val (.ref a1), .val (.int (2 : Int32)), .val (.int (1 : Int32)), .val (.long zg6), .second, .val (.long (fn_p zg8 zg6 (5 : Int64) (858993459 : Int32))), .second, .val (.int (1 : Int32)), .unset]) rfl (q := 140) rfl ?_
  refine Jvm.OwnW.iload O11 df5_140 rfl (q := 142) rfl ?_
  refine Jvm.OwnW.iloadN O11 df5_142 rfl (q := 143) rfl ?_
  refine Jvm.OwnW.icmpNo O11 df5_143 (flt (show ¬ ((1 : Int32) < (1 : Int32)) from (by decide))).2.2.1 (q := 146) rfl ?_
  refine Jvm.OwnW.aloadN O11 df5_146 rfl rfl (q := 147) rfl ?_
  refine Jvm.OwnW.getF O11 df5_147 (host := "") (Or.inl (hw _ (List.mem_of_getElem? (i := 23) rfl))) Via.refl F_inverseRoots_a1 (q := 150) rfl ?_
  intro T12 O12
  refine Jvm.OwnW.iload O12 df5_150 rfl (q := 152) rfl ?_
  refine Jvm.OwnW.aloadN O12 df5_152 rfl rfl (q := 153) rfl ?_
  refine Jvm.OwnW.getF O12 df5_153 (host := "") (Or.inl (hw _ (List.mem_of_getElem? (i := 21) rfl))) Via.refl F_roots_a1 (q := 156) rfl ?_
  intro T13 O13
  refine Jvm.OwnW.iload O13 df5_156 rfl (q := 158) rfl ?_
  refine Jvm.OwnW.ialA O13 df5_158 V_ar (i := 1) rfl (by decide) (v := (.int zg8.toInt32)) rfl (q := 159) rfl ?_
  refine Jvm.OwnW.iasA O13 df5_159 V_ai (i := 1) rfl (by decide) (Or.inl (List.mem_cons_of_mem _ (List.mem_cons_self ..))) (q := 160) rfl ?_
  intro T14 h14 O14 W14
  have V_ai : Ar Z h14 ai .int 2 (lf [(.int (0 : Int32)), (.int zg8.toInt32)]) := V_ai.setL W14 (by decide) (Nat.le_of_ble_eq_true rfl)
  have E_a1 := E_a1.wr W14
  have F_modulus_a1 := F_modulus_a1.other W14 (Or.inl n1i)
  have F_negatedInverse_a1 := F_negatedInverse_a1.other W14 (Or.inl n1i)
  have F_montgomeryOfR_a1 := F_montgomeryOfR_a1.other W14 (Or.inl n1i)
  have F_roots_a1 := F_roots_a1.other W14 (Or.inl n1i)
  have F_inverseRoots_a1 := F_inverseRoots_a1.other W14 (Or.inl n1i)
  have V_ar := V_ar.other W14 nri
  refine Jvm.OwnW.iconst O14 df5_160 (r := (1 : Int32)) rfl (q := 161) rfl ?_
  refine Jvm.OwnW.istore O14 df5_161 (L' := #[.val (.ref a1), .val (.int (2 : Int32)), .val (.int (1 : Int32)), .val (.long zg6), .second, .val (.long (fn_p zg8 zg6 (5 : Int64) (858993459 : Int32))), .second, .val (.int (1 : Int32)), .val (.int (1 : Int32))]) rfl (q := 163) rfl ?_
  refine Jvm.OwnW.iload O14 df5_163 rfl (q := 165) rfl ?_
  refine Jvm.OwnW.iload O14 df5_165 rfl (q := 167) rfl ?_
  refine Jvm.OwnW.icmpYes O14 df5_167 (flt (show ¬ ((1 : Int32) < (1 : Int32)) from (by decide))).2.1 (by decide) (q := 205) rfl ?_
  refine Jvm.OwnW.iload O14 df5_205 rfl (q := 207) rfl ?_
  refine Jvm.OwnW.iconst O14 df5_207 (r := (2 : Int32)) rfl (q := 208) rfl ?_
  refine Jvm.OwnW.imul O14 df5_208 (r := (2 : Int32)) (by decide) (q := 209) rfl ?_
  refine Jvm.OwnW.istore O14 df5_209 (L' := #[.val (.ref a1), .val (.int (2 : Int32)), .val (.int (1 : Int32)), .val (.long zg6), .second, .val (.long (fn_p zg8 zg6 (5 : Int64) (858993459 : Int32))), .second, .val (.int (2 : Int32)), .val (.int (1 : Int32))]) rfl (q := 211) rfl ?_
  refine Jvm.OwnW.goto O14 df5_211 (by decide) (q := 140) rfl ?_
  refine Jvm.OwnW.iload O14 df5_140 rfl (q := 142) rfl ?_
  refine Jvm.OwnW.iloadN O14 df5_142 rfl (q := 143) rfl ?_
  refine Jvm.OwnW.icmpYes O14 df5_143 (tlt (show (1 : Int32) < (2 : Int32) from (by decide))).2.2.1 (by decide) (q := 214) rfl ?_
  exact Jvm.OwnW.ret0 O14 df5_214 (by decide) (by decide) rfl
theorem di5_0 : decode prog_9_method_1_code 0 = .ok (.aload_n 0, 1) := by decide +kernel
theorem di5_1 : decode prog_9_method_1_code 1 = .ok (.invokespecial 1, 3) := by decide +kernel
theorem di5_4 : decode prog_9_method_1_code 4 = .ok (.aload_n 0, 1) := by decide +kernel
theorem di5_5 : decode prog_9_method_1_code 5 = .ok (.iload_n 1, 1) := by decide +kernel
theorem di5_6 : decode prog_9_method_1_code 6 = .ok (.i2l, 1) := by decide +kernel
theorem di5_7 : decode prog_9_method_1_code 7 = .ok (.putfield 7, 3) := by decide +kernel
theorem di5_10 : decode prog_9_method_1_code 10 = .ok (.iload_n 1, 1) := by decide +kernel
theorem di5_11 : decode prog_9_method_1_code 11 = .ok (.istore_n 3, 1) := by decide +kernel
theorem di5_12 : decode prog_9_method_1_code 12 = .ok (.iconst 0, 1) := by decide +kernel
theorem di5_13 : decode prog_9_method_1_code 13 = .ok (.istore 4, 2) := by decide +kernel
theorem di5_15 : decode prog_9_method_1_code 15 = .ok (.iload 4, 2) := by decide +kernel
theorem di5_17 : decode prog_9_method_1_code 17 = .ok (.iconst 4, 1) := by decide +kernel
theorem di5_18 : decode prog_9_method_1_code 18 = .ok (.if_icmp .ge 17, 3) := by decide +kernel
theorem di5_21 : decode prog_9_method_1_code 21 = .ok (.iload_n 3, 1) := by decide +kernel
theorem di5_22 : decode prog_9_method_1_code 22 = .ok (.iconst 2, 1) := by decide +kernel
theorem di5_23 : decode prog_9_method_1_code 23 = .ok (.iload_n 1, 1) := by decide +kernel
theorem di5_24 : decode prog_9_method_1_code 24 = .ok (.iload_n 3, 1) := by decide +kernel
theorem di5_25 : decode prog_9_method_1_code 25 = .ok (.imul, 1) := by decide +kernel
theorem di5_26 : decode prog_9_method_1_code 26 = .ok (.isub, 1) := by decide +kernel
theorem di5_27 : decode prog_9_method_1_code 27 = .ok (.imul, 1) := by decide +kernel
theorem di5_28 : decode prog_9_method_1_code 28 = .ok (.istore_n 3, 1) := by decide +kernel
theorem di5_29 : decode prog_9_method_1_code 29 = .ok (.iinc 4 1, 3) := by decide +kernel
theorem di5_32 : decode prog_9_method_1_code 32 = .ok (.goto (-17), 3) := by decide +kernel
theorem di5_35 : decode prog_9_method_1_code 35 = .ok (.aload_n 0, 1) := by decide +kernel
theorem di5_36 : decode prog_9_method_1_code 36 = .ok (.iload_n 3, 1) := by decide +kernel
theorem di5_37 : decode prog_9_method_1_code 37 = .ok (.ineg, 1) := by decide +kernel
theorem di5_38 : decode prog_9_method_1_code 38 = .ok (.putfield 13, 3) := by decide +kernel
theorem di5_41 : decode prog_9_method_1_code 41 = .ok (.ldc2_w 17, 3) := by decide +kernel
theorem di5_44 : decode prog_9_method_1_code 44 = .ok (.iload_n 1, 1) := by decide +kernel
theorem di5_45 : decode prog_9_method_1_code 45 = .ok (.i2l, 1) := by decide +kernel
theorem di5_46 : decode prog_9_method_1_code 46 = .ok (.lrem, 1) := by decide +kernel
theorem di5_47 : decode prog_9_method_1_code 47 = .ok (.lstore 4, 2) := by decide +kernel
theorem di5_49 : decode prog_9_method_1_code 49 = .ok (.aload_n 0, 1) := by decide +kernel
theorem di5_50 : decode prog_9_method_1_code 50 = .ok (.lload 4, 2) := by decide +kernel
theorem di5_52 : decode prog_9_method_1_code 52 = .ok (.lload 4, 2) := by decide +kernel
theorem di5_54 : decode prog_9_method_1_code 54 = .ok (.lmul, 1) := by decide +kernel
theorem di5_55 : decode prog_9_method_1_code 55 = .ok (.iload_n 1, 1) := by decide +kernel
theorem di5_56 : decode prog_9_method_1_code 56 = .ok (.i2l, 1) := by decide +kernel
theorem di5_57 : decode prog_9_method_1_code 57 = .ok (.lrem, 1) := by decide +kernel
theorem di5_58 : decode prog_9_method_1_code 58 = .ok (.putfield 19, 3) := by decide +kernel
theorem di5_61 : decode prog_9_method_1_code 61 = .ok (.aload_n 0, 1) := by decide +kernel
theorem di5_62 : decode prog_9_method_1_code 62 = .ok (.iload_n 2, 1) := by decide +kernel
theorem di5_63 : decode prog_9_method_1_code 63 = .ok (.iconst 2, 1) := by decide +kernel
theorem di5_64 : decode prog_9_method_1_code 64 = .ok (.invokestatic 22, 3) := by decide +kernel
theorem di5_67 : decode prog_9_method_1_code 67 = .ok (.newarray .int, 2) := by decide +kernel
theorem di5_69 : decode prog_9_method_1_code 69 = .ok (.putfield 28, 3) := by decide +kernel
theorem di5_72 : decode prog_9_method_1_code 72 = .ok (.aload_n 0, 1) := by decide +kernel
theorem di5_73 : decode prog_9_method_1_code 73 = .ok (.aload_n 0, 1) := by decide +kernel
theorem di5_74 : decode prog_9_method_1_code 74 = .ok (.getfield 28, 3) := by decide +kernel
theorem di5_77 : decode prog_9_method_1_code 77 = .ok (.arraylength, 1) := by decide +kernel
theorem di5_78 : decode prog_9_method_1_code 78 = .ok (.newarray .int, 2) := by decide +kernel
theorem di5_80 : decode prog_9_method_1_code 80 = .ok (.putfield 32, 3) := by decide +kernel
theorem di5_83 : decode prog_9_method_1_code 83 = .ok (.aload_n 0, 1) := by decide +kernel
theorem di5_84 : decode prog_9_method_1_code 84 = .ok (.iload_n 2, 1) := by decide +kernel
theorem di5_85 : decode prog_9_method_1_code 85 = .ok (.invokevirtual 35, 3) := by decide +kernel
theorem di5_88 : decode prog_9_method_1_code 88 = .ok (.return_, 1) := by decide +kernel
theorem ef_i5 (a1 : Addr) (m : MethodId) : entryFrame m #[(.ref a1), (.int (5 : Int32)), (.int (2 : Int32))] 6 = mkF m 0 #[.val (.ref a1), .val (.int (5 : Int32)), .val (.int (2 : Int32)), .unset, .unset, .unset] [] := by first | (simp [entryFrame, mkF, argsToLocals, Value.category, maxLocals]; done) | rfl
theorem pn_i5 : plainFor (⟨"com/example/vary5/vary5/NumberTheoreticTransform", "<init>", "(II)V"⟩ : MethodName) = true := by first | exact plainFor_of_name (by first | (simp [plainName, overriddenIn]; done) | decide +kernel) | decide +kernel
set_option maxRecDepth 65536 in
set_option maxHeartbeats 40000000 in
theorem rm_i5 (l : Launch) (Z : State) (a0 : Array Value) (hw : ∀ d ∈ tables_1, d.before a0 Z = true) (a1 : Addr) (h0 : Heap) (E_a1 : Exa Z h0 a1 "com/example/vary5/vary5/NumberTheoreticTransform") (F_modulus_a1 : Fld Z h0 a1 "com/example/vary5/vary5/NumberTheoreticTransform" "modulus" "J" (.long (0 : Int64))) (F_negatedInverse_a1 : Fld Z h0 a1 "com/example/vary5/vary5/NumberTheoreticTransform" "negatedInverse" "I" (.int (0 : Int32))) (F_montgomeryOfR_a1 : Fld Z h0 a1 "com/example/vary5/vary5/NumberTheoreticTransform" "montgomeryOfR" "J" (.long (0 : Int64))) (F_roots_a1 : Fld Z h0 a1 "com/example/vary5/vary5/NumberTheoreticTransform" "roots" "[I" .null) (F_inverseRoots_a1 : Fld Z h0 a1 "com/example/vary5/vary5/NumberTheoreticTransform" "inverseRoots" "[I" .null) :
    Met l Z (⟨"com/example/vary5/vary5/NumberTheoreticTransform", "<init>", "(II)V"⟩ : MethodName) prog_9_method_1_code 6 none [] ({ frames := 3, cells := 2, slots := 4, locals := 58 } : Room) #[(.ref a1), (.int (5 : Int32)), (.int (2 : Int32))] [a1] h0 (fun v h => v = none ∧ Fld Z h a1 "com/example/vary5/vary5/NumberTheoreticTransform" "modulus" "J" (.long (5 : Int64)) ∧ Fld Z h a1 "com/example/vary5/vary5/NumberTheoreticTransform" "negatedInverse" "I" (.int (858993459 : Int32))) := by
  refine Met.mk pn_i5 (ef_i5 a1) ?_
  intro C T hs0 O
  show Go C [a1] (fun v h => v = none ∧ Fld Z h a1 "com/example/vary5/vary5/NumberTheoreticTransform" "modulus" "J" (.long (5 : Int64)) ∧ Fld Z h a1 "com/example/vary5/vary5/NumberTheoreticTransform" "negatedInverse" "I" (.int (858993459 : Int32))) 2 4 (T.setTop (mkF C.m 0 #[.val (.ref a1), .val (.int (5 : Int32)), .val (.int (2 : Int32)), .unset, .unset, .unset] []))
  refine Jvm.OwnW.aloadN O di5_0 rfl rfl (q := 1) rfl ?_
  refine Jvm.OwnW.initO O di5_1 (hw _ (List.mem_of_getElem? (i := 6) rfl)) (hw _ (List.mem_of_getElem? (i := 7) rfl)) (hw _ (List.mem_of_getElem? (i := 8) rfl)) rfl (by decide) (W := 0) (Nat.le_of_eq rfl) (by decide) (q := 4) rfl ?_
  intro T1 O1
  refine Jvm.OwnW.aloadN O1 di5_4 rfl rfl (q := 5) rfl ?_
  refine Jvm.OwnW.iloadN O1 di5_5 rfl (q := 6) rfl ?_
  refine Jvm.OwnW.i2l O1 di5_6 (r := (5 : Int64)) (by decide) (q := 7) rfl ?_
  refine Jvm.OwnW.putF O1 di5_7 (host := "") (Or.inl (hw _ (List.mem_of_getElem? (i := 9) rfl))) Via.refl F_modulus_a1 E_a1 (Or.inr ⟨hw _ (List.mem_of_getElem? (i := 10) rfl), rfl, rfl⟩) (hw _ (List.mem_of_getElem? (i := 1) rfl)) (ty := .long) (by decide) rfl rfl (Or.inl (List.mem_cons_self ..)) (q := 10) rfl ?_
  intro T2 h2 O2 W2
  have E_a1 := E_a1.wr W2
  have F_modulus_a1 := F_modulus_a1.same W2
  have F_negatedInverse_a1 := F_negatedInverse_a1.other W2 (Or.inr (slot_ne (Or.inr (hw _ (List.mem_of_getElem? (i := 12) rfl))) (Or.inr (hw _ (List.mem_of_getElem? (i := 10) rfl))) (by decide) (t := .int) (t' := .long) (by decide) (by decide)))
  have F_montgomeryOfR_a1 := F_montgomeryOfR_a1.other W2 (Or.inr (slot_ne (Or.inr (hw _ (List.mem_of_getElem? (i := 15) rfl))) (Or.inr (hw _ (List.mem_of_getElem? (i := 10) rfl))) (by decide) (t := .long) (t' := .long) (by decide) (by decide)))
  have F_roots_a1 := F_roots_a1.other W2 (Or.inr (slot_ne (Or.inr (hw _ (List.mem_of_getElem? (i := 22) rfl))) (Or.inr (hw _ (List.mem_of_getElem? (i := 10) rfl))) (by decide) (t := (.array .int)) (t' := .long) (by decide) (by decide)))
  have F_inverseRoots_a1 := F_inverseRoots_a1.other W2 (Or.inr (slot_ne (Or.inr (hw _ (List.mem_of_getElem? (i := 24) rfl))) (Or.inr (hw _ (List.mem_of_getElem? (i := 10) rfl))) (by decide) (t := (.array .int)) (t' := .long) (by decide) (by decide)))
  refine Jvm.OwnW.iloadN O2 di5_10 rfl (q := 11) rfl ?_
  refine Jvm.OwnW.istoreN O2 di5_11 (L' := #[.val (.ref a1), .val (.int (5 : Int32)), .val (.int (2 : Int32)), .val (.int (5 : Int32)), .unset, .unset]) rfl (q := 12) rfl ?_
  refine Jvm.OwnW.iconst O2 di5_12 (r := (0 : Int32)) rfl (q := 13) rfl ?_
  refine Jvm.OwnW.istore O2 di5_13 (L' := #[.val (.ref a1), .val (.int (5 : Int32)), .val (.int (2 : Int32)), .val (.int (5 : Int32)), .val (.int (0 : Int32)), .unset]) rfl (q := 15) rfl ?_
  refine Jvm.OwnW.iload O2 di5_15 rfl (q := 17) rfl ?_
  refine Jvm.OwnW.iconst O2 di5_17 (r := (4 : Int32)) rfl (q := 18) rfl ?_
  refine Jvm.OwnW.icmpNo O2 di5_18 (tlt (show (0 : Int32) < (4 : Int32) from (by decide))).2.1 (q := 21) rfl ?_
  refine Jvm.OwnW.iloadN O2 di5_21 rfl (q := 22) rfl ?_
  refine Jvm.OwnW.iconst O2 di5_22 (r := (2 : Int32)) rfl (q := 23) rfl ?_
  refine Jvm.OwnW.iloadN O2 di5_23 rfl (q := 24) rfl ?_
  refine Jvm.OwnW.iloadN O2 di5_24 rfl (q := 25) rfl ?_
  refine Jvm.OwnW.imul O2 di5_25 (r := (25 : Int32)) (by decide) (q := 26) rfl ?_
  refine Jvm.OwnW.isub O2 di5_26 (r := (-23 : Int32)) (by decide) (q := 27) rfl ?_
  refine Jvm.OwnW.imul O2 di5_27 (r := (-115 : Int32)) (by decide) (q := 28) rfl ?_
  refine Jvm.OwnW.istoreN O2 di5_28 (L' := #[.val (.ref a1), .val (.int (5 : Int32)), .val (.int (2 : Int32)), .val (.int (-115 : Int32)), .val (.int (0 : Int32)), .unset]) rfl (q := 29) rfl ?_
  refine Jvm.OwnW.iinc O2 di5_29 rfl (L' := #[.val (.ref a1), .val (.int (5 : Int32)), .val (.int (2 : Int32)), .val (.int (-115 : Int32)), .val (.int (1 : Int32)), .unset]) rfl (q := 32) rfl ?_
  refine Jvm.OwnW.goto O2 di5_32 (by decide) (q := 15) rfl ?_
  refine Jvm.OwnW.iload O2 di5_15 rfl (q := 17) rfl ?_
  refine Jvm.OwnW.iconst O2 di5_17 (r := (4 : Int32)) rfl (q := 18) rfl ?_
  refine Jvm.OwnW.icmpNo O2 di5_18 (tlt (show (1 : Int32) < (4 : Int32) from (by decide))).2.1 (q := 21) rfl ?_
  refine Jvm.OwnW.iloadN O2 di5_21 rfl (q := 22) rfl ?_
  refine Jvm.OwnW.iconst O2 di5_22 (r := (2 : Int32)) rfl (q := 23) rfl ?_
  refine Jvm.OwnW.iloadN O2 di5_23 rfl (q := 24) rfl ?_
  refine Jvm.OwnW.iloadN O2 di5_24 rfl (q := 25) rfl ?_
  refine Jvm.OwnW.imul O2 di5_25 (r := (-575 : Int32)) (by decide) (q := 26) rfl ?_
  refine Jvm.OwnW.isub O2 di5_26 (r := (577 : Int32)) (by decide) (q := 27) rfl ?_
  refine Jvm.OwnW.imul O2 di5_27 (r := (-66355 : Int32)) (by decide) (q := 28) rfl ?_
  refine Jvm.OwnW.istoreN O2 di5_28 (L' := #[.val (.ref a1), .val (.int (5 : Int32)), .val (.int (2 : Int32)), .val (.int (-66355 : Int32)), .val (.int (1 : Int32)), .unset]) rfl (q := 29) rfl ?_
  refine Jvm.OwnW.iinc O2 di5_29 rfl (L' := #[.val (.ref a1), .val (.int (5 : Int32)), .val (.int (2 : Int32)), .val (.int (-66355 : Int32)), .val (.int (2 : Int32)), .unset]) rfl (q := 32) rfl ?_
  refine Jvm.OwnW.goto O2 di5_32 (by decide) (q := 15) rfl ?_
  refine Jvm.OwnW.iload O2 di5_15 rfl (q := 17) rfl ?_
  refine Jvm.OwnW.iconst O2 di5_17 (r := (4 : Int32)) rfl (q := 18) rfl ?_
  refine Jvm.OwnW.icmpNo O2 di5_18 (tlt (show (2 : Int32) < (4 : Int32) from (by decide))).2.1 (q := 21) rfl ?_
  refine Jvm.OwnW.iloadN O2 di5_21 rfl (q := 22) rfl ?_
  refine Jvm.OwnW.iconst O2 di5_22 (r := (2 : Int32)) rfl (q := 23) rfl ?_
  refine Jvm.OwnW.iloadN O2 di5_23 rfl (q := 24) rfl ?_
  refine Jvm.OwnW.iloadN O2 di5_24 rfl (q := 25) rfl ?_
  refine Jvm.OwnW.imul O2 di5_25 (r := (-331775 : Int32)) (by decide) (q := 26) rfl ?_
  refine Jvm.OwnW.isub O2 di5_26 (r := (331777 : Int32)) (by decide) (q := 27) rfl ?_
  refine Jvm.OwnW.imul O2 di5_27 (r := (-540226355 : Int32)) (by decide) (q := 28) rfl ?_
  refine Jvm.OwnW.istoreN O2 di5_28 (L' := #[.val (.ref a1), .val (.int (5 : Int32)), .val (.int (2 : Int32)), .val (.int (-540226355 : Int32)), .val (.int (2 : Int32)), .unset]) rfl (q := 29) rfl ?_
  refine Jvm.OwnW.iinc O2 di5_29 rfl (L' := #[.val (.ref a1), .val (.int (5 : Int32)), .val (.int (2 : Int32)), .val (.int (-540226355 : Int32)), .val (.int (3 : Int32)), .unset]) rfl (q := 32) rfl ?_
  refine Jvm.OwnW.goto O2 di5_32 (by decide) (q := 15) rfl ?_
  refine Jvm.OwnW.iload O2 di5_15 rfl (q := 17) rfl ?_
  refine Jvm.OwnW.iconst O2 di5_17 (r := (4 : Int32)) rfl (q := 18) rfl ?_
  refine Jvm.OwnW.icmpNo O2 di5_18 (tlt (show (3 : Int32) < (4 : Int32) from (by decide))).2.1 (q := 21) rfl ?_
  refine Jvm.OwnW.iloadN O2 di5_21 rfl (q := 22) rfl ?_
  refine Jvm.OwnW.iconst O2 di5_22 (r := (2 : Int32)) rfl (q := 23) rfl ?_
  refine Jvm.OwnW.iloadN O2 di5_23 rfl (q := 24) rfl ?_
  refine Jvm.OwnW.iloadN O2 di5_24 rfl (q := 25) rfl ?_
  refine Jvm.OwnW.imul O2 di5_25 (r := (1593835521 : Int32)) (by decide) (q := 26) rfl ?_
  refine Jvm.OwnW.isub O2 di5_26 (r := (-1593835519 : Int32)) (by decide) (q := 27) rfl ?_
  refine Jvm.OwnW.imul O2 di5_27 (r := (-858993459 : Int32)) (by decide) (q := 28) rfl ?_
  refine Jvm.OwnW.istoreN O2 di5_28 (L' := #[.val (.ref a1), .val (.int (5 : Int32)), .val (.int (2 : Int32)), .val (.int (-858993459 : Int32)), .val (.int (3 : Int32)), .unset]) rfl (q := 29) rfl ?_
  refine Jvm.OwnW.iinc O2 di5_29 rfl (L' := #[.val (.ref a1), .val (.int (5 : Int32)), .val (.int (2 : Int32)), .val (.int (-858993459 : Int32)), .val (.int (4 : Int32)), .unset]) rfl (q := 32) rfl ?_
  refine Jvm.OwnW.goto O2 di5_32 (by decide) (q := 15) rfl ?_
  refine Jvm.OwnW.iload O2 di5_15 rfl (q := 17) rfl ?_
  refine Jvm.OwnW.iconst O2 di5_17 (r := (4 : Int32)) rfl (q := 18) rfl ?_
  refine Jvm.OwnW.icmpYes O2 di5_18 (flt (show ¬ ((4 : Int32) < (4 : Int32)) from (by decide))).2.1 (by decide) (q := 35) rfl ?_
  refine Jvm.OwnW.aloadN O2 di5_35 rfl rfl (q := 36) rfl ?_
  refine Jvm.OwnW.iloadN O2 di5_36 rfl (q := 37) rfl ?_
  refine Jvm.OwnW.ineg O2 di5_37 (r := (858993459 : Int32)) (by decide) (q := 38) rfl ?_
  refine Jvm.OwnW.putF O2 di5_38 (host := "") (Or.inl (hw _ (List.mem_of_getElem? (i := 11) rfl))) Via.refl F_negatedInverse_a1 E_a1 (Or.inr ⟨hw _ (List.mem_of_getElem? (i := 12) rfl), rfl, rfl⟩) (hw _ (List.mem_of_getElem? (i := 1) rfl)) (ty := .int) (by decide) rfl rfl (Or.inl (List.mem_cons_self ..)) (q := 41) rfl ?_
  intro T3 h3 O3 W3
  have E_a1 := E_a1.wr W3
  have F_modulus_a1 := F_modulus_a1.other W3 (Or.inr (slot_ne (Or.inr (hw _ (List.mem_of_getElem? (i := 10) rfl))) (Or.inr (hw _ (List.mem_of_getElem? (i := 12) rfl))) (by decide) (t := .long) (t' := .int) (by decide) (by decide)))
  have F_negatedInverse_a1 := F_negatedInverse_a1.same W3
  have F_montgomeryOfR_a1 := F_montgomeryOfR_a1.other W3 (Or.inr (slot_ne (Or.inr (hw _ (List.mem_of_getElem? (i := 15) rfl))) (Or.inr (hw _ (List.mem_of_getElem? (i := 12) rfl))) (by decide) (t := .long) (t' := .int) (by decide) (by decide)))
  have F_roots_a1 := F_roots_a1.other W3 (Or.inr (slot_ne (Or.inr (hw _ (List.mem_of_getElem? (i := 22) rfl))) (Or.inr (hw _ (List.mem_of_getElem? (i := 12) rfl))) (by decide) (t := (.array .int)) (t' := .int) (by decide) (by decide)))
  have F_inverseRoots_a1 := F_inverseRoots_a1.other W3 (Or.inr (slot_ne (Or.inr (hw _ (List.mem_of_getElem? (i := 24) rfl))) (Or.inr (hw _ (List.mem_of_getElem? (i := 12) rfl))) (by decide) (t := (.array .int)) (t' := .int) (by decide) (by decide)))
  refine Jvm.OwnW.ldcL O3 di5_41 (hw _ (List.mem_of_getElem? (i := 13) rfl)) (q := 44) rfl ?_
  refine Jvm.OwnW.iloadN O3 di5_44 rfl (q := 45) rfl ?_
  refine Jvm.OwnW.i2l O3 di5_45 (r := (5 : Int64)) (by decide) (q := 46) rfl ?_
  refine Jvm.OwnW.lrem O3 di5_46 (by decide) (r := (1 : Int64)) (by decide) (q := 47) rfl ?_
  refine Jvm.OwnW.lstore O3 di5_47 (L' := #[.val (.ref a1), .val (.int (5 : Int32)), .val (.int (2 : Int32)), .val (.int (-858993459 : Int32)), .val (.long (1 : Int64)), .second]) rfl (q := 49) rfl ?_
  refine Jvm.OwnW.aloadN O3 di5_49 rfl rfl (q := 50) rfl ?_
  refine Jvm.OwnW.lload O3 di5_50 rfl (q := 52) rfl ?_
  refine Jvm.OwnW.lload O3 di5_52 rfl (q := 54) rfl ?_
  refine Jvm.OwnW.lmul O3 di5_54 (r := (1 : Int64)) (by decide) (q := 55) rfl ?_
  refine Jvm.OwnW.iloadN O3 di5_55 rfl (q := 56) rfl ?_
  refine Jvm.OwnW.i2l O3 di5_56 (r := (5 : Int64)) (by decide) (q := 57) rfl ?_
  refine Jvm.OwnW.lrem O3 di5_57 (by decide) (r := (1 : Int64)) (by decide) (q := 58) rfl ?_
  refine Jvm.OwnW.putF O3 di5_58 (host := "") (Or.inl (hw _ (List.mem_of_getElem? (i := 14) rfl))) Via.refl F_montgomeryOfR_a1 E_a1 (Or.inr ⟨hw _ (List.mem_of_getElem? (i := 15) rfl), rfl, rfl⟩) (hw _ (List.mem_of_getElem? (i := 1) rfl)) (ty := .long) (by decide) rfl rfl (Or.inl (List.mem_cons_self ..)) (q := 61) rfl ?_
  intro T4 h4 O4 W4
  have E_a1 := E_a1.wr W4
  have F_modulus_a1 := F_modulus_a1.other W4 (Or.inr (slot_ne (Or.inr (hw _ (List.mem_of_getElem? (i := 10) rfl))) (Or.inr (hw _ (List.mem_of_getElem? (i := 15) rfl))) (by decide) (t := .long) (t' := .long) (by decide) (by decide)))
  have F_negatedInverse_a1 := F_negatedInverse_a1.other W4 (Or.inr (slot_ne (Or.inr (hw _ (List.mem_of_getElem? (i := 12) rfl))) (Or.inr (hw _ (List.mem_of_getElem? (i := 15) rfl))) (by decide) (t := .int) (t' := .long) (by decide) (by decide)))
  have F_montgomeryOfR_a1 := F_montgomeryOfR_a1.same W4
  have F_roots_a1 := F_roots_a1.other W4 (Or.inr (slot_ne (Or.inr (hw _ (List.mem_of_getElem? (i := 22) rfl))) (Or.inr (hw _ (List.mem_of_getElem? (i := 15) rfl))) (by decide) (t := (.array .int)) (t' := .long) (by decide) (by decide)))
  have F_inverseRoots_a1 := F_inverseRoots_a1.other W4 (Or.inr (slot_ne (Or.inr (hw _ (List.mem_of_getElem? (i := 24) rfl))) (Or.inr (hw _ (List.mem_of_getElem? (i := 15) rfl))) (by decide) (t := (.array .int)) (t' := .long) (by decide) (by decide)))
  refine Jvm.OwnW.aloadN O4 di5_61 rfl rfl (q := 62) rfl ?_
  refine Jvm.OwnW.iloadN O4 di5_62 rfl (q := 63) rfl ?_
  refine Jvm.OwnW.iconst O4 di5_63 (r := (2 : Int32)) rfl (q := 64) rfl ?_
  refine Jvm.OwnW.callS0 O4 (y := (⟨"java/lang/Math", "max", "(II)I"⟩ : MethodName)) (argsL := [(.int (2 : Int32)), (.int (2 : Int32))]) (rest := [(.ref a1)]) di5_64 (hw _ (List.mem_of_getElem? (i := 16) rfl)) (hw _ (List.mem_of_getElem? (i := 17) rfl)) (hw _ (List.mem_of_getElem? (i := 18) rfl)) (hw _ (List.mem_of_getElem? (i := 19) rfl)) (by decide) (rm_m l Z a0 hw (2 : Int32) (2 : Int32) h4) rfl pd_1 rfl (hst := rfl) (W := 1) (Nat.le_of_eq rfl) (by decide) (by decide) (c2 := 0) (s2 := 0) rfl rfl (by decide) (by decide) rfl rfl (q := 67) rfl ?_
  intro v5 T5 O5 q5
  obtain rfl := q5
  rw [show fn_m (2 : Int32) (2 : Int32) = (2 : Int32) from by decide]
  show Go C _ _ _ _ (T5.setTop (mkF C.m 67 #[.val (.ref a1), .val (.int (5 : Int32)), .val (.int (2 : Int32)), .val (.int (-858993459 : Int32)), .val (.long (1 : Int64)), .second] [(.int (2 : Int32)), (.ref a1)]))
  refine Jvm.OwnW.newA' O5 di5_67 (ty := .int) rfl (hw _ (List.mem_of_getElem? (i := 20) rfl)) (N := 2) rfl (cap := 2) (by decide) (by decide) (c2 := 1) (s2 := 2) rfl rfl (by decide) (by decide) (q := 69) rfl ?_
  intro nb6 T6 h6 g6 N6 O6 X6 V_nb6
  have ne_a1_nb6 : a1 ≠ nb6 := Nat.ne_of_lt (Nat.lt_of_lt_of_le E_a1.lt (Nat.le_of_eq g6.symm))
  have E_a1 := E_a1.ext X6
  have F_modulus_a1 := F_modulus_a1.ext X6
  have F_negatedInverse_a1 := F_negatedInverse_a1.ext X6
  have F_montgomeryOfR_a1 := F_montgomeryOfR_a1.ext X6
  have F_roots_a1 := F_roots_a1.ext X6
  have F_inverseRoots_a1 := F_inverseRoots_a1.ext X6
  have V_nb6 : Ar Z h6 nb6 .int 2 (lf [(.int (0 : Int32)), (.int (0 : Int32))]) := V_nb6.congr (lf_rep 2 _)
  refine Jvm.OwnW.putF O6 di5_69 (host := "") (Or.inl (hw _ (List.mem_of_getElem? (i := 21) rfl))) Via.refl F_roots_a1 E_a1 (Or.inr ⟨hw _ (List.mem_of_getElem? (i := 22) rfl), rfl, rfl⟩) (hw _ (List.mem_of_getElem? (i := 1) rfl)) (ty := (.array .int)) (by decide) rfl rfl (Or.inl (List.mem_cons_self ..)) (q := 72) rfl ?_
  intro T7 h7 O7 W7
  have E_a1 := E_a1.wr W7
  have F_modulus_a1 := F_modulus_a1.other W7 (Or.inr (slot_ne (Or.inr (hw _ (List.mem_of_getElem? (i := 10) rfl))) (Or.inr (hw _ (List.mem_of_getElem? (i := 22) rfl))) (by decide) (t := .long) (t' := (.array .int)) (by decide) (by decide)))
  have F_negatedInverse_a1 := F_negatedInverse_a1.other W7 (Or.inr (slot_ne (Or.inr (hw _ (List.mem_of_getElem? (i := 12) rfl))) (Or.inr (hw _ (List.mem_of_getElem? (i := 22) rfl))) (by decide) (t := .int) (t' := (.array .int)) (by decide) (by decide)))
  have F_montgomeryOfR_a1 := F_montgomeryOfR_a1.other W7 (Or.inr (slot_ne (Or.inr (hw _ (List.mem_of_getElem? (i := 15) rfl))) (Or.inr (hw _ (List.mem_of_getElem? (i := 22) rfl))) (by decide) (t := .long) (t' := (.array .int)) (by decide) (by decide)))
  have F_roots_a1 := F_roots_a1.same W7
  have F_inverseRoots_a1 := F_inverseRoots_a1.other W7 (Or.inr (slot_ne (Or.inr (hw _ (List.mem_of_getElem? (i := 24) rfl))) (Or.inr (hw _ (List.mem_of_getElem? (i := 22) rfl))) (by decide) (t := (.array .int)) (t' := (.array .int)) (by decide) (by decide)))
  have V_nb6 := V_nb6.other W7 (Ne.symm ne_a1_nb6)
  refine Jvm.OwnW.aloadN O7 di5_72 rfl rfl (q := 73) rfl ?_
  refine Jvm.OwnW.aloadN O7 di5_73 rfl rfl (q := 74) rfl ?_
  refine Jvm.OwnW.getF O7 di5_74 (host := "") (Or.inl (hw _ (List.mem_of_getElem? (i := 21) rfl))) Via.refl F_roots_a1 (q := 77) rfl ?_
  intro T8 O8
  refine Jvm.OwnW.lenA O8 di5_77 V_nb6 (z := (2 : Int32)) rfl (q := 78) rfl ?_
  refine Jvm.OwnW.newA' O8 di5_78 (ty := .int) rfl (hw _ (List.mem_of_getElem? (i := 20) rfl)) (N := 2) rfl (cap := 2) (by decide) (by decide) (c2 := 2) (s2 := 4) rfl rfl (by decide) (by decide) (q := 80) rfl ?_
  intro nb9 T9 h9 g9 N9 O9 X9 V_nb9
  have ne_a1_nb9 : a1 ≠ nb9 := Nat.ne_of_lt (Nat.lt_of_lt_of_le E_a1.lt (Nat.le_of_eq g9.symm))
  have ne_nb6_nb9 : nb6 ≠ nb9 := Nat.ne_of_lt (Nat.lt_of_lt_of_le V_nb6.lt (Nat.le_of_eq g9.symm))
  have E_a1 := E_a1.ext X9
  have F_modulus_a1 := F_modulus_a1.ext X9
  have F_negatedInverse_a1 := F_negatedInverse_a1.ext X9
  have F_montgomeryOfR_a1 := F_montgomeryOfR_a1.ext X9
  have F_roots_a1 := F_roots_a1.ext X9
  have F_inverseRoots_a1 := F_inverseRoots_a1.ext X9
  have V_nb6 := V_nb6.ext X9
  have V_nb9 : Ar Z h9 nb9 .int 2 (lf [(.int (0 : Int32)), (.int (0 : Int32))]) := V_nb9.congr (lf_rep 2 _)
  refine Jvm.OwnW.putF O9 di5_80 (host := "") (Or.inl (hw _ (List.mem_of_getElem? (i := 23) rfl))) Via.refl F_inverseRoots_a1 E_a1 (Or.inr ⟨hw _ (List.mem_of_getElem? (i := 24) rfl), rfl, rfl⟩) (hw _ (List.mem_of_getElem? (i := 1) rfl)) (ty := (.array .int)) (by decide) rfl rfl (Or.inl (List.mem_cons_self ..)) (q := 83) rfl ?_
  intro T10 h10 O10 W10
  have E_a1 := E_a1.wr W10
  have F_modulus_a1 := F_modulus_a1.other W10 (Or.inr (slot_ne (Or.inr (hw _ (List.mem_of_getElem? (i := 10) rfl))) (Or.inr (hw _ (List.mem_of_getElem? (i := 24) rfl))) (by decide) (t := .long) (t' := (.array .int)) (by decide) (by decide)))
  have F_negatedInverse_a1 := F_negatedInverse_a1.other W10 (Or.inr (slot_ne (Or.inr (hw _ (List.mem_of_getElem? (i := 12) rfl))) (Or.inr (hw _ (List.mem_of_getElem? (i := 24) rfl))) (by decide) (t := .int) (t' := (.array .int)) (by decide) (by decide)))
  have F_montgomeryOfR_a1 := F_montgomeryOfR_a1.other W10 (Or.inr (slot_ne (Or.inr (hw _ (List.mem_of_getElem? (i := 15) rfl))) (Or.inr (hw _ (List.mem_of_getElem? (i := 24) rfl))) (by decide) (t := .long) (t' := (.array .int)) (by decide) (by decide)))
  have F_roots_a1 := F_roots_a1.other W10 (Or.inr (slot_ne (Or.inr (hw _ (List.mem_of_getElem? (i := 22) rfl))) (Or.inr (hw _ (List.mem_of_getElem? (i := 24) rfl))) (by decide) (t := (.array .int)) (t' := (.array .int)) (by decide) (by decide)))
  have F_inverseRoots_a1 := F_inverseRoots_a1.same W10
  have V_nb6 := V_nb6.other W10 (Ne.symm ne_a1_nb6)
  have V_nb9 := V_nb9.other W10 (Ne.symm ne_a1_nb9)
  refine Jvm.OwnW.aloadN O10 di5_83 rfl rfl (q := 84) rfl ?_
  refine Jvm.OwnW.iloadN O10 di5_84 rfl (q := 85) rfl ?_
  refine Jvm.OwnW.callP O10 (y := (⟨"com/example/vary5/vary5/NumberTheoreticTransform", "fillRoots", "(I)V"⟩ : MethodName)) (a := a1) (argsL := [(.int (2 : Int32))]) (rest := []) di5_85 (hw _ (List.mem_of_getElem? (i := 25) rfl)) (hw _ (List.mem_of_getElem? (i := 26) rfl)) (hw _ (List.mem_of_getElem? (i := 27) rfl)) (hw _ (List.mem_of_getElem? (i := 1) rfl)) (hw _ (List.mem_of_getElem? (i := 2) rfl)) (hw _ (List.mem_of_getElem? (i := 28) rfl)) (by decide) (rm_f5 l Z a0 hw a1 nb6 nb9 h10 E_a1 F_modulus_a1 F_negatedInverse_a1 F_montgomeryOfR_a1 F_roots_a1 F_inverseRoots_a1 V_nb6 V_nb9 ne_a1_nb6 ne_a1_nb9 ne_nb6_nb9) E_a1 rfl pd_4 rfl (hst := rfl) (W := 0) (Nat.le_of_eq rfl) (by decide) (by decide) (c2 := 2) (s2 := 4) rfl rfl (by decide) (by decide) (allS (Or.inr N6) (allS (Or.inr N9) all0)) (q := 88) rfl ?_
  intro v11 T11 h11 O11 K11 q11
  obtain rfl := q11
  have E_a1 := E_a1.keep K11
  have F_modulus_a1 := F_modulus_a1.keep K11 (ninS ne_a1_nb6 (ninS ne_a1_nb9 nin0))
  have F_negatedInverse_a1 := F_negatedInverse_a1.keep K11 (ninS ne_a1_nb6 (ninS ne_a1_nb9 nin0))
  have F_montgomeryOfR_a1 := F_montgomeryOfR_a1.keep K11 (ninS ne_a1_nb6 (ninS ne_a1_nb9 nin0))
  have F_roots_a1 := F_roots_a1.keep K11 (ninS ne_a1_nb6 (ninS ne_a1_nb9 nin0))
  have F_inverseRoots_a1 := F_inverseRoots_a1.keep K11 (ninS ne_a1_nb6 (ninS ne_a1_nb9 nin0))
  show Go C _ _ _ _ (T11.setTop (mkF C.m 88 #[.val (.ref a1), .val (.int (5 : Int32)), .val (.int (2 : Int32)), .val (.int (-858993459 : Int32)), .val (.long (1 : Int64)), .second] []))
  exact Jvm.OwnW.ret0 O11 di5_88 (by decide) (by decide) ⟨rfl, F_modulus_a1, F_negatedInverse_a1⟩
theorem own_main_5 (x y r : Int64) (hr : fn_p (x &&& 4294967295) ((y &&& 9223372036854775807) % 5) 5 (858993459) = r) :
    ¬ r < 0 ∧ r < 5 ∧ (r <<< ((32 : Int32) &&& 0x3f).toInt64) % 5 = (((x &&& 4294967295) % 5) * ((y &&& 9223372036854775807) % 5)) % 5 := by
  have hP : (5 : Int64).toInt = 5 := by decide
  have z0 : (0 : Int64).toInt = 0 := by decide
  have z1 : (-1 : Int64).toInt = -1 := by decide
  have hN : (858993459 : Int32).toInt = 858993459 := by decide
  have ha := c_maskL x 4294967295 32 (by decide) (by decide)
  have hy := c_maskL y 9223372036854775807 63 (by decide) (by decide)
  have hb := rem64 (x := y &&& 9223372036854775807) hP (by omega)
  generalize (x &&& 4294967295) = a at hr ha ⊢
  generalize (y &&& 9223372036854775807) % 5 = b at hr hb ⊢
  have hA0 : 0 ≤ a.toInt := by omega
  have hA1 : a.toInt ≤ 4294967295 := by omega
  have hB0 : 0 ≤ b.toInt := by omega
  have hB1 : b.toInt ≤ 5 - 1 := by omega
  have hAB0 : 0 ≤ a.toInt * b.toInt := Int.mul_nonneg hA0 hB0
  have hAB1 : a.toInt * b.toInt ≤ 4294967295 * (5 - 1) := Int.mul_le_mul hA1 hB1 hB0 (by decide)
  have ht : (a * b).toInt = a.toInt * b.toInt := mul64 (by omega) (by omega)
  unfold fn_p at hr
  generalize hTd : a * b = t at hr ht
  rw [← ht] at hAB0 hAB1
  have h1 := c_l2i t
  have h2 := c_imul t.toInt32 (858993459)
  rw [hN] at h2
  generalize t.toInt32 * (858993459 : Int32) = i at hr h2
  have h3 := c_i2l i
  have h4 := c_maskL i.toInt64 4294967295 32 (by decide) (by decide)
  generalize (i.toInt64 &&& 4294967295) = q at hr h4
  have h5 : (q * 5).toInt = q.toInt * 5 := by rw [mul64 (by rw [hP]; omega) (by rw [hP]; omega), hP]
  generalize q * 5 = qm at hr h5
  have h6 := c_ladd t qm
  have h6' := rng64 (t + qm)
  generalize t + qm = s at hr h6 h6'
  have h7 := c_lushr s 32 32 (by decide) (by decide)
  generalize ((s.toUInt64 >>> ((32 : Int32) &&& 0x3f).toInt64.toUInt64).toInt64) = u at hr h7
  have hs : s.toInt % 18446744073709551616 = t.toInt + q.toInt * 5 := by omega
  rw [hs] at h7
  have hdv : (t.toInt + q.toInt * 5) % 4294967296 = 0 := by omega
  have hu : u.toInt * 4294967296 = t.toInt + q.toInt * 5 := by omega
  have hu1 : 0 ≤ u.toInt ∧ u.toInt < 2 * 5 := by omega
  have h8 : (u - 5).toInt = u.toInt - 5 := by rw [sub64 (by rw [hP]; omega) (by rw [hP]; omega), hP]
  generalize u - 5 = r0 at hr h8
  have h9 := c_lshr r0 63 63 (by decide)
  have hrr : r.toInt * 4294967296 = t.toInt + q.toInt * 5 ∨ r.toInt * 4294967296 = t.toInt + q.toInt * 5 - 5 * 4294967296 := by
    by_cases c : r0.toInt < 0
    · have e1 : (r0 >>> ((63 : Int32) &&& 0x3f).toInt64) = -1 := eq64 (by rw [h9]; omega)
      rw [e1, show ((-1 : Int64) &&& 5) = 5 from by decide] at hr
      have e2 : (r0 + 5).toInt = r0.toInt + 5 := by rw [add64 (by rw [hP]; omega) (by rw [hP]; omega), hP]
      rw [hr] at e2; left; omega
    · have e1 : (r0 >>> ((63 : Int32) &&& 0x3f).toInt64) = 0 := eq64 (by rw [h9]; omega)
      rw [e1, show ((0 : Int64) &&& 5) = 0 from by decide, Int64.add_zero] at hr
      subst hr; right; omega
  have hr0 : 0 ≤ r.toInt ∧ r.toInt < 5 := by
    by_cases c : r0.toInt < 0
    · have e1 : (r0 >>> ((63 : Int32) &&& 0x3f).toInt64) = -1 := eq64 (by rw [h9]; omega)
      rw [e1, show ((-1 : Int64) &&& 5) = 5 from by decide] at hr
      have e2 : (r0 + 5).toInt = r0.toInt + 5 := by rw [add64 (by rw [hP]; omega) (by rw [hP]; omega), hP]
      rw [hr] at e2; omega
    · have e1 : (r0 >>> ((63 : Int32) &&& 0x3f).toInt64) = 0 := eq64 (by rw [h9]; omega)
      rw [e1, show ((0 : Int64) &&& 5) = 0 from by decide, Int64.add_zero] at hr
      subst hr; omega
  refine ⟨nlt64 (by omega), lt64 (by omega), eq64 ?_⟩
  have k1 := c_lshl r 32 32 (by decide)
  have k2 := rng64 (r <<< ((32 : Int32) &&& 0x3f).toInt64)
  generalize (r <<< ((32 : Int32) &&& 0x3f).toInt64) = rs at k1 k2 ⊢
  have k3 : rs.toInt = r.toInt * 4294967296 := by omega
  rw [rem64 hP (by omega), k3]
  have m1 : (a % 5).toInt = a.toInt % 5 := rem64 hP hA0
  have m2 : 0 ≤ a.toInt % 5 := by omega
  have m3 : a.toInt % 5 ≤ 5 - 1 := by omega
  have m4 : 0 ≤ (a.toInt % 5) * b.toInt := Int.mul_nonneg m2 hB0
  have m5 : (a.toInt % 5) * b.toInt ≤ (5 - 1) * (5 - 1) := Int.mul_le_mul m3 hB1 hB0 (by decide)
  have m6 : ((a % 5) * b).toInt = (a.toInt % 5) * b.toInt := by rw [mul64 (by rw [m1]; omega) (by rw [m1]; omega), m1]
  rw [rem64 hP (by omega), m6]
  have m7 : ((a.toInt % 5) * b.toInt) % 5 = (a.toInt * b.toInt) % 5 := by rw [Int.mul_emod, Int.emod_emod, ← Int.mul_emod]
  rw [m7, ← ht]
  rcases hrr with e | e <;> omega
theorem dn998244353_0 : decode prog_9_method_3_code 0 = .ok (.ldc2_w 43, 3) := by decide +kernel
theorem dn998244353_3 : decode prog_9_method_3_code 3 = .ok (.lstore_n 1, 1) := by decide +kernel
theorem dn998244353_4 : decode prog_9_method_3_code 4 = .ok (.aload_n 0, 1) := by decide +kernel
theorem dn998244353_5 : decode prog_9_method_3_code 5 = .ok (.lload_n 1, 1) := by decide +kernel
theorem dn998244353_6 : decode prog_9_method_3_code 6 = .ok (.aload_n 0, 1) := by decide +kernel
theorem dn998244353_7 : decode prog_9_method_3_code 7 = .ok (.getfield 7, 3) := by decide +kernel
theorem dn998244353_10 : decode prog_9_method_3_code 10 = .ok (.lconst 1, 1) := by decide +kernel
theorem dn998244353_11 : decode prog_9_method_3_code 11 = .ok (.lsub, 1) := by decide +kernel
theorem dn998244353_12 : decode prog_9_method_3_code 12 = .ok (.ldc2_w 43, 3) := by decide +kernel
theorem dn998244353_15 : decode prog_9_method_3_code 15 = .ok (.ldiv, 1) := by decide +kernel
theorem dn998244353_16 : decode prog_9_method_3_code 16 = .ok (.invokevirtual 45, 3) := by decide +kernel
theorem dn998244353_19 : decode prog_9_method_3_code 19 = .ok (.aload_n 0, 1) := by decide +kernel
theorem dn998244353_20 : decode prog_9_method_3_code 20 = .ok (.getfield 7, 3) := by decide +kernel
theorem dn998244353_23 : decode prog_9_method_3_code 23 = .ok (.lconst 1, 1) := by decide +kernel
theorem dn998244353_24 : decode prog_9_method_3_code 24 = .ok (.lsub, 1) := by decide +kernel
theorem dn998244353_25 : decode prog_9_method_3_code 25 = .ok (.lcmp, 1) := by decide +kernel
theorem dn998244353_26 : decode prog_9_method_3_code 26 = .ok (.ifCond .eq 10, 3) := by decide +kernel
theorem dn998244353_29 : decode prog_9_method_3_code 29 = .ok (.lload_n 1, 1) := by decide +kernel
theorem dn998244353_30 : decode prog_9_method_3_code 30 = .ok (.lconst 1, 1) := by decide +kernel
theorem dn998244353_31 : decode prog_9_method_3_code 31 = .ok (.ladd, 1) := by decide +kernel
theorem dn998244353_32 : decode prog_9_method_3_code 32 = .ok (.lstore_n 1, 1) := by decide +kernel
theorem dn998244353_33 : decode prog_9_method_3_code 33 = .ok (.goto (-29), 3) := by decide +kernel
theorem dn998244353_36 : decode prog_9_method_3_code 36 = .ok (.lload_n 1, 1) := by decide +kernel
theorem dn998244353_37 : decode prog_9_method_3_code 37 = .ok (.lreturn, 1) := by decide +kernel
theorem ef_n998244353 (a1 : Addr) (m : MethodId) : entryFrame m #[(.ref a1)] 3 = mkF m 0 #[.val (.ref a1), .unset, .unset] [] := by first | (simp [entryFrame, mkF, argsToLocals, Value.category, maxLocals]; done) | rfl
theorem pn_n998244353 : plainFor (⟨"com/example/vary5/vary5/NumberTheoreticTransform", "nonResidue", "()J"⟩ : MethodName) = true := by first | exact plainFor_of_name (by first | (simp [plainName, overriddenIn]; done) | decide +kernel) | decide +kernel
set_option maxRecDepth 65536 in
set_option maxHeartbeats 40000000 in
theorem rm_n998244353 (l : Launch) (Z : State) (a0 : Array Value) (hw : ∀ d ∈ tables_1, d.before a0 Z = true) (a1 : Addr) (h0 : Heap) (E_a1 : Exa Z h0 a1 "com/example/vary5/vary5/NumberTheoreticTransform") (F_modulus_a1 : Fld Z h0 a1 "com/example/vary5/vary5/NumberTheoreticTransform" "modulus" "J" (.long (998244353 : Int64))) :
    Met l Z (⟨"com/example/vary5/vary5/NumberTheoreticTransform", "nonResidue", "()J"⟩ : MethodName) prog_9_method_3_code 3 (some .long) [] ({ frames := 1, cells := 0, slots := 0, locals := 22 } : Room) #[(.ref a1)] [] h0 (fun v h => v = some (.long (3 : Int64))) := by
  refine Met.mk pn_n998244353 (ef_n998244353 a1) ?_
  intro C T hs0 O
  show Go C [] (fun v h => v = some (.long (3 : Int64))) 0 0 (T.setTop (mkF C.m 0 #[.val (.ref a1), .unset, .unset] []))
  refine Jvm.OwnW.ldcL O dn998244353_0 (hw _ (List.mem_of_getElem? (i := 33) rfl)) (q := 3) rfl ?_
  refine Jvm.OwnW.lstoreN O dn998244353_3 (L' := #[.val (.ref a1), .val (.long (2 : Int64)), .second]) rfl (q := 4) rfl ?_
  refine Jvm.OwnW.aloadN O dn998244353_4 rfl rfl (q := 5) rfl ?_
  refine Jvm.OwnW.lloadN O dn998244353_5 rfl (q := 6) rfl ?_
  refine Jvm.OwnW.aloadN O dn998244353_6 rfl rfl (q := 7) rfl ?_
  refine Jvm.OwnW.getF O dn998244353_7 (host := "") (Or.inl (hw _ (List.mem_of_getElem? (i := 9) rfl))) Via.refl F_modulus_a1 (q := 10) rfl ?_
  intro T1 O1
  refine Jvm.OwnW.lconst O1 dn998244353_10 (r := (1 : Int64)) rfl (q := 11) rfl ?_
  refine Jvm.OwnW.lsub O1 dn998244353_11 (r := (998244352 : Int64)) (by decide) (q := 12) rfl ?_
  refine Jvm.OwnW.ldcL O1 dn998244353_12 (hw _ (List.mem_of_getElem? (i := 33) rfl)) (q := 15) rfl ?_
  refine Jvm.OwnW.ldiv O1 dn998244353_15 (by decide) (r := (499122176 : Int64)) (by decide) (q := 16) rfl ?_
  refine Jvm.OwnW.callP0 O1 (y := (⟨"com/example/vary5/vary5/NumberTheoreticTransform", "power", "(JJ)J"⟩ : MethodName)) (a := a1) (argsL := [(.long (2 : Int64)), (.long (499122176 : Int64))]) (rest := []) dn998244353_16 (hw _ (List.mem_of_getElem? (i := 34) rfl)) (hw _ (List.mem_of_getElem? (i := 35) rfl)) (hw _ (List.mem_of_getElem? (i := 36) rfl)) (hw _ (List.mem_of_getElem? (i := 1) rfl)) (hw _ (List.mem_of_getElem? (i := 2) rfl)) (hw _ (List.mem_of_getElem? (i := 37) rfl)) (by decide) (rm_w l Z a0 hw a1 (2 : Int64) (499122176 : Int64) (998244353 : Int64) h0 E_a1 F_modulus_a1 (by decide) (by decide)) E_a1 rfl pd_0 rfl (hst := rfl) (W := 0) (Nat.le_of_eq rfl) (by decide) (by decide) (c2 := 0) (s2 := 0) rfl rfl (by decide) (by decide) rfl rfl (q := 19) rfl ?_
  intro v2 T2 O2 q2
  obtain rfl := q2
  show Go C _ _ _ _ (T2.setTop (mkF C.m 19 #[.val (.ref a1), .val (.long (2 : Int64)), .second] [(.long (own_pw (998244353 : Int64) 31 1 ((2 : Int64) % (998244353 : Int64)) (499122176 : Int64)))]))
  refine Jvm.OwnW.aloadN O2 dn998244353_19 rfl rfl (q := 20) rfl ?_
  refine Jvm.OwnW.getF O2 dn998244353_20 (host := "") (Or.inl (hw _ (List.mem_of_getElem? (i := 9) rfl))) Via.refl F_modulus_a1 (q := 23) rfl ?_
  intro T3 O3
  refine Jvm.OwnW.lconst O3 dn998244353_23 (r := (1 : Int64)) rfl (q := 24) rfl ?_
  refine Jvm.OwnW.lsub O3 dn998244353_24 (r := (998244352 : Int64)) (by decide) (q := 25) rfl ?_
  refine Jvm.OwnW.lcmp O3 dn998244353_25 rfl (q := 26) rfl ?_
  refine Jvm.OwnW.ifNo O3 dn998244353_26 (feqL (show ¬ ((own_pw (998244353 : Int64) 31 1 ((2 : Int64) % (998244353 : Int64)) (499122176 : Int64)) = (998244352 : Int64)) from by decide +kernel)).1 (q := 29) rfl ?_
  refine Jvm.OwnW.lloadN O3 dn998244353_29 rfl (q := 30) rfl ?_
  refine Jvm.OwnW.lconst O3 dn998244353_30 (r := (1 : Int64)) rfl (q := 31) rfl ?_
  refine Jvm.OwnW.ladd O3 dn998244353_31 (r := (3 : Int64)) (by decide) (q := 32) rfl ?_
  refine Jvm.OwnW.lstoreN O3 dn998244353_32 (L' := #[.val (.ref a1), .val (.long (3 : Int64)), .second]) rfl (q := 33) rfl ?_
  refine Jvm.OwnW.goto O3 dn998244353_33 (by decide) (q := 4) rfl ?_
  refine Jvm.OwnW.aloadN O3 dn998244353_4 rfl rfl (q := 5) rfl ?_
  refine Jvm.OwnW.lloadN O3 dn998244353_5 rfl (q := 6) rfl ?_
  refine Jvm.OwnW.aloadN O3 dn998244353_6 rfl rfl (q := 7) rfl ?_
  refine Jvm.OwnW.getF O3 dn998244353_7 (host := "") (Or.inl (hw _ (List.mem_of_getElem? (i := 9) rfl))) Via.refl F_modulus_a1 (q := 10) rfl ?_
  intro T4 O4
  refine Jvm.OwnW.lconst O4 dn998244353_10 (r := (1 : Int64)) rfl (q := 11) rfl ?_
  refine Jvm.OwnW.lsub O4 dn998244353_11 (r := (998244352 : Int64)) (by decide) (q := 12) rfl ?_
  refine Jvm.OwnW.ldcL O4 dn998244353_12 (hw _ (List.mem_of_getElem? (i := 33) rfl)) (q := 15) rfl ?_
  refine Jvm.OwnW.ldiv O4 dn998244353_15 (by decide) (r := (499122176 : Int64)) (by decide) (q := 16) rfl ?_
  refine Jvm.OwnW.callP0 O4 (y := (⟨"com/example/vary5/vary5/NumberTheoreticTransform", "power", "(JJ)J"⟩ : MethodName)) (a := a1) (argsL := [(.long (3 : Int64)), (.long (499122176 : Int64))]) (rest := []) dn998244353_16 (hw _ (List.mem_of_getElem? (i := 34) rfl)) (hw _ (List.mem_of_getElem? (i := 35) rfl)) (hw _ (List.mem_of_getElem? (i := 36) rfl)) (hw _ (List.mem_of_getElem? (i := 1) rfl)) (hw _ (List.mem_of_getElem? (i := 2) rfl)) (hw _ (List.mem_of_getElem? (i := 37) rfl)) (by decide) (rm_w l Z a0 hw a1 (3 : Int64) (499122176 : Int64) (998244353 : Int64) h0 E_a1 F_modulus_a1 (by decide) (by decide)) E_a1 rfl pd_0 rfl (hst := rfl) (W := 0) (Nat.le_of_eq rfl) (by decide) (by decide) (c2 := 0) (s2 := 0) rfl rfl (by decide) (by decide) rfl rfl (q := 19) rfl ?_
  intro v5 T5 O5 q5
  obtain rfl := q5
  show Go C _ _ _ _ (T5.setTop (mkF C.m 19 #[.val (.ref a1), .val (.long (3 : Int64)), .second] [(.long (own_pw (998244353 : Int64) 31 1 ((3 : Int64) % (998244353 : Int64)) (499122176 : Int64)))]))
  refine Jvm.OwnW.aloadN O5 dn998244353_19 rfl rfl (q := 20) rfl ?_
  refine Jvm.OwnW.getF O5 dn998244353_20 (host := "") (Or.inl (hw _ (List.mem_of_getElem? (i := 9) rfl))) Via.refl F_modulus_a1 (q := 23) rfl ?_
  intro T6 O6
  refine Jvm.OwnW.lconst O6 dn998244353_23 (r := (1 : Int64)) rfl (q := 24) rfl ?_
  refine Jvm.OwnW.lsub O6 dn998244353_24 (r := (998244352 : Int64)) (by decide) (q := 25) rfl ?_
  refine Jvm.OwnW.lcmp O6 dn998244353_25 rfl (q := 26) rfl ?_
  refine Jvm.OwnW.ifYes O6 dn998244353_26 (teqL (show (own_pw (998244353 : Int64) 31 1 ((3 : Int64) % (998244353 : Int64)) (499122176 : Int64)) = (998244352 : Int64) from by decide +kernel)).1 (by decide) (q := 36) rfl ?_
  refine Jvm.OwnW.lloadN O6 dn998244353_36 rfl (q := 37) rfl ?_
  exact Jvm.OwnW.retL O6 dn998244353_37 rfl (by decide) (by decide) rfl
theorem df998244353_0 : decode prog_9_method_2_code 0 = .ok (.iload_n 1, 1) := by decide +kernel
theorem df998244353_1 : decode prog_9_method_2_code 1 = .ok (.iconst 2, 1) := by decide +kernel
theorem df998244353_2 : decode prog_9_method_2_code 2 = .ok (.idiv, 1) := by decide +kernel
theorem df998244353_3 : decode prog_9_method_2_code 3 = .ok (.iconst 1, 1) := by decide +kernel
theorem df998244353_4 : decode prog_9_method_2_code 4 = .ok (.invokestatic 22, 3) := by decide +kernel
theorem df998244353_7 : decode prog_9_method_2_code 7 = .ok (.istore_n 2, 1) := by decide +kernel
theorem df998244353_8 : decode prog_9_method_2_code 8 = .ok (.aload_n 0, 1) := by decide +kernel
theorem df998244353_9 : decode prog_9_method_2_code 9 = .ok (.aload_n 0, 1) := by decide +kernel
theorem df998244353_10 : decode prog_9_method_2_code 10 = .ok (.aload_n 0, 1) := by decide +kernel
theorem df998244353_11 : decode prog_9_method_2_code 11 = .ok (.invokevirtual 39, 3) := by decide +kernel
theorem df998244353_14 : decode prog_9_method_2_code 14 = .ok (.aload_n 0, 1) := by decide +kernel
theorem df998244353_15 : decode prog_9_method_2_code 15 = .ok (.getfield 7, 3) := by decide +kernel
theorem df998244353_18 : decode prog_9_method_2_code 18 = .ok (.lconst 1, 1) := by decide +kernel
theorem df998244353_19 : decode prog_9_method_2_code 19 = .ok (.lsub, 1) := by decide +kernel
theorem df998244353_20 : decode prog_9_method_2_code 20 = .ok (.ldc2_w 43, 3) := by decide +kernel
theorem df998244353_23 : decode prog_9_method_2_code 23 = .ok (.iload_n 2, 1) := by decide +kernel
theorem df998244353_24 : decode prog_9_method_2_code 24 = .ok (.i2l, 1) := by decide +kernel
theorem df998244353_25 : decode prog_9_method_2_code 25 = .ok (.lmul, 1) := by decide +kernel
theorem df998244353_26 : decode prog_9_method_2_code 26 = .ok (.ldiv, 1) := by decide +kernel
theorem df998244353_27 : decode prog_9_method_2_code 27 = .ok (.invokevirtual 45, 3) := by decide +kernel
theorem df998244353_30 : decode prog_9_method_2_code 30 = .ok (.invokevirtual 49, 3) := by decide +kernel
theorem df998244353_33 : decode prog_9_method_2_code 33 = .ok (.lstore_n 3, 1) := by decide +kernel
theorem df998244353_34 : decode prog_9_method_2_code 34 = .ok (.aload_n 0, 1) := by decide +kernel
theorem df998244353_35 : decode prog_9_method_2_code 35 = .ok (.lconst 1, 1) := by decide +kernel
theorem df998244353_36 : decode prog_9_method_2_code 36 = .ok (.invokevirtual 49, 3) := by decide +kernel
theorem df998244353_39 : decode prog_9_method_2_code 39 = .ok (.lstore 5, 2) := by decide +kernel
theorem df998244353_41 : decode prog_9_method_2_code 41 = .ok (.iconst 0, 1) := by decide +kernel
theorem df998244353_42 : decode prog_9_method_2_code 42 = .ok (.istore 7, 2) := by decide +kernel
theorem df998244353_44 : decode prog_9_method_2_code 44 = .ok (.iload 7, 2) := by decide +kernel
theorem df998244353_46 : decode prog_9_method_2_code 46 = .ok (.iload_n 2, 1) := by decide +kernel
theorem df998244353_47 : decode prog_9_method_2_code 47 = .ok (.if_icmp .ge 30, 3) := by decide +kernel
theorem df998244353_50 : decode prog_9_method_2_code 50 = .ok (.aload_n 0, 1) := by decide +kernel
theorem df998244353_51 : decode prog_9_method_2_code 51 = .ok (.getfield 28, 3) := by decide +kernel
theorem df998244353_54 : decode prog_9_method_2_code 54 = .ok (.iload_n 2, 1) := by decide +kernel
theorem df998244353_55 : decode prog_9_method_2_code 55 = .ok (.iload 7, 2) := by decide +kernel
theorem df998244353_57 : decode prog_9_method_2_code 57 = .ok (.iadd, 1) := by decide +kernel
theorem df998244353_58 : decode prog_9_method_2_code 58 = .ok (.lload 5, 2) := by decide +kernel
theorem df998244353_60 : decode prog_9_method_2_code 60 = .ok (.l2i, 1) := by decide +kernel
theorem df998244353_61 : decode prog_9_method_2_code 61 = .ok (.iastore, 1) := by decide +kernel
theorem df998244353_62 : decode prog_9_method_2_code 62 = .ok (.aload_n 0, 1) := by decide +kernel
theorem df998244353_63 : decode prog_9_method_2_code 63 = .ok (.lload 5, 2) := by decide +kernel
theorem df998244353_65 : decode prog_9_method_2_code 65 = .ok (.lload_n 3, 1) := by decide +kernel
theorem df998244353_66 : decode prog_9_method_2_code 66 = .ok (.invokevirtual 53, 3) := by decide +kernel
theorem df998244353_69 : decode prog_9_method_2_code 69 = .ok (.lstore 5, 2) := by decide +kernel
theorem df998244353_71 : decode prog_9_method_2_code 71 = .ok (.iinc 7 1, 3) := by decide +kernel
theorem df998244353_74 : decode prog_9_method_2_code 74 = .ok (.goto (-30), 3) := by decide +kernel
theorem df998244353_77 : decode prog_9_method_2_code 77 = .ok (.iload_n 2, 1) := by decide +kernel
theorem df998244353_78 : decode prog_9_method_2_code 78 = .ok (.iconst 2, 1) := by decide +kernel
theorem df998244353_79 : decode prog_9_method_2_code 79 = .ok (.idiv, 1) := by decide +kernel
theorem df998244353_80 : decode prog_9_method_2_code 80 = .ok (.istore 7, 2) := by decide +kernel
theorem df998244353_82 : decode prog_9_method_2_code 82 = .ok (.iload 7, 2) := by decide +kernel
theorem df998244353_84 : decode prog_9_method_2_code 84 = .ok (.iconst 1, 1) := by decide +kernel
theorem df998244353_85 : decode prog_9_method_2_code 85 = .ok (.if_icmp .lt 52, 3) := by decide +kernel
theorem df998244353_137 : decode prog_9_method_2_code 137 = .ok (.iconst 1, 1) := by decide +kernel
theorem df998244353_138 : decode prog_9_method_2_code 138 = .ok (.istore 7, 2) := by decide +kernel
theorem df998244353_140 : decode prog_9_method_2_code 140 = .ok (.iload 7, 2) := by decide +kernel
theorem df998244353_142 : decode prog_9_method_2_code 142 = .ok (.iload_n 2, 1) := by decide +kernel
theorem df998244353_143 : decode prog_9_method_2_code 143 = .ok (.if_icmp .gt 71, 3) := by decide +kernel
theorem df998244353_146 : decode prog_9_method_2_code 146 = .ok (.aload_n 0, 1) := by decide +kernel
theorem df998244353_147 : decode prog_9_method_2_code 147 = .ok (.getfield 32, 3) := by decide +kernel
theorem df998244353_150 : decode prog_9_method_2_code 150 = .ok (.iload 7, 2) := by decide +kernel
theorem df998244353_152 : decode prog_9_method_2_code 152 = .ok (.aload_n 0, 1) := by decide +kernel
theorem df998244353_153 : decode prog_9_method_2_code 153 = .ok (.getfield 28, 3) := by decide +kernel
theorem df998244353_156 : decode prog_9_method_2_code 156 = .ok (.iload 7, 2) := by decide +kernel
theorem df998244353_158 : decode prog_9_method_2_code 158 = .ok (.iaload, 1) := by decide +kernel
theorem df998244353_159 : decode prog_9_method_2_code 159 = .ok (.iastore, 1) := by decide +kernel
theorem df998244353_160 : decode prog_9_method_2_code 160 = .ok (.iconst 1, 1) := by decide +kernel
theorem df998244353_161 : decode prog_9_method_2_code 161 = .ok (.istore 8, 2) := by decide +kernel
theorem df998244353_163 : decode prog_9_method_2_code 163 = .ok (.iload 8, 2) := by decide +kernel
theorem df998244353_165 : decode prog_9_method_2_code 165 = .ok (.iload 7, 2) := by decide +kernel
theorem df998244353_167 : decode prog_9_method_2_code 167 = .ok (.if_icmp .ge 38, 3) := by decide +kernel
theorem df998244353_205 : decode prog_9_method_2_code 205 = .ok (.iload 7, 2) := by decide +kernel
theorem df998244353_207 : decode prog_9_method_2_code 207 = .ok (.iconst 2, 1) := by decide +kernel
theorem df998244353_208 : decode prog_9_method_2_code 208 = .ok (.imul, 1) := by decide +kernel
theorem df998244353_209 : decode prog_9_method_2_code 209 = .ok (.istore 7, 2) := by decide +kernel
theorem df998244353_211 : decode prog_9_method_2_code 211 = .ok (.goto (-71), 3) := by decide +kernel
theorem df998244353_214 : decode prog_9_method_2_code 214 = .ok (.return_, 1) := by decide +kernel
theorem ef_f998244353 (a1 : Addr) (ar ai : Addr) (m : MethodId) : entryFrame m #[(.ref a1), (.int (2 : Int32))] 9 = mkF m 0 #[.val (.ref a1), .val (.int (2 : Int32)), .unset, .unset, .unset, .unset, .unset, .unset, .unset] [] := by first | (simp [entryFrame, mkF, argsToLocals, Value.category, maxLocals]; done) | rfl
theorem pn_f998244353 : plainFor (⟨"com/example/vary5/vary5/NumberTheoreticTransform", "fillRoots", "(I)V"⟩ : MethodName) = true := by first | exact plainFor_of_name (by first | (simp [plainName, overriddenIn]; done) | decide +kernel) | decide +kernel
set_option maxRecDepth 65536 in
set_option maxHeartbeats 40000000 in
theorem rm_f998244353 (l : Launch) (Z : State) (a0 : Array Value) (hw : ∀ d ∈ tables_1, d.before a0 Z = true) (a1 : Addr) (ar ai : Addr) (h0 : Heap) (E_a1 : Exa Z h0 a1 "com/example/vary5/vary5/NumberTheoreticTransform") (F_modulus_a1 : Fld Z h0 a1 "com/example/vary5/vary5/NumberTheoreticTransform" "modulus" "J" (.long (998244353 : Int64))) (F_negatedInverse_a1 : Fld Z h0 a1 "com/example/vary5/vary5/NumberTheoreticTransform" "negatedInverse" "I" (.int (998244351 : Int32))) (F_montgomeryOfR_a1 : Fld Z h0 a1 "com/example/vary5/vary5/NumberTheoreticTransform" "montgomeryOfR" "J" (.long (932051910 : Int64))) (F_roots_a1 : Fld Z h0 a1 "com/example/vary5/vary5/NumberTheoreticTransform" "roots" "[I" (.ref ar)) (F_inverseRoots_a1 : Fld Z h0 a1 "com/example/vary5/vary5/NumberTheoreticTransform" "inverseRoots" "[I" (.ref ai)) (V_ar : Ar Z h0 ar .int 2 (lf [.int 0, .int 0])) (V_ai : Ar Z h0 ai .int 2 (lf [.int 0, .int 0])) (n1r : a1 ≠ ar) (n1i : a1 ≠ ai) (nri : ar ≠ ai) :
    Met l Z (⟨"com/example/vary5/vary5/NumberTheoreticTransform", "fillRoots", "(I)V"⟩ : MethodName) prog_9_method_2_code 9 none [] ({ frames := 2, cells := 0, slots := 0, locals := 38 } : Room) #[(.ref a1), (.int (2 : Int32))] [ar, ai] h0 (fun v h => v = none) := by
  refine Met.mk pn_f998244353 (ef_f998244353 a1 ar ai) ?_
  intro C T hs0 O
  show Go C [ar, ai] (fun v h => v = none) 0 0 (T.setTop (mkF C.m 0 #[.val (.ref a1), .val (.int (2 : Int32)), .unset, .unset, .unset, .unset, .unset, .unset, .unset] []))
  refine Jvm.OwnW.iloadN O df998244353_0 rfl (q := 1) rfl ?_
  refine Jvm.OwnW.iconst O df998244353_1 (r := (2 : Int32)) rfl (q := 2) rfl ?_
  refine Jvm.OwnW.idiv O df998244353_2 (by decide) (r := (1 : Int32)) (by decide) (q := 3) rfl ?_
  refine Jvm.OwnW.iconst O df998244353_3 (r := (1 : Int32)) rfl (q := 4) rfl ?_
  refine Jvm.OwnW.callS0 O (y := (⟨"java/lang/Math", "max", "(II)I"⟩ : MethodName)) (argsL := [(.int (1 : Int32)), (.int (1 : Int32))]) (rest := []) df998244353_4 (hw _ (List.mem_of_getElem? (i := 16) rfl)) (hw _ (List.mem_of_getElem? (i := 17) rfl)) (hw _ (List.mem_of_getElem? (i := 18) rfl)) (hw _ (List.mem_of_getElem? (i := 19) rfl)) (by decide) (rm_m l Z a0 hw (1 : Int32) (1 : Int32) h0) rfl pd_1 rfl (hst := rfl) (W := 0) (Nat.le_of_eq rfl) (by decide) (by decide) (c2 := 0) (s2 := 0) rfl rfl (by decide) (by decide) rfl rfl (q := 7) rfl ?_
  intro v1 T1 O1 q1
  obtain rfl := q1
  rw [show fn_m (1 : Int32) (1 : Int32) = (1 : Int32) from by decide]
  show Go C _ _ _ _ (T1.setTop (mkF C.m 7 #[.val (.ref a1), .val (.int (2 : Int32)), .unset, .unset, .unset, .unset, .unset, .unset, .unset] [(.int (1 : Int32))]))
  refine Jvm.OwnW.istoreN O1 df998244353_7 (L' := #[.val (.ref a1), .val (.int (2 : Int32)), .val (.int (1 : Int32)), .unset, .unset, .unset, .unset, .unset, .unset]) rfl (q := 8) rfl ?_
  refine Jvm.OwnW.aloadN O1 df998244353_8 rfl rfl (q := 9) rfl ?_
  refine Jvm.OwnW.aloadN O1 df998244353_9 rfl rfl (q := 10) rfl ?_
  refine Jvm.OwnW.aloadN O1 df998244353_10 rfl rfl (q := 11) rfl ?_
  refine Jvm.OwnW.callP0 O1 (y := (⟨"com/example/vary5/vary5/NumberTheoreticTransform", "nonResidue", "()J"⟩ : MethodName)) (a := a1) (argsL := []) (rest := [(.ref a1), (.ref a1)]) df998244353_11 (hw _ (List.mem_of_getElem? (i := 29) rfl)) (hw _ (List.mem_of_getElem? (i := 30) rfl)) (hw _ (List.mem_of_getElem? (i := 31) rfl)) (hw _ (List.mem_of_getElem? (i := 1) rfl)) (hw _ (List.mem_of_getElem? (i := 2) rfl)) (hw _ (List.mem_of_getElem? (i := 32) rfl)) (by decide) (rm_n998244353 l Z a0 hw a1 h0 E_a1 F_modulus_a1) E_a1 rfl pd_2 rfl (hst := rfl) (W := 2) (Nat.le_of_eq rfl) (by decide) (by decide) (c2 := 0) (s2 := 0) rfl rfl (by decide) (by decide) rfl rfl (q := 14) rfl ?_
  intro v2 T2 O2 q2
  obtain rfl := q2
  show Go C _ _ _ _ (T2.setTop (mkF C.m 14 #[.val (.ref a1), .val (.int (2 : Int32)), .val (.int (1 : Int32)), .unset, .unset, .unset, .unset, .unset, .unset] [(.long (3 : Int64)), (.ref a1), (.ref a1)]))
  refine Jvm.OwnW.aloadN O2 df998244353_14 rfl rfl (q := 15) rfl ?_
  refine Jvm.OwnW.getF O2 df998244353_15 (host := "") (Or.inl (hw _ (List.mem_of_getElem? (i := 9) rfl))) Via.refl F_modulus_a1 (q := 18) rfl ?_
  intro T3 O3
  refine Jvm.OwnW.lconst O3 df998244353_18 (r := (1 : Int64)) rfl (q := 19) rfl ?_
  refine Jvm.OwnW.lsub O3 df998244353_19 (r := (998244352 : Int64)) (by decide) (q := 20) rfl ?_
  refine Jvm.OwnW.ldcL O3 df998244353_20 (hw _ (List.mem_of_getElem? (i := 33) rfl)) (q := 23) rfl ?_
  refine Jvm.OwnW.iloadN O3 df998244353_23 rfl (q := 24) rfl ?_
  refine Jvm.OwnW.i2l O3 df998244353_24 (r := (1 : Int64)) (by decide) (q := 25) rfl ?_
  refine Jvm.OwnW.lmul O3 df998244353_25 (r := (2 : Int64)) (by decide) (q := 26) rfl ?_
  refine Jvm.OwnW.ldiv O3 df998244353_26 (by decide) (r := (499122176 : Int64)) (by decide) (q := 27) rfl ?_
  refine Jvm.OwnW.callP0 O3 (y := (⟨"com/example/vary5/vary5/NumberTheoreticTransform", "power", "(JJ)J"⟩ : MethodName)) (a := a1) (argsL := [(.long (3 : Int64)), (.long (499122176 : Int64))]) (rest := [(.ref a1)]) df998244353_27 (hw _ (List.mem_of_getElem? (i := 34) rfl)) (hw _ (List.mem_of_getElem? (i := 35) rfl)) (hw _ (List.mem_of_getElem? (i := 36) rfl)) (hw _ (List.mem_of_getElem? (i := 1) rfl)) (hw _ (List.mem_of_getElem? (i := 2) rfl)) (hw _ (List.mem_of_getElem? (i := 37) rfl)) (by decide) (rm_w l Z a0 hw a1 (3 : Int64) (499122176 : Int64) (998244353 : Int64) h0 E_a1 F_modulus_a1 (by decide) (by decide)) E_a1 rfl pd_0 rfl (hst := rfl) (W := 1) (Nat.le_of_eq rfl) (by decide) (by decide) (c2 := 0) (s2 := 0) rfl rfl (by decide) (by decide) rfl rfl (q := 30) rfl ?_
  intro v4 T4 O4 q4
  obtain rfl := q4
  show Go C _ _ _ _ (T4.setTop (mkF C.m 30 #[.val (.ref a1), .val (.int (2 : Int32)), .val (.int (1 : Int32)), .unset, .unset, .unset, .unset, .unset, .unset] [(.long (own_pw (998244353 : Int64) 31 1 ((3 : Int64) % (998244353 : Int64)) (499122176 : Int64))), (.ref a1)]))
  refine Jvm.OwnW.callV0 O4 (y := (⟨"com/example/vary5/vary5/NumberTheoreticTransform", "montgomery", "(J)J"⟩ : MethodName)) (z := (⟨"com/example/vary5/vary5/NumberTheoreticTransform", "montgomery", "(J)J"⟩ : MethodName)) (a := a1) (argsL := [(.long (own_pw (998244353 : Int64) 31 1 ((3 : Int64) % (998244353 : Int64)) (499122176 : Int64)))]) (rest := []) df998244353_30 (hw _ (List.mem_of_getElem? (i := 38) rfl)) (hw _ (List.mem_of_getElem? (i := 39) rfl)) (hw _ (List.mem_of_getElem? (i := 41) rfl)) rfl (hw _ (List.mem_of_getElem? (i := 40) rfl)) (hw _ (List.mem_of_getElem? (i := 2) rfl)) (hw _ (List.mem_of_getElem? (i := 42) rfl)) (by decide) (rm_g l Z a0 hw a1 (own_pw (998244353 : Int64) 31 1 ((3 : Int64) % (998244353 : Int64)) (499122176 : Int64)) (998244353 : Int64) (998244351 : Int32) (932051910 : Int64) h0 E_a1 F_modulus_a1 F_negatedInverse_a1 F_montgomeryOfR_a1) E_a1 rfl pd_3 rfl (hst := rfl) (W := 0) (Nat.le_of_eq rfl) (by decide) (by decide) (c2 := 0) (s2 := 0) rfl rfl (by decide) (by decide) rfl rfl (q := 33) rfl ?_
  intro v5 T5 O5 q5
  obtain ⟨zg6, rfl⟩ := q5
  show Go C _ _ _ _ (T5.setTop (mkF C.m 33 #[.val (.ref a1), .val (.int (2 : Int32)), .val (.int (1 : Int32)), .unset, .unset, .unset, .unset, .unset, .unset] [(.long zg6)]))
  refine Jvm.OwnW.lstoreN O5 df998244353_33 (L' := #[.val (.ref a1), .val (.int (2 : Int32)), .val (.int (1 : Int32)), .val (.long zg6), .second, .unset, .unset, .unset, .unset]) rfl (q := 34) rfl ?_
  refine Jvm.OwnW.aloadN O5 df998244353_34 rfl rfl (q := 35) rfl ?_
  refine Jvm.OwnW.lconst O5 df998244353_35 (r := (1 : Int64)) rfl (q := 36) rfl ?_
  refine Jvm.OwnW.callV0 O5 (y := (⟨"com/example/vary5/vary5/NumberTheoreticTransform", "montgomery", "(J)J"⟩ : MethodName)) (z := (⟨"com/example/vary5/vary5/NumberTheoreticTransform", "montgomery", "(J)J"⟩ : MethodName)) (a := a1) (argsL := [(.long (1 : Int64))]) (rest := []) df998244353_36 (hw _ (List.mem_of_getElem? (i := 38) rfl)) (hw _ (List.mem_of_getElem? (i := 39) rfl)) (hw _ (List.mem_of_getElem? (i := 41) rfl)) rfl (hw _ (List.mem_of_getElem? (i := 40) rfl)) (hw _ (List.mem_of_getElem? (i := 2) rfl)) (hw _ (List.mem_of_getElem? (i := 42) rfl)) (by decide) (rm_g l Z a0 hw a1 (1 : Int64) (998244353 : Int64) (998244351 : Int32) (932051910 : Int64) h0 E_a1 F_modulus_a1 F_negatedInverse_a1 F_montgomeryOfR_a1) E_a1 rfl pd_3 rfl (hst := rfl) (W := 0) (Nat.le_of_eq rfl) (by decide) (by decide) (c2 := 0) (s2 := 0) rfl rfl (by decide) (by decide) rfl rfl (q := 39) rfl ?_
  intro v7 T7 O7 q7
  obtain ⟨zg8, rfl⟩ := q7
  show Go C _ _ _ _ (T7.setTop (mkF C.m 39 #[.val (.ref a1), .val (.int (2 : Int32)), .val (.int (1 : Int32)), .val (.long zg6), .second, .unset, .unset, .unset, .unset] [(.long zg8)]))
  refine Jvm.OwnW.lstore O7 df998244353_39 (L' := #[.val (.ref a1), .val (.int (2 : Int32)), .val (.int (1 : Int32)), .val (.long zg6), .second, .val (.long zg8), .second, .unset, .unset]) rfl (q := 41) rfl ?_
  refine Jvm.OwnW.iconst O7 df998244353_41 (r := (0 : Int32)) rfl (q := 42) rfl ?_
  refine Jvm.OwnW.istore O7 df998244353_42 (L' := #[.val (.ref a1), .val (.int (2 : Int32)), .val (.int (1 : Int32)), .val (.long zg6), .second, .val (.long zg8), .second, .val (.int (0 : Int32)), .unset]) rfl (q := 44) rfl ?_
  refine Jvm.OwnW.iload O7 df998244353_44 rfl (q := 46) rfl ?_
  refine Jvm.OwnW.iloadN O7 df998244353_46 rfl (q := 47) rfl ?_
  refine Jvm.OwnW.icmpNo O7 df998244353_47 (tlt (show (0 : Int32) < (1 : Int32) from (by decide))).2.1 (q := 50) rfl ?_
  refine Jvm.OwnW.aloadN O7 df998244353_50 rfl rfl (q := 51) rfl ?_
  refine Jvm.OwnW.getF O7 df998244353_51 (host := "") (Or.inl (hw _ (List.mem_of_getElem? (i := 21) rfl))) Via.refl F_roots_a1 (q := 54) rfl ?_
  intro T9 O9
  refine Jvm.OwnW.iloadN O9 df998244353_54 rfl (q := 55) rfl ?_
  refine Jvm.OwnW.iload O9 df998244353_55 rfl (q := 57) rfl ?_
  refine Jvm.OwnW.iadd O9 df998244353_57 (r := (1 : Int32)) (by decide) (q := 58) rfl ?_
  refine Jvm.OwnW.lload O9 df998244353_58 rfl (q := 60) rfl ?_
  refine Jvm.OwnW.l2i O9 df998244353_60 rfl (q := 61) rfl ?_
  refine Jvm.OwnW.iasA O9 df998244353_61 V_ar (i := 1) rfl (by decide) (Or.inl (List.mem_cons_self ..)) (q := 62) rfl ?_
  intro T10 h10 O10 W10
  have V_ar : Ar Z h10 ar .int 2 (lf [(.int (0 : Int32)), (.int zg8.toInt32)]) := V_ar.setL W10 (by decide) (Nat.le_of_ble_eq_true rfl)
  have E_a1 := E_a1.wr W10
  have F_modulus_a1 := F_modulus_a1.other W10 (Or.inl n1r)
  have F_negatedInverse_a1 := F_negatedInverse_a1.other W10 (Or.inl n1r)
  have F_montgomeryOfR_a1 := F_montgomeryOfR_a1.other W10 (Or.inl n1r)
  have F_roots_a1 := F_roots_a1.other W10 (Or.inl n1r)
  have F_inverseRoots_a1 := F_inverseRoots_a1.other W10 (Or.inl n1r)
  have V_ai := V_ai.other W10 (Ne.symm nri)
  refine Jvm.OwnW.aloadN O10 df998244353_62 rfl rfl (q := 63) rfl ?_
  refine Jvm.OwnW.lload O10 df998244353_63 rfl (q := 65) rfl ?_
  refine Jvm.OwnW.lloadN O10 df998244353_65 rfl (q := 66) rfl ?_
  refine Jvm.OwnW.callV0 O10 (y := (⟨"com/example/vary5/vary5/NumberTheoreticTransform", "product", "(JJ)J"⟩ : MethodName)) (z := (⟨"com/example/vary5/vary5/NumberTheoreticTransform", "product", "(JJ)J"⟩ : MethodName)) (a := a1) (argsL := [(.long zg8), (.long zg6)]) (rest := []) df998244353_66 (hw _ (List.mem_of_getElem? (i := 43) rfl)) (hw _ (List.mem_of_getElem? (i := 44) rfl)) (hw _ (List.mem_of_getElem? (i := 46) rfl)) rfl (hw _ (List.mem_of_getElem? (i := 45) rfl)) (hw _ (List.mem_of_getElem? (i := 2) rfl)) (hw _ (List.mem_of_getElem? (i := 47) rfl)) (by decide) (rm_p l Z a0 hw a1 zg8 zg6 (998244353 : Int64) (998244351 : Int32) h10 E_a1 F_modulus_a1 F_negatedInverse_a1) E_a1 rfl pd_0 rfl (hst := rfl) (W := 0) (Nat.le_of_eq rfl) (by decide) (by decide) (c2 := 0) (s2 := 0) rfl rfl (by decide) (by decide) rfl rfl (q := 69) rfl ?_
  intro v11 T11 O11 q11
  obtain rfl := q11
  show Go C _ _ _ _ (T11.setTop (mkF C.m 69 #[.val (.ref a1), .val (.int (2 : Int32)), .val (.int (1 : Int32)), .val (.long zg6), .second, .val (.long zg8), .second, .val (.int (0 : Int32)), .unset] [(.long (fn_p zg8 zg6 (998244353 : Int64) (998244351 : Int32)))]))
  refine Jvm.OwnW.lstore O11 df998244353_69 (L' := #[.val (.ref a1), .val (.int (2 : Int32)), .val (.int (1 : Int32)), .val (.long zg6), .second, .val (.long (fn_p zg8 zg6 (998244353 : Int64) (998244351 : Int32))), .second, .val (.int (0 : Int32)), .unset]) rfl (q := 71) rfl ?_
  refine Jvm.OwnW.iinc O11 df998244353_71 rfl (L' := #[.val (.ref a1), .val (.int (2 : Int32)), .val (.int (1 : Int32)), .val (.long zg6), .second, .val (.long (fn_p zg8 zg6 (998244353 : Int64) (998244351 : Int32))), .second, .val (.int (1 : Int32)), .unset]) rfl (q := 74) rfl ?_
  refine Jvm.OwnW.goto O11 df998244353_74 (by decide) (q := 44) rfl ?_
  refine Jvm.OwnW.iload O11 df998244353_44 rfl (q := 46) rfl ?_
  refine Jvm.OwnW.iloadN O11 df998244353_46 rfl (q := 47) rfl ?_
  refine Jvm.OwnW.icmpYes O11 df998244353_47 (flt (show ¬ ((1 : Int32) < (1 : Int32)) from (by decide))).2.1 (by decide) (q := 77) rfl ?_
  refine Jvm.OwnW.iloadN O11 df998244353_77 rfl (q := 78) rfl ?_
  refine Jvm.OwnW.iconst O11 df998244353_78 (r := (2 : Int32)) rfl (q := 79) rfl ?_
  refine Jvm.OwnW.idiv O11 df998244353_79 (by decide) (r := (0 : Int32)) (by decide) (q := 80) rfl ?_
  refine Jvm.OwnW.istore O11 df998244353_80 (L' := #[.val (.ref a1), .val (.int (2 : Int32)), .val (.int (1 : Int32)), .val (.long zg6), .second, .val (.long (fn_p zg8 zg6 (998244353 : Int64) (998244351 : Int32))), .second, .val (.int (0 : Int32)), .unset]) rfl (q := 82) rfl ?_
  refine Jvm.OwnW.iload O11 df998244353_82 rfl (q := 84) rfl ?_
  refine Jvm.OwnW.iconst O11 df998244353_84 (r := (1 : Int32)) rfl (q := 85) rfl ?_
  refine Jvm.OwnW.icmpYes O11 df998244353_85 (tlt (show (0 : Int32) < (1 : Int32) from (by decide))).1 (by decide) (q := 137) rfl ?_
  refine Jvm.OwnW.iconst O11 df998244353_137 (r := (1 : Int32)) rfl (q := 138) rfl ?_
  refine Jvm.OwnW.istore O11 df998244353_138 (L' := #[.val (.ref a1), .val (.int (2 : Int32)), .val (.int (1 : Int32)), .val (.long zg6), .second, .val (.long (fn_p zg8 zg6 (998244353 : Int64) (998244351 : Int32))), .second, .val (.int (1 : Int32)), .unset]) rfl (q := 140) rfl ?_
  refine Jvm.OwnW.iload O11 df998244353_140 rfl (q := 142) rfl ?_
  refine Jvm.OwnW.iloadN O11 df998244353_142 rfl (q := 143) rfl ?_
  refine Jvm.OwnW.icmpNo O11 df998244353_143 (flt (show ¬ ((1 : Int32) < (1 : Int32)) from (by decide))).2.2.1 (q := 146) rfl ?_
  refine Jvm.OwnW.aloadN O11 df998244353_146 rfl rfl (q := 147) rfl ?_
  refine Jvm.OwnW.getF O11 df998244353_147 (host := "") (Or.inl (hw _ (List.mem_of_getElem? (i := 23) rfl))) Via.refl F_inverseRoots_a1 (q := 150) rfl ?_
  intro T12 O12
  refine Jvm.OwnW.iload O12 df998244353_150 rfl (q := 152) rfl ?_
  refine Jvm.OwnW.aloadN O12 df998244353_152 rfl rfl (q := 153) rfl ?_
  refine Jvm.OwnW.getF O12 df998244353_153 (host := "") (Or.inl (hw _ (List.mem_of_getElem? (i := 21) rfl))) Via.refl F_roots_a1 (q := 156) rfl ?_
  intro T13 O13
  refine Jvm.OwnW.iload O13 df998244353_156 rfl (q := 158) rfl ?_
  refine Jvm.OwnW.ialA O13 df998244353_158 V_ar (i := 1) rfl (by decide) (v := (.int zg8.toInt32)) rfl (q := 159) rfl ?_
  refine Jvm.OwnW.iasA O13 df998244353_159 V_ai (i := 1) rfl (by decide) (Or.inl (List.mem_cons_of_mem _ (List.mem_cons_self ..))) (q := 160) rfl ?_
  intro T14 h14 O14 W14
  have V_ai : Ar Z h14 ai .int 2 (lf [(.int (0 : Int32)), (.int zg8.toInt32)]) := V_ai.setL W14 (by decide) (Nat.le_of_ble_eq_true rfl)
  have E_a1 := E_a1.wr W14
  have F_modulus_a1 := F_modulus_a1.other W14 (Or.inl n1i)
  have F_negatedInverse_a1 := F_negatedInverse_a1.other W14 (Or.inl n1i)
  have F_montgomeryOfR_a1 := F_montgomeryOfR_a1.other W14 (Or.inl n1i)
  have F_roots_a1 := F_roots_a1.other W14 (Or.inl n1i)
  have F_inverseRoots_a1 := F_inverseRoots_a1.other W14 (Or.inl n1i)
  have V_ar := V_ar.other W14 nri
  refine Jvm.OwnW.iconst O14 df998244353_160 (r := (1 : Int32)) rfl (q := 161) rfl ?_
  refine Jvm.OwnW.istore O14 df998244353_161 (L' := #[.val (.ref a1), .val (.int (2 : Int32)), .val (.int (1 : Int32)), .val (.long zg6), .second, .val (.long (fn_p zg8 zg6 (998244353 : Int64) (998244351 : Int32))), .second, .val (.int (1 : Int32)), .val (.int (1 : Int32))]) rfl (q := 163) rfl ?_
  refine Jvm.OwnW.iload O14 df998244353_163 rfl (q := 165) rfl ?_
  refine Jvm.OwnW.iload O14 df998244353_165 rfl (q := 167) rfl ?_
  refine Jvm.OwnW.icmpYes O14 df998244353_167 (flt (show ¬ ((1 : Int32) < (1 : Int32)) from (by decide))).2.1 (by decide) (q := 205) rfl ?_
  refine Jvm.OwnW.iload O14 df998244353_205 rfl (q := 207) rfl ?_
  refine Jvm.OwnW.iconst O14 df998244353_207 (r := (2 : Int32)) rfl (q := 208) rfl ?_
  refine Jvm.OwnW.imul O14 df998244353_208 (r := (2 : Int32)) (by decide) (q := 209) rfl ?_
  refine Jvm.OwnW.istore O14 df998244353_209 (L' := #[.val (.ref a1), .val (.int (2 : Int32)), .val (.int (1 : Int32)), .val (.long zg6), .second, .val (.long (fn_p zg8 zg6 (998244353 : Int64) (998244351 : Int32))), .second, .val (.int (2 : Int32)), .val (.int (1 : Int32))]) rfl (q := 211) rfl ?_
  refine Jvm.OwnW.goto O14 df998244353_211 (by decide) (q := 140) rfl ?_
  refine Jvm.OwnW.iload O14 df998244353_140 rfl (q := 142) rfl ?_
  refine Jvm.OwnW.iloadN O14 df998244353_142 rfl (q := 143) rfl ?_
  refine Jvm.OwnW.icmpYes O14 df998244353_143 (tlt (show (1 : Int32) < (2 : Int32) from (by decide))).2.2.1 (by decide) (q := 214) rfl ?_
  exact Jvm.OwnW.ret0 O14 df998244353_214 (by decide) (by decide) rfl
theorem di998244353_0 : decode prog_9_method_1_code 0 = .ok (.aload_n 0, 1) := by decide +kernel
theorem di998244353_1 : decode prog_9_method_1_code 1 = .ok (.invokespecial 1, 3) := by decide +kernel
theorem di998244353_4 : decode prog_9_method_1_code 4 = .ok (.aload_n 0, 1) := by decide +kernel
theorem di998244353_5 : decode prog_9_method_1_code 5 = .ok (.iload_n 1, 1) := by decide +kernel
theorem di998244353_6 : decode prog_9_method_1_code 6 = .ok (.i2l, 1) := by decide +kernel
theorem di998244353_7 : decode prog_9_method_1_code 7 = .ok (.putfield 7, 3) := by decide +kernel
theorem di998244353_10 : decode prog_9_method_1_code 10 = .ok (.iload_n 1, 1) := by decide +kernel
theorem di998244353_11 : decode prog_9_method_1_code 11 = .ok (.istore_n 3, 1) := by decide +kernel
theorem di998244353_12 : decode prog_9_method_1_code 12 = .ok (.iconst 0, 1) := by decide +kernel
theorem di998244353_13 : decode prog_9_method_1_code 13 = .ok (.istore 4, 2) := by decide +kernel
theorem di998244353_15 : decode prog_9_method_1_code 15 = .ok (.iload 4, 2) := by decide +kernel
theorem di998244353_17 : decode prog_9_method_1_code 17 = .ok (.iconst 4, 1) := by decide +kernel
theorem di998244353_18 : decode prog_9_method_1_code 18 = .ok (.if_icmp .ge 17, 3) := by decide +kernel
theorem di998244353_21 : decode prog_9_method_1_code 21 = .ok (.iload_n 3, 1) := by decide +kernel
theorem di998244353_22 : decode prog_9_method_1_code 22 = .ok (.iconst 2, 1) := by decide +kernel
theorem di998244353_23 : decode prog_9_method_1_code 23 = .ok (.iload_n 1, 1) := by decide +kernel
theorem di998244353_24 : decode prog_9_method_1_code 24 = .ok (.iload_n 3, 1) := by decide +kernel
theorem di998244353_25 : decode prog_9_method_1_code 25 = .ok (.imul, 1) := by decide +kernel
theorem di998244353_26 : decode prog_9_method_1_code 26 = .ok (.isub, 1) := by decide +kernel
theorem di998244353_27 : decode prog_9_method_1_code 27 = .ok (.imul, 1) := by decide +kernel
theorem di998244353_28 : decode prog_9_method_1_code 28 = .ok (.istore_n 3, 1) := by decide +kernel
theorem di998244353_29 : decode prog_9_method_1_code 29 = .ok (.iinc 4 1, 3) := by decide +kernel
theorem di998244353_32 : decode prog_9_method_1_code 32 = .ok (.goto (-17), 3) := by decide +kernel
theorem di998244353_35 : decode prog_9_method_1_code 35 = .ok (.aload_n 0, 1) := by decide +kernel
theorem di998244353_36 : decode prog_9_method_1_code 36 = .ok (.iload_n 3, 1) := by decide +kernel
theorem di998244353_37 : decode prog_9_method_1_code 37 = .ok (.ineg, 1) := by decide +kernel
theorem di998244353_38 : decode prog_9_method_1_code 38 = .ok (.putfield 13, 3) := by decide +kernel
theorem di998244353_41 : decode prog_9_method_1_code 41 = .ok (.ldc2_w 17, 3) := by decide +kernel
theorem di998244353_44 : decode prog_9_method_1_code 44 = .ok (.iload_n 1, 1) := by decide +kernel
theorem di998244353_45 : decode prog_9_method_1_code 45 = .ok (.i2l, 1) := by decide +kernel
theorem di998244353_46 : decode prog_9_method_1_code 46 = .ok (.lrem, 1) := by decide +kernel
theorem di998244353_47 : decode prog_9_method_1_code 47 = .ok (.lstore 4, 2) := by decide +kernel
theorem di998244353_49 : decode prog_9_method_1_code 49 = .ok (.aload_n 0, 1) := by decide +kernel
theorem di998244353_50 : decode prog_9_method_1_code 50 = .ok (.lload 4, 2) := by decide +kernel
theorem di998244353_52 : decode prog_9_method_1_code 52 = .ok (.lload 4, 2) := by decide +kernel
theorem di998244353_54 : decode prog_9_method_1_code 54 = .ok (.lmul, 1) := by decide +kernel
theorem di998244353_55 : decode prog_9_method_1_code 55 = .ok (.iload_n 1, 1) := by decide +kernel
theorem di998244353_56 : decode prog_9_method_1_code 56 = .ok (.i2l, 1) := by decide +kernel
theorem di998244353_57 : decode prog_9_method_1_code 57 = .ok (.lrem, 1) := by decide +kernel
theorem di998244353_58 : decode prog_9_method_1_code 58 = .ok (.putfield 19, 3) := by decide +kernel
theorem di998244353_61 : decode prog_9_method_1_code 61 = .ok (.aload_n 0, 1) := by decide +kernel
theorem di998244353_62 : decode prog_9_method_1_code 62 = .ok (.iload_n 2, 1) := by decide +kernel
theorem di998244353_63 : decode prog_9_method_1_code 63 = .ok (.iconst 2, 1) := by decide +kernel
theorem di998244353_64 : decode prog_9_method_1_code 64 = .ok (.invokestatic 22, 3) := by decide +kernel
theorem di998244353_67 : decode prog_9_method_1_code 67 = .ok (.newarray .int, 2) := by decide +kernel
theorem di998244353_69 : decode prog_9_method_1_code 69 = .ok (.putfield 28, 3) := by decide +kernel
theorem di998244353_72 : decode prog_9_method_1_code 72 = .ok (.aload_n 0, 1) := by decide +kernel
theorem di998244353_73 : decode prog_9_method_1_code 73 = .ok (.aload_n 0, 1) := by decide +kernel
theorem di998244353_74 : decode prog_9_method_1_code 74 = .ok (.getfield 28, 3) := by decide +kernel
theorem di998244353_77 : decode prog_9_method_1_code 77 = .ok (.arraylength, 1) := by decide +kernel
theorem di998244353_78 : decode prog_9_method_1_code 78 = .ok (.newarray .int, 2) := by decide +kernel
theorem di998244353_80 : decode prog_9_method_1_code 80 = .ok (.putfield 32, 3) := by decide +kernel
theorem di998244353_83 : decode prog_9_method_1_code 83 = .ok (.aload_n 0, 1) := by decide +kernel
theorem di998244353_84 : decode prog_9_method_1_code 84 = .ok (.iload_n 2, 1) := by decide +kernel
theorem di998244353_85 : decode prog_9_method_1_code 85 = .ok (.invokevirtual 35, 3) := by decide +kernel
theorem di998244353_88 : decode prog_9_method_1_code 88 = .ok (.return_, 1) := by decide +kernel
theorem ef_i998244353 (a1 : Addr) (m : MethodId) : entryFrame m #[(.ref a1), (.int (998244353 : Int32)), (.int (2 : Int32))] 6 = mkF m 0 #[.val (.ref a1), .val (.int (998244353 : Int32)), .val (.int (2 : Int32)), .unset, .unset, .unset] [] := by first | (simp [entryFrame, mkF, argsToLocals, Value.category, maxLocals]; done) | rfl
theorem pn_i998244353 : plainFor (⟨"com/example/vary5/vary5/NumberTheoreticTransform", "<init>", "(II)V"⟩ : MethodName) = true := by first | exact plainFor_of_name (by first | (simp [plainName, overriddenIn]; done) | decide +kernel) | decide +kernel
set_option maxRecDepth 65536 in
set_option maxHeartbeats 40000000 in
theorem rm_i998244353 (l : Launch) (Z : State) (a0 : Array Value) (hw : ∀ d ∈ tables_1, d.before a0 Z = true) (a1 : Addr) (h0 : Heap) (E_a1 : Exa Z h0 a1 "com/example/vary5/vary5/NumberTheoreticTransform") (F_modulus_a1 : Fld Z h0 a1 "com/example/vary5/vary5/NumberTheoreticTransform" "modulus" "J" (.long (0 : Int64))) (F_negatedInverse_a1 : Fld Z h0 a1 "com/example/vary5/vary5/NumberTheoreticTransform" "negatedInverse" "I" (.int (0 : Int32))) (F_montgomeryOfR_a1 : Fld Z h0 a1 "com/example/vary5/vary5/NumberTheoreticTransform" "montgomeryOfR" "J" (.long (0 : Int64))) (F_roots_a1 : Fld Z h0 a1 "com/example/vary5/vary5/NumberTheoreticTransform" "roots" "[I" .null) (F_inverseRoots_a1 : Fld Z h0 a1 "com/example/vary5/vary5/NumberTheoreticTransform" "inverseRoots" "[I" .null) :
    Met l Z (⟨"com/example/vary5/vary5/NumberTheoreticTransform", "<init>", "(II)V"⟩ : MethodName) prog_9_method_1_code 6 none [] ({ frames := 3, cells := 2, slots := 4, locals := 58 } : Room) #[(.ref a1), (.int (998244353 : Int32)), (.int (2 : Int32))] [a1] h0 (fun v h => v = none ∧ Fld Z h a1 "com/example/vary5/vary5/NumberTheoreticTransform" "modulus" "J" (.long (998244353 : Int64)) ∧ Fld Z h a1 "com/example/vary5/vary5/NumberTheoreticTransform" "negatedInverse" "I" (.int (998244351 : Int32))) := by
  refine Met.mk pn_i998244353 (ef_i998244353 a1) ?_
  intro C T hs0 O
  show Go C [a1] (fun v h => v = none ∧ Fld Z h a1 "com/example/vary5/vary5/NumberTheoreticTransform" "modulus" "J" (.long (998244353 : Int64)) ∧ Fld Z h a1 "com/example/vary5/vary5/NumberTheoreticTransform" "negatedInverse" "I" (.int (998244351 : Int32))) 2 4 (T.setTop (mkF C.m 0 #[.val (.ref a1), .val (.int (998244353 : Int32)), .val (.int (2 : Int32)), .unset, .unset, .unset] []))
  refine Jvm.OwnW.aloadN O di998244353_0 rfl rfl (q := 1) rfl ?_
  refine Jvm.OwnW.initO O di998244353_1 (hw _ (List.mem_of_getElem? (i := 6) rfl)) (hw _ (List.mem_of_getElem? (i := 7) rfl)) (hw _ (List.mem_of_getElem? (i := 8) rfl)) rfl (by decide) (W := 0) (Nat.le_of_eq rfl) (by decide) (q := 4) rfl ?_
  intro T1 O1
  refine Jvm.OwnW.aloadN O1 di998244353_4 rfl rfl (q := 5) rfl ?_
  refine Jvm.OwnW.iloadN O1 di998244353_5 rfl (q := 6) rfl ?_
  refine Jvm.OwnW.i2l O1 di998244353_6 (r := (998244353 : Int64)) (by decide) (q := 7) rfl ?_
  refine Jvm.OwnW.putF O1 di998244353_7 (host := "") (Or.inl (hw _ (List.mem_of_getElem? (i := 9) rfl))) Via.refl F_modulus_a1 E_a1 (Or.inr ⟨hw _ (List.mem_of_getElem? (i := 10) rfl), rfl, rfl⟩) (hw _ (List.mem_of_getElem? (i := 1) rfl)) (ty := .long) (by decide) rfl rfl (Or.inl (List.mem_cons_self ..)) (q := 10) rfl ?_
  intro T2 h2 O2 W2
  have E_a1 := E_a1.wr W2
  have F_modulus_a1 := F_modulus_a1.same W2
  have F_negatedInverse_a1 := F_negatedInverse_a1.other W2 (Or.inr (slot_ne (Or.inr (hw _ (List.mem_of_getElem? (i := 12) rfl))) (Or.inr (hw _ (List.mem_of_getElem? (i := 10) rfl))) (by decide) (t := .int) (t' := .long) (by decide) (by decide)))
  have F_montgomeryOfR_a1 := F_montgomeryOfR_a1.other W2 (Or.inr (slot_ne (Or.inr (hw _ (List.mem_of_getElem? (i := 15) rfl))) (Or.inr (hw _ (List.mem_of_getElem? (i := 10) rfl))) (by decide) (t := .long) (t' := .long) (by decide) (by decide)))
  have F_roots_a1 := F_roots_a1.other W2 (Or.inr (slot_ne (Or.inr (hw _ (List.mem_of_getElem? (i := 22) rfl))) (Or.inr (hw _ (List.mem_of_getElem? (i := 10) rfl))) (by decide) (t := (.array .int)) (t' := .long) (by decide) (by decide)))
  have F_inverseRoots_a1 := F_inverseRoots_a1.other W2 (Or.inr (slot_ne (Or.inr (hw _ (List.mem_of_getElem? (i := 24) rfl))) (Or.inr (hw _ (List.mem_of_getElem? (i := 10) rfl))) (by decide) (t := (.array .int)) (t' := .long) (by decide) (by decide)))
  refine Jvm.OwnW.iloadN O2 di998244353_10 rfl (q := 11) rfl ?_
  refine Jvm.OwnW.istoreN O2 di998244353_11 (L' := #[.val (.ref a1), .val (.int (998244353 : Int32)), .val (.int (2 : Int32)), .val (.int (998244353 : Int32)), .unset, .unset]) rfl (q := 12) rfl ?_
  refine Jvm.OwnW.iconst O2 di998244353_12 (r := (0 : Int32)) rfl (q := 13) rfl ?_
  refine Jvm.OwnW.istore O2 di998244353_13 (L' := #[.val (.ref a1), .val (.int (998244353 : Int32)), .val (.int (2 : Int32)), .val (.int (998244353 : Int32)), .val (.int (0 : Int32)), .unset]) rfl (q := 15) rfl ?_
  refine Jvm.OwnW.iload O2 di998244353_15 rfl (q := 17) rfl ?_
  refine Jvm.OwnW.iconst O2 di998244353_17 (r := (4 : Int32)) rfl (q := 18) rfl ?_
  refine Jvm.OwnW.icmpNo O2 di998244353_18 (tlt (show (0 : Int32) < (4 : Int32) from (by decide))).2.1 (q := 21) rfl ?_
  refine Jvm.OwnW.iloadN O2 di998244353_21 rfl (q := 22) rfl ?_
  refine Jvm.OwnW.iconst O2 di998244353_22 (r := (2 : Int32)) rfl (q := 23) rfl ?_
  refine Jvm.OwnW.iloadN O2 di998244353_23 rfl (q := 24) rfl ?_
  refine Jvm.OwnW.iloadN O2 di998244353_24 rfl (q := 25) rfl ?_
  refine Jvm.OwnW.imul O2 di998244353_25 (r := (1996488705 : Int32)) (by decide) (q := 26) rfl ?_
  refine Jvm.OwnW.isub O2 di998244353_26 (r := (-1996488703 : Int32)) (by decide) (q := 27) rfl ?_
  refine Jvm.OwnW.imul O2 di998244353_27 (r := (-998244351 : Int32)) (by decide) (q := 28) rfl ?_
  refine Jvm.OwnW.istoreN O2 di998244353_28 (L' := #[.val (.ref a1), .val (.int (998244353 : Int32)), .val (.int (2 : Int32)), .val (.int (-998244351 : Int32)), .val (.int (0 : Int32)), .unset]) rfl (q := 29) rfl ?_
  refine Jvm.OwnW.iinc O2 di998244353_29 rfl (L' := #[.val (.ref a1), .val (.int (998244353 : Int32)), .val (.int (2 : Int32)), .val (.int (-998244351 : Int32)), .val (.int (1 : Int32)), .unset]) rfl (q := 32) rfl ?_
  refine Jvm.OwnW.goto O2 di998244353_32 (by decide) (q := 15) rfl ?_
  refine Jvm.OwnW.iload O2 di998244353_15 rfl (q := 17) rfl ?_
  refine Jvm.OwnW.iconst O2 di998244353_17 (r := (4 : Int32)) rfl (q := 18) rfl ?_
  refine Jvm.OwnW.icmpNo O2 di998244353_18 (tlt (show (1 : Int32) < (4 : Int32) from (by decide))).2.1 (q := 21) rfl ?_
  refine Jvm.OwnW.iloadN O2 di998244353_21 rfl (q := 22) rfl ?_
  refine Jvm.OwnW.iconst O2 di998244353_22 (r := (2 : Int32)) rfl (q := 23) rfl ?_
  refine Jvm.OwnW.iloadN O2 di998244353_23 rfl (q := 24) rfl ?_
  refine Jvm.OwnW.iloadN O2 di998244353_24 rfl (q := 25) rfl ?_
  refine Jvm.OwnW.imul O2 di998244353_25 (r := (1 : Int32)) (by decide) (q := 26) rfl ?_
  refine Jvm.OwnW.isub O2 di998244353_26 (r := (1 : Int32)) (by decide) (q := 27) rfl ?_
  refine Jvm.OwnW.imul O2 di998244353_27 (r := (-998244351 : Int32)) (by decide) (q := 28) rfl ?_
  refine Jvm.OwnW.istoreN O2 di998244353_28 (L' := #[.val (.ref a1), .val (.int (998244353 : Int32)), .val (.int (2 : Int32)), .val (.int (-998244351 : Int32)), .val (.int (1 : Int32)), .unset]) rfl (q := 29) rfl ?_
  refine Jvm.OwnW.iinc O2 di998244353_29 rfl (L' := #[.val (.ref a1), .val (.int (998244353 : Int32)), .val (.int (2 : Int32)), .val (.int (-998244351 : Int32)), .val (.int (2 : Int32)), .unset]) rfl (q := 32) rfl ?_
  refine Jvm.OwnW.goto O2 di998244353_32 (by decide) (q := 15) rfl ?_
  refine Jvm.OwnW.iload O2 di998244353_15 rfl (q := 17) rfl ?_
  refine Jvm.OwnW.iconst O2 di998244353_17 (r := (4 : Int32)) rfl (q := 18) rfl ?_
  refine Jvm.OwnW.icmpNo O2 di998244353_18 (tlt (show (2 : Int32) < (4 : Int32) from (by decide))).2.1 (q := 21) rfl ?_
  refine Jvm.OwnW.iloadN O2 di998244353_21 rfl (q := 22) rfl ?_
  refine Jvm.OwnW.iconst O2 di998244353_22 (r := (2 : Int32)) rfl (q := 23) rfl ?_
  refine Jvm.OwnW.iloadN O2 di998244353_23 rfl (q := 24) rfl ?_
  refine Jvm.OwnW.iloadN O2 di998244353_24 rfl (q := 25) rfl ?_
  refine Jvm.OwnW.imul O2 di998244353_25 (r := (1 : Int32)) (by decide) (q := 26) rfl ?_
  refine Jvm.OwnW.isub O2 di998244353_26 (r := (1 : Int32)) (by decide) (q := 27) rfl ?_
  refine Jvm.OwnW.imul O2 di998244353_27 (r := (-998244351 : Int32)) (by decide) (q := 28) rfl ?_
  refine Jvm.OwnW.istoreN O2 di998244353_28 (L' := #[.val (.ref a1), .val (.int (998244353 : Int32)), .val (.int (2 : Int32)), .val (.int (-998244351 : Int32)), .val (.int (2 : Int32)), .unset]) rfl (q := 29) rfl ?_
  refine Jvm.OwnW.iinc O2 di998244353_29 rfl (L' := #[.val (.ref a1), .val (.int (998244353 : Int32)), .val (.int (2 : Int32)), .val (.int (-998244351 : Int32)), .val (.int (3 : Int32)), .unset]) rfl (q := 32) rfl ?_
  refine Jvm.OwnW.goto O2 di998244353_32 (by decide) (q := 15) rfl ?_
  refine Jvm.OwnW.iload O2 di998244353_15 rfl (q := 17) rfl ?_
  refine Jvm.OwnW.iconst O2 di998244353_17 (r := (4 : Int32)) rfl (q := 18) rfl ?_
  refine Jvm.OwnW.icmpNo O2 di998244353_18 (tlt (show (3 : Int32) < (4 : Int32) from (by decide))).2.1 (q := 21) rfl ?_
  refine Jvm.OwnW.iloadN O2 di998244353_21 rfl (q := 22) rfl ?_
  refine Jvm.OwnW.iconst O2 di998244353_22 (r := (2 : Int32)) rfl (q := 23) rfl ?_
  refine Jvm.OwnW.iloadN O2 di998244353_23 rfl (q := 24) rfl ?_
  refine Jvm.OwnW.iloadN O2 di998244353_24 rfl (q := 25) rfl ?_
  refine Jvm.OwnW.imul O2 di998244353_25 (r := (1 : Int32)) (by decide) (q := 26) rfl ?_
  refine Jvm.OwnW.isub O2 di998244353_26 (r := (1 : Int32)) (by decide) (q := 27) rfl ?_
  refine Jvm.OwnW.imul O2 di998244353_27 (r := (-998244351 : Int32)) (by decide) (q := 28) rfl ?_
  refine Jvm.OwnW.istoreN O2 di998244353_28 (L' := #[.val (.ref a1), .val (.int (998244353 : Int32)), .val (.int (2 : Int32)), .val (.int (-998244351 : Int32)), .val (.int (3 : Int32)), .unset]) rfl (q := 29) rfl ?_
  refine Jvm.OwnW.iinc O2 di998244353_29 rfl (L' := #[.val (.ref a1), .val (.int (998244353 : Int32)), .val (.int (2 : Int32)), .val (.int (-998244351 : Int32)), .val (.int (4 : Int32)), .unset]) rfl (q := 32) rfl ?_
  refine Jvm.OwnW.goto O2 di998244353_32 (by decide) (q := 15) rfl ?_
  refine Jvm.OwnW.iload O2 di998244353_15 rfl (q := 17) rfl ?_
  refine Jvm.OwnW.iconst O2 di998244353_17 (r := (4 : Int32)) rfl (q := 18) rfl ?_
  refine Jvm.OwnW.icmpYes O2 di998244353_18 (flt (show ¬ ((4 : Int32) < (4 : Int32)) from (by decide))).2.1 (by decide) (q := 35) rfl ?_
  refine Jvm.OwnW.aloadN O2 di998244353_35 rfl rfl (q := 36) rfl ?_
  refine Jvm.OwnW.iloadN O2 di998244353_36 rfl (q := 37) rfl ?_
  refine Jvm.OwnW.ineg O2 di998244353_37 (r := (998244351 : Int32)) (by decide) (q := 38) rfl ?_
  refine Jvm.OwnW.putF O2 di998244353_38 (host := "") (Or.inl (hw _ (List.mem_of_getElem? (i := 11) rfl))) Via.refl F_negatedInverse_a1 E_a1 (Or.inr ⟨hw _ (List.mem_of_getElem? (i := 12) rfl), rfl, rfl⟩) (hw _ (List.mem_of_getElem? (i := 1) rfl)) (ty := .int) (by decide) rfl rfl (Or.inl (List.mem_cons_self ..)) (q := 41) rfl ?_
  intro T3 h3 O3 W3
  have E_a1 := E_a1.wr W3
  have F_modulus_a1 := F_modulus_a1.other W3 (Or.inr (slot_ne (Or.inr (hw _ (List.mem_of_getElem? (i := 10) rfl))) (Or.inr (hw _ (List.mem_of_getElem? (i := 12) rfl))) (by decide) (t := .long) (t' := .int) (by decide) (by decide)))
  have F_negatedInverse_a1 := F_negatedInverse_a1.same W3
  have F_montgomeryOfR_a1 := F_montgomeryOfR_a1.other W3 (Or.inr (slot_ne (Or.inr (hw _ (List.mem_of_getElem? (i := 15) rfl))) (Or.inr (hw _ (List.mem_of_getElem? (i := 12) rfl))) (by decide) (t := .long) (t' := .int) (by decide) (by decide)))
  have F_roots_a1 := F_roots_a1.other W3 (Or.inr (slot_ne (Or.inr (hw _ (List.mem_of_getElem? (i := 22) rfl))) (Or.inr (hw _ (List.mem_of_getElem? (i := 12) rfl))) (by decide) (t := (.array .int)) (t' := .int) (by decide) (by decide)))
  have F_inverseRoots_a1 := F_inverseRoots_a1.other W3 (Or.inr (slot_ne (Or.inr (hw _ (List.mem_of_getElem? (i := 24) rfl))) (Or.inr (hw _ (List.mem_of_getElem? (i := 12) rfl))) (by decide) (t := (.array .int)) (t' := .int) (by decide) (by decide)))
  refine Jvm.OwnW.ldcL O3 di998244353_41 (hw _ (List.mem_of_getElem? (i := 13) rfl)) (q := 44) rfl ?_
  refine Jvm.OwnW.iloadN O3 di998244353_44 rfl (q := 45) rfl ?_
  refine Jvm.OwnW.i2l O3 di998244353_45 (r := (998244353 : Int64)) (by decide) (q := 46) rfl ?_
  refine Jvm.OwnW.lrem O3 di998244353_46 (by decide) (r := (301989884 : Int64)) (by decide) (q := 47) rfl ?_
  refine Jvm.OwnW.lstore O3 di998244353_47 (L' := #[.val (.ref a1), .val (.int (998244353 : Int32)), .val (.int (2 : Int32)), .val (.int (-998244351 : Int32)), .val (.long (301989884 : Int64)), .second]) rfl (q := 49) rfl ?_
  refine Jvm.OwnW.aloadN O3 di998244353_49 rfl rfl (q := 50) rfl ?_
  refine Jvm.OwnW.lload O3 di998244353_50 rfl (q := 52) rfl ?_
  refine Jvm.OwnW.lload O3 di998244353_52 rfl (q := 54) rfl ?_
  refine Jvm.OwnW.lmul O3 di998244353_54 (r := (91197890038333456 : Int64)) (by decide) (q := 55) rfl ?_
  refine Jvm.OwnW.iloadN O3 di998244353_55 rfl (q := 56) rfl ?_
  refine Jvm.OwnW.i2l O3 di998244353_56 (r := (998244353 : Int64)) (by decide) (q := 57) rfl ?_
  refine Jvm.OwnW.lrem O3 di998244353_57 (by decide) (r := (932051910 : Int64)) (by decide) (q := 58) rfl ?_
  refine Jvm.OwnW.putF O3 di998244353_58 (host := "") (Or.inl (hw _ (List.mem_of_getElem? (i := 14) rfl))) Via.refl F_montgomeryOfR_a1 E_a1 (Or.inr ⟨hw _ (List.mem_of_getElem? (i := 15) rfl), rfl, rfl⟩) (hw _ (List.mem_of_getElem? (i := 1) rfl)) (ty := .long) (by decide) rfl rfl (Or.inl (List.mem_cons_self ..)) (q := 61) rfl ?_
  intro T4 h4 O4 W4
  have E_a1 := E_a1.wr W4
  have F_modulus_a1 := F_modulus_a1.other W4 (Or.inr (slot_ne (Or.inr (hw _ (List.mem_of_getElem? (i := 10) rfl))) (Or.inr (hw _ (List.mem_of_getElem? (i := 15) rfl))) (by decide) (t := .long) (t' := .long) (by decide) (by decide)))
  have F_negatedInverse_a1 := F_negatedInverse_a1.other W4 (Or.inr (slot_ne (Or.inr (hw _ (List.mem_of_getElem? (i := 12) rfl))) (Or.inr (hw _ (List.mem_of_getElem? (i := 15) rfl))) (by decide) (t := .int) (t' := .long) (by decide) (by decide)))
  have F_montgomeryOfR_a1 := F_montgomeryOfR_a1.same W4
  have F_roots_a1 := F_roots_a1.other W4 (Or.inr (slot_ne (Or.inr (hw _ (List.mem_of_getElem? (i := 22) rfl))) (Or.inr (hw _ (List.mem_of_getElem? (i := 15) rfl))) (by decide) (t := (.array .int)) (t' := .long) (by decide) (by decide)))
  have F_inverseRoots_a1 := F_inverseRoots_a1.other W4 (Or.inr (slot_ne (Or.inr (hw _ (List.mem_of_getElem? (i := 24) rfl))) (Or.inr (hw _ (List.mem_of_getElem? (i := 15) rfl))) (by decide) (t := (.array .int)) (t' := .long) (by decide) (by decide)))
  refine Jvm.OwnW.aloadN O4 di998244353_61 rfl rfl (q := 62) rfl ?_
  refine Jvm.OwnW.iloadN O4 di998244353_62 rfl (q := 63) rfl ?_
  refine Jvm.OwnW.iconst O4 di998244353_63 (r := (2 : Int32)) rfl (q := 64) rfl ?_
  refine Jvm.OwnW.callS0 O4 (y := (⟨"java/lang/Math", "max", "(II)I"⟩ : MethodName)) (argsL := [(.int (2 : Int32)), (.int (2 : Int32))]) (rest := [(.ref a1)]) di998244353_64 (hw _ (List.mem_of_getElem? (i := 16) rfl)) (hw _ (List.mem_of_getElem? (i := 17) rfl)) (hw _ (List.mem_of_getElem? (i := 18) rfl)) (hw _ (List.mem_of_getElem? (i := 19) rfl)) (by decide) (rm_m l Z a0 hw (2 : Int32) (2 : Int32) h4) rfl pd_1 rfl (hst := rfl) (W := 1) (Nat.le_of_eq rfl) (by decide) (by decide) (c2 := 0) (s2 := 0) rfl rfl (by decide) (by decide) rfl rfl (q := 67) rfl ?_
  intro v5 T5 O5 q5
  obtain rfl := q5
  rw [show fn_m (2 : Int32) (2 : Int32) = (2 : Int32) from by decide]
  show Go C _ _ _ _ (T5.setTop (mkF C.m 67 #[.val (.ref a1), .val (.int (998244353 : Int32)), .val (.int (2 : Int32)), .val (.int (-998244351 : Int32)), .val (.long (301989884 : Int64)), .second] [(.int (2 : Int32)), (.ref a1)]))
  refine Jvm.OwnW.newA' O5 di998244353_67 (ty := .int) rfl (hw _ (List.mem_of_getElem? (i := 20) rfl)) (N := 2) rfl (cap := 2) (by decide) (by decide) (c2 := 1) (s2 := 2) rfl rfl (by decide) (by decide) (q := 69) rfl ?_
  intro nb6 T6 h6 g6 N6 O6 X6 V_nb6
  have ne_a1_nb6 : a1 ≠ nb6 := Nat.ne_of_lt (Nat.lt_of_lt_of_le E_a1.lt (Nat.le_of_eq g6.symm))
  have E_a1 := E_a1.ext X6
  have F_modulus_a1 := F_modulus_a1.ext X6
  have F_negatedInverse_a1 := F_negatedInverse_a1.ext X6
  have F_montgomeryOfR_a1 := F_montgomeryOfR_a1.ext X6
  have F_roots_a1 := F_roots_a1.ext X6
  have F_inverseRoots_a1 := F_inverseRoots_a1.ext X6
  have V_nb6 : Ar Z h6 nb6 .int 2 (lf [(.int (0 : Int32)), (.int (0 : Int32))]) := V_nb6.congr (lf_rep 2 _)
  refine Jvm.OwnW.putF O6 di998244353_69 (host := "") (Or.inl (hw _ (List.mem_of_getElem? (i := 21) rfl))) Via.refl F_roots_a1 E_a1 (Or.inr ⟨hw _ (List.mem_of_getElem? (i := 22) rfl), rfl, rfl⟩) (hw _ (List.mem_of_getElem? (i := 1) rfl)) (ty := (.array .int)) (by decide) rfl rfl (Or.inl (List.mem_cons_self ..)) (q := 72) rfl ?_
  intro T7 h7 O7 W7
  have E_a1 := E_a1.wr W7
  have F_modulus_a1 := F_modulus_a1.other W7 (Or.inr (slot_ne (Or.inr (hw _ (List.mem_of_getElem? (i := 10) rfl))) (Or.inr (hw _ (List.mem_of_getElem? (i := 22) rfl))) (by decide) (t := .long) (t' := (.array .int)) (by decide) (by decide)))
  have F_negatedInverse_a1 := F_negatedInverse_a1.other W7 (Or.inr (slot_ne (Or.inr (hw _ (List.mem_of_getElem? (i := 12) rfl))) (Or.inr (hw _ (List.mem_of_getElem? (i := 22) rfl))) (by decide) (t := .int) (t' := (.array .int)) (by decide) (by decide)))
  have F_montgomeryOfR_a1 := F_montgomeryOfR_a1.other W7 (Or.inr (slot_ne (Or.inr (hw _ (List.mem_of_getElem? (i := 15) rfl))) (Or.inr (hw _ (List.mem_of_getElem? (i := 22) rfl))) (by decide) (t := .long) (t' := (.array .int)) (by decide) (by decide)))
  have F_roots_a1 := F_roots_a1.same W7
  have F_inverseRoots_a1 := F_inverseRoots_a1.other W7 (Or.inr (slot_ne (Or.inr (hw _ (List.mem_of_getElem? (i := 24) rfl))) (Or.inr (hw _ (List.mem_of_getElem? (i := 22) rfl))) (by decide) (t := (.array .int)) (t' := (.array .int)) (by decide) (by decide)))
  have V_nb6 := V_nb6.other W7 (Ne.symm ne_a1_nb6)
  refine Jvm.OwnW.aloadN O7 di998244353_72 rfl rfl (q := 73) rfl ?_
  refine Jvm.OwnW.aloadN O7 di998244353_73 rfl rfl (q := 74) rfl ?_
  refine Jvm.OwnW.getF O7 di998244353_74 (host := "") (Or.inl (hw _ (List.mem_of_getElem? (i := 21) rfl))) Via.refl F_roots_a1 (q := 77) rfl ?_
  intro T8 O8
  refine Jvm.OwnW.lenA O8 di998244353_77 V_nb6 (z := (2 : Int32)) rfl (q := 78) rfl ?_
  refine Jvm.OwnW.newA' O8 di998244353_78 (ty := .int) rfl (hw _ (List.mem_of_getElem? (i := 20) rfl)) (N := 2) rfl (cap := 2) (by decide) (by decide) (c2 := 2) (s2 := 4) rfl rfl (by decide) (by decide) (q := 80) rfl ?_
  intro nb9 T9 h9 g9 N9 O9 X9 V_nb9
  have ne_a1_nb9 : a1 ≠ nb9 := Nat.ne_of_lt (Nat.lt_of_lt_of_le E_a1.lt (Nat.le_of_eq g9.symm))
  have ne_nb6_nb9 : nb6 ≠ nb9 := Nat.ne_of_lt (Nat.lt_of_lt_of_le V_nb6.lt (Nat.le_of_eq g9.symm))
  have E_a1 := E_a1.ext X9
  have F_modulus_a1 := F_modulus_a1.ext X9
  have F_negatedInverse_a1 := F_negatedInverse_a1.ext X9
  have F_montgomeryOfR_a1 := F_montgomeryOfR_a1.ext X9
  have F_roots_a1 := F_roots_a1.ext X9
  have F_inverseRoots_a1 := F_inverseRoots_a1.ext X9
  have V_nb6 := V_nb6.ext X9
  have V_nb9 : Ar Z h9 nb9 .int 2 (lf [(.int (0 : Int32)), (.int (0 : Int32))]) := V_nb9.congr (lf_rep 2 _)
  refine Jvm.OwnW.putF O9 di998244353_80 (host := "") (Or.inl (hw _ (List.mem_of_getElem? (i := 23) rfl))) Via.refl F_inverseRoots_a1 E_a1 (Or.inr ⟨hw _ (List.mem_of_getElem? (i := 24) rfl), rfl, rfl⟩) (hw _ (List.mem_of_getElem? (i := 1) rfl)) (ty := (.array .int)) (by decide) rfl rfl (Or.inl (List.mem_cons_self ..)) (q := 83) rfl ?_
  intro T10 h10 O10 W10
  have E_a1 := E_a1.wr W10
  have F_modulus_a1 := F_modulus_a1.other W10 (Or.inr (slot_ne (Or.inr (hw _ (List.mem_of_getElem? (i := 10) rfl))) (Or.inr (hw _ (List.mem_of_getElem? (i := 24) rfl))) (by decide) (t := .long) (t' := (.array .int)) (by decide) (by decide)))
  have F_negatedInverse_a1 := F_negatedInverse_a1.other W10 (Or.inr (slot_ne (Or.inr (hw _ (List.mem_of_getElem? (i := 12) rfl))) (Or.inr (hw _ (List.mem_of_getElem? (i := 24) rfl))) (by decide) (t := .int) (t' := (.array .int)) (by decide) (by decide)))
  have F_montgomeryOfR_a1 := F_montgomeryOfR_a1.other W10 (Or.inr (slot_ne (Or.inr (hw _ (List.mem_of_getElem? (i := 15) rfl))) (Or.inr (hw _ (List.mem_of_getElem? (i := 24) rfl))) (by decide) (t := .long) (t' := (.array .int)) (by decide) (by decide)))
  have F_roots_a1 := F_roots_a1.other W10 (Or.inr (slot_ne (Or.inr (hw _ (List.mem_of_getElem? (i := 22) rfl))) (Or.inr (hw _ (List.mem_of_getElem? (i := 24) rfl))) (by decide) (t := (.array .int)) (t' := (.array .int)) (by decide) (by decide)))
  have F_inverseRoots_a1 := F_inverseRoots_a1.same W10
  have V_nb6 := V_nb6.other W10 (Ne.symm ne_a1_nb6)
  have V_nb9 := V_nb9.other W10 (Ne.symm ne_a1_nb9)
  refine Jvm.OwnW.aloadN O10 di998244353_83 rfl rfl (q := 84) rfl ?_
  refine Jvm.OwnW.iloadN O10 di998244353_84 rfl (q := 85) rfl ?_
  refine Jvm.OwnW.callP O10 (y := (⟨"com/example/vary5/vary5/NumberTheoreticTransform", "fillRoots", "(I)V"⟩ : MethodName)) (a := a1) (argsL := [(.int (2 : Int32))]) (rest := []) di998244353_85 (hw _ (List.mem_of_getElem? (i := 25) rfl)) (hw _ (List.mem_of_getElem? (i := 26) rfl)) (hw _ (List.mem_of_getElem? (i := 27) rfl)) (hw _ (List.mem_of_getElem? (i := 1) rfl)) (hw _ (List.mem_of_getElem? (i := 2) rfl)) (hw _ (List.mem_of_getElem? (i := 28) rfl)) (by decide) (rm_f998244353 l Z a0 hw a1 nb6 nb9 h10 E_a1 F_modulus_a1 F_negatedInverse_a1 F_montgomeryOfR_a1 F_roots_a1 F_inverseRoots_a1 V_nb6 V_nb9 ne_a1_nb6 ne_a1_nb9 ne_nb6_nb9) E_a1 rfl pd_4 rfl (hst := rfl) (W := 0) (Nat.le_of_eq rfl) (by decide) (by decide) (c2 := 2) (s2 := 4) rfl rfl (by decide) (by decide) (allS (Or.inr N6) (allS (Or.inr N9) all0)) (q := 88) rfl ?_
  intro v11 T11 h11 O11 K11 q11
  obtain rfl := q11
  have E_a1 := E_a1.keep K11
  have F_modulus_a1 := F_modulus_a1.keep K11 (ninS ne_a1_nb6 (ninS ne_a1_nb9 nin0))
  have F_negatedInverse_a1 := F_negatedInverse_a1.keep K11 (ninS ne_a1_nb6 (ninS ne_a1_nb9 nin0))
  have F_montgomeryOfR_a1 := F_montgomeryOfR_a1.keep K11 (ninS ne_a1_nb6 (ninS ne_a1_nb9 nin0))
  have F_roots_a1 := F_roots_a1.keep K11 (ninS ne_a1_nb6 (ninS ne_a1_nb9 nin0))
  have F_inverseRoots_a1 := F_inverseRoots_a1.keep K11 (ninS ne_a1_nb6 (ninS ne_a1_nb9 nin0))
  show Go C _ _ _ _ (T11.setTop (mkF C.m 88 #[.val (.ref a1), .val (.int (998244353 : Int32)), .val (.int (2 : Int32)), .val (.int (-998244351 : Int32)), .val (.long (301989884 : Int64)), .second] []))
  exact Jvm.OwnW.ret0 O11 di998244353_88 (by decide) (by decide) ⟨rfl, F_modulus_a1, F_negatedInverse_a1⟩
theorem own_main_998244353 (x y r : Int64) (hr : fn_p (x &&& 4294967295) ((y &&& 9223372036854775807) % 998244353) 998244353 (998244351) = r) :
    ¬ r < 0 ∧ r < 998244353 ∧ (r <<< ((32 : Int32) &&& 0x3f).toInt64) % 998244353 = (((x &&& 4294967295) % 998244353) * ((y &&& 9223372036854775807) % 998244353)) % 998244353 := by
  have hP : (998244353 : Int64).toInt = 998244353 := by decide
  have z0 : (0 : Int64).toInt = 0 := by decide
  have z1 : (-1 : Int64).toInt = -1 := by decide
  have hN : (998244351 : Int32).toInt = 998244351 := by decide
  have ha := c_maskL x 4294967295 32 (by decide) (by decide)
  have hy := c_maskL y 9223372036854775807 63 (by decide) (by decide)
  have hb := rem64 (x := y &&& 9223372036854775807) hP (by omega)
  generalize (x &&& 4294967295) = a at hr ha ⊢
  generalize (y &&& 9223372036854775807) % 998244353 = b at hr hb ⊢
  have hA0 : 0 ≤ a.toInt := by omega
  have hA1 : a.toInt ≤ 4294967295 := by omega
  have hB0 : 0 ≤ b.toInt := by omega
  have hB1 : b.toInt ≤ 998244353 - 1 := by omega
  have hAB0 : 0 ≤ a.toInt * b.toInt := Int.mul_nonneg hA0 hB0
  have hAB1 : a.toInt * b.toInt ≤ 4294967295 * (998244353 - 1) := Int.mul_le_mul hA1 hB1 hB0 (by decide)
  have ht : (a * b).toInt = a.toInt * b.toInt := mul64 (by omega) (by omega)
  unfold fn_p at hr
  generalize hTd : a * b = t at hr ht
  rw [← ht] at hAB0 hAB1
  have h1 := c_l2i t
  have h2 := c_imul t.toInt32 (998244351)
  rw [hN] at h2
  generalize t.toInt32 * (998244351 : Int32) = i at hr h2
  have h3 := c_i2l i
  have h4 := c_maskL i.toInt64 4294967295 32 (by decide) (by decide)
  generalize (i.toInt64 &&& 4294967295) = q at hr h4
  have h5 : (q * 998244353).toInt = q.toInt * 998244353 := by rw [mul64 (by rw [hP]; omega) (by rw [hP]; omega), hP]
  generalize q * 998244353 = qm at hr h5
  have h6 := c_ladd t qm
  have h6' := rng64 (t + qm)
  generalize t + qm = s at hr h6 h6'
  have h7 := c_lushr s 32 32 (by decide) (by decide)
  generalize ((s.toUInt64 >>> ((32 : Int32) &&& 0x3f).toInt64.toUInt64).toInt64) = u at hr h7
  have hs : s.toInt % 18446744073709551616 = t.toInt + q.toInt * 998244353 := by omega
  rw [hs] at h7
  have hdv : (t.toInt + q.toInt * 998244353) % 4294967296 = 0 := by omega
  have hu : u.toInt * 4294967296 = t.toInt + q.toInt * 998244353 := by omega
  have hu1 : 0 ≤ u.toInt ∧ u.toInt < 2 * 998244353 := by omega
  have h8 : (u - 998244353).toInt = u.toInt - 998244353 := by rw [sub64 (by rw [hP]; omega) (by rw [hP]; omega), hP]
  generalize u - 998244353 = r0 at hr h8
  have h9 := c_lshr r0 63 63 (by decide)
  have hrr : r.toInt * 4294967296 = t.toInt + q.toInt * 998244353 ∨ r.toInt * 4294967296 = t.toInt + q.toInt * 998244353 - 998244353 * 4294967296 := by
    by_cases c : r0.toInt < 0
    · have e1 : (r0 >>> ((63 : Int32) &&& 0x3f).toInt64) = -1 := eq64 (by rw [h9]; omega)
      rw [e1, show ((-1 : Int64) &&& 998244353) = 998244353 from by decide] at hr
      have e2 : (r0 + 998244353).toInt = r0.toInt + 998244353 := by rw [add64 (by rw [hP]; omega) (by rw [hP]; omega), hP]
      rw [hr] at e2; left; omega
    · have e1 : (r0 >>> ((63 : Int32) &&& 0x3f).toInt64) = 0 := eq64 (by rw [h9]; omega)
      rw [e1, show ((0 : Int64) &&& 998244353) = 0 from by decide, Int64.add_zero] at hr
      subst hr; right; omega
  have hr0 : 0 ≤ r.toInt ∧ r.toInt < 998244353 := by
    by_cases c : r0.toInt < 0
    · have e1 : (r0 >>> ((63 : Int32) &&& 0x3f).toInt64) = -1 := eq64 (by rw [h9]; omega)
      rw [e1, show ((-1 : Int64) &&& 998244353) = 998244353 from by decide] at hr
      have e2 : (r0 + 998244353).toInt = r0.toInt + 998244353 := by rw [add64 (by rw [hP]; omega) (by rw [hP]; omega), hP]
      rw [hr] at e2; omega
    · have e1 : (r0 >>> ((63 : Int32) &&& 0x3f).toInt64) = 0 := eq64 (by rw [h9]; omega)
      rw [e1, show ((0 : Int64) &&& 998244353) = 0 from by decide, Int64.add_zero] at hr
      subst hr; omega
  refine ⟨nlt64 (by omega), lt64 (by omega), eq64 ?_⟩
  have k1 := c_lshl r 32 32 (by decide)
  have k2 := rng64 (r <<< ((32 : Int32) &&& 0x3f).toInt64)
  generalize (r <<< ((32 : Int32) &&& 0x3f).toInt64) = rs at k1 k2 ⊢
  have k3 : rs.toInt = r.toInt * 4294967296 := by omega
  rw [rem64 hP (by omega), k3]
  have m1 : (a % 998244353).toInt = a.toInt % 998244353 := rem64 hP hA0
  have m2 : 0 ≤ a.toInt % 998244353 := by omega
  have m3 : a.toInt % 998244353 ≤ 998244353 - 1 := by omega
  have m4 : 0 ≤ (a.toInt % 998244353) * b.toInt := Int.mul_nonneg m2 hB0
  have m5 : (a.toInt % 998244353) * b.toInt ≤ (998244353 - 1) * (998244353 - 1) := Int.mul_le_mul m3 hB1 hB0 (by decide)
  have m6 : ((a % 998244353) * b).toInt = (a.toInt % 998244353) * b.toInt := by rw [mul64 (by rw [m1]; omega) (by rw [m1]; omega), m1]
  rw [rem64 hP (by omega), m6]
  have m7 : ((a.toInt % 998244353) * b.toInt) % 998244353 = (a.toInt * b.toInt) % 998244353 := by rw [Int.mul_emod, Int.emod_emod, ← Int.mul_emod]
  rw [m7, ← ht]
  rcases hrr with e | e <;> omega
theorem dn2147483647_0 : decode prog_9_method_3_code 0 = .ok (.ldc2_w 43, 3) := by decide +kernel
theorem dn2147483647_3 : decode prog_9_method_3_code 3 = .ok (.lstore_n 1, 1) := by decide +kernel
theorem dn2147483647_4 : decode prog_9_method_3_code 4 = .ok (.aload_n 0, 1) := by decide +kernel
theorem dn2147483647_5 : decode prog_9_method_3_code 5 = .ok (.lload_n 1, 1) := by decide +kernel
theorem dn2147483647_6 : decode prog_9_method_3_code 6 = .ok (.aload_n 0, 1) := by decide +kernel
theorem dn2147483647_7 : decode prog_9_method_3_code 7 = .ok (.getfield 7, 3) := by decide +kernel
theorem dn2147483647_10 : decode prog_9_method_3_code 10 = .ok (.lconst 1, 1) := by decide +kernel
theorem dn2147483647_11 : decode prog_9_method_3_code 11 = .ok (.lsub, 1) := by decide +kernel
theorem dn2147483647_12 : decode prog_9_method_3_code 12 = .ok (.ldc2_w 43, 3) := by decide +kernel
theorem dn2147483647_15 : decode prog_9_method_3_code 15 = .ok (.ldiv, 1) := by decide +kernel
theorem dn2147483647_16 : decode prog_9_method_3_code 16 = .ok (.invokevirtual 45, 3) := by decide +kernel
theorem dn2147483647_19 : decode prog_9_method_3_code 19 = .ok (.aload_n 0, 1) := by decide +kernel
theorem dn2147483647_20 : decode prog_9_method_3_code 20 = .ok (.getfield 7, 3) := by decide +kernel
theorem dn2147483647_23 : decode prog_9_method_3_code 23 = .ok (.lconst 1, 1) := by decide +kernel
theorem dn2147483647_24 : decode prog_9_method_3_code 24 = .ok (.lsub, 1) := by decide +kernel
theorem dn2147483647_25 : decode prog_9_method_3_code 25 = .ok (.lcmp, 1) := by decide +kernel
theorem dn2147483647_26 : decode prog_9_method_3_code 26 = .ok (.ifCond .eq 10, 3) := by decide +kernel
theorem dn2147483647_29 : decode prog_9_method_3_code 29 = .ok (.lload_n 1, 1) := by decide +kernel
theorem dn2147483647_30 : decode prog_9_method_3_code 30 = .ok (.lconst 1, 1) := by decide +kernel
theorem dn2147483647_31 : decode prog_9_method_3_code 31 = .ok (.ladd, 1) := by decide +kernel
theorem dn2147483647_32 : decode prog_9_method_3_code 32 = .ok (.lstore_n 1, 1) := by decide +kernel
theorem dn2147483647_33 : decode prog_9_method_3_code 33 = .ok (.goto (-29), 3) := by decide +kernel
theorem dn2147483647_36 : decode prog_9_method_3_code 36 = .ok (.lload_n 1, 1) := by decide +kernel
theorem dn2147483647_37 : decode prog_9_method_3_code 37 = .ok (.lreturn, 1) := by decide +kernel
theorem ef_n2147483647 (a1 : Addr) (m : MethodId) : entryFrame m #[(.ref a1)] 3 = mkF m 0 #[.val (.ref a1), .unset, .unset] [] := by first | (simp [entryFrame, mkF, argsToLocals, Value.category, maxLocals]; done) | rfl
theorem pn_n2147483647 : plainFor (⟨"com/example/vary5/vary5/NumberTheoreticTransform", "nonResidue", "()J"⟩ : MethodName) = true := by first | exact plainFor_of_name (by first | (simp [plainName, overriddenIn]; done) | decide +kernel) | decide +kernel
set_option maxRecDepth 65536 in
set_option maxHeartbeats 40000000 in
theorem rm_n2147483647 (l : Launch) (Z : State) (a0 : Array Value) (hw : ∀ d ∈ tables_1, d.before a0 Z = true) (a1 : Addr) (h0 : Heap) (E_a1 : Exa Z h0 a1 "com/example/vary5/vary5/NumberTheoreticTransform") (F_modulus_a1 : Fld Z h0 a1 "com/example/vary5/vary5/NumberTheoreticTransform" "modulus" "J" (.long (2147483647 : Int64))) :
    Met l Z (⟨"com/example/vary5/vary5/NumberTheoreticTransform", "nonResidue", "()J"⟩ : MethodName) prog_9_method_3_code 3 (some .long) [] ({ frames := 1, cells := 0, slots := 0, locals := 22 } : Room) #[(.ref a1)] [] h0 (fun v h => v = some (.long (3 : Int64))) := by
  refine Met.mk pn_n2147483647 (ef_n2147483647 a1) ?_
  intro C T hs0 O
  show Go C [] (fun v h => v = some (.long (3 : Int64))) 0 0 (T.setTop (mkF C.m 0 #[.val (.ref a1), .unset, .unset] []))
  refine Jvm.OwnW.ldcL O dn2147483647_0 (hw _ (List.mem_of_getElem? (i := 33) rfl)) (q := 3) rfl ?_
  refine Jvm.OwnW.lstoreN O dn2147483647_3 (L' := #[.val (.ref a1), .val (.long (2 : Int64)), .second]) rfl (q := 4) rfl ?_
  refine Jvm.OwnW.aloadN O dn2147483647_4 rfl rfl (q := 5) rfl ?_
  refine Jvm.OwnW.lloadN O dn2147483647_5 rfl (q := 6) rfl ?_
  refine Jvm.OwnW.aloadN O dn2147483647_6 rfl rfl (q := 7) rfl ?_
  refine Jvm.OwnW.getF O dn2147483647_7 (host := "") (Or.inl (hw _ (List.mem_of_getElem? (i := 9) rfl))) Via.refl F_modulus_a1 (q := 10) rfl ?_
  intro T1 O1
  refine Jvm.OwnW.lconst O1 dn2147483647_10 (r := (1 : Int64)) rfl (q := 11) rfl ?_
  refine Jvm.OwnW.lsub O1 dn2147483647_11 (r := (2147483646 : Int64)) (by decide) (q := 12) rfl ?_
  refine Jvm.OwnW.ldcL O1 dn2147483647_12 (hw _ (List.mem_of_getElem? (i := 33) rfl)) (q := 15) rfl ?_
  refine Jvm.OwnW.ldiv O1 dn2147483647_15 (by decide) (r := (1073741823 : Int64)) (by decide) (q := 16) rfl ?_
  refine Jvm.OwnW.callP0 O1 (y := (⟨"com/example/vary5/vary5/NumberTheoreticTransform", "power", "(JJ)J"⟩ : MethodName)) (a := a1) (argsL := [(.long (2 : Int64)), (.long (1073741823 : Int64))]) (rest := []) dn2147483647_16 (hw _ (List.mem_of_getElem? (i := 34) rfl)) (hw _ (List.mem_of_getElem? (i := 35) rfl)) (hw _ (List.mem_of_getElem? (i := 36) rfl)) (hw _ (List.mem_of_getElem? (i := 1) rfl)) (hw _ (List.mem_of_getElem? (i := 2) rfl)) (hw _ (List.mem_of_getElem? (i := 37) rfl)) (by decide) (rm_w l Z a0 hw a1 (2 : Int64) (1073741823 : Int64) (2147483647 : Int64) h0 E_a1 F_modulus_a1 (by decide) (by decide)) E_a1 rfl pd_0 rfl (hst := rfl) (W := 0) (Nat.le_of_eq rfl) (by decide) (by decide) (c2 := 0) (s2 := 0) rfl rfl (by decide) (by decide) rfl rfl (q := 19) rfl ?_
  intro v2 T2 O2 q2
  obtain rfl := q2
  show Go C _ _ _ _ (T2.setTop (mkF C.m 19 #[.val (.ref a1), .val (.long (2 : Int64)), .second] [(.long (own_pw (2147483647 : Int64) 31 1 ((2 : Int64) % (2147483647 : Int64)) (1073741823 : Int64)))]))
  refine Jvm.OwnW.aloadN O2 dn2147483647_19 rfl rfl (q := 20) rfl ?_
  refine Jvm.OwnW.getF O2 dn2147483647_20 (host := "") (Or.inl (hw _ (List.mem_of_getElem? (i := 9) rfl))) Via.refl F_modulus_a1 (q := 23) rfl ?_
  intro T3 O3
  refine Jvm.OwnW.lconst O3 dn2147483647_23 (r := (1 : Int64)) rfl (q := 24) rfl ?_
  refine Jvm.OwnW.lsub O3 dn2147483647_24 (r := (2147483646 : Int64)) (by decide) (q := 25) rfl ?_
  refine Jvm.OwnW.lcmp O3 dn2147483647_25 rfl (q := 26) rfl ?_
  refine Jvm.OwnW.ifNo O3 dn2147483647_26 (feqL (show ¬ ((own_pw (2147483647 : Int64) 31 1 ((2 : Int64) % (2147483647 : Int64)) (1073741823 : Int64)) = (2147483646 : Int64)) from by decide +kernel)).1 (q := 29) rfl ?_
  refine Jvm.OwnW.lloadN O3 dn2147483647_29 rfl (q := 30) rfl ?_
  refine Jvm.OwnW.lconst O3 dn2147483647_30 (r := (1 : Int64)) rfl (q := 31) rfl ?_
  refine Jvm.OwnW.ladd O3 dn2147483647_31 (r := (3 : Int64)) (by decide) (q := 32) rfl ?_
  refine Jvm.OwnW.lstoreN O3 dn2147483647_32 (L' := #[.val (.ref a1), .val (.long (3 : Int64)), .second]) rfl (q := 33) rfl ?_
  refine Jvm.OwnW.goto O3 dn2147483647_33 (by decide) (q := 4) rfl ?_
  refine Jvm.OwnW.aloadN O3 dn2147483647_4 rfl rfl (q := 5) rfl ?_
  refine Jvm.OwnW.lloadN O3 dn2147483647_5 rfl (q := 6) rfl ?_
  refine Jvm.OwnW.aloadN O3 dn2147483647_6 rfl rfl (q := 7) rfl ?_
  refine Jvm.OwnW.getF O3 dn2147483647_7 (host := "") (Or.inl (hw _ (List.mem_of_getElem? (i := 9) rfl))) Via.refl F_modulus_a1 (q := 10) rfl ?_
  intro T4 O4
  refine Jvm.OwnW.lconst O4 dn2147483647_10 (r := (1 : Int64)) rfl (q := 11) rfl ?_
  refine Jvm.OwnW.lsub O4 dn2147483647_11 (r := (2147483646 : Int64)) (by decide) (q := 12) rfl ?_
  refine Jvm.OwnW.ldcL O4 dn2147483647_12 (hw _ (List.mem_of_getElem? (i := 33) rfl)) (q := 15) rfl ?_
  refine Jvm.OwnW.ldiv O4 dn2147483647_15 (by decide) (r := (1073741823 : Int64)) (by decide) (q := 16) rfl ?_
  refine Jvm.OwnW.callP0 O4 (y := (⟨"com/example/vary5/vary5/NumberTheoreticTransform", "power", "(JJ)J"⟩ : MethodName)) (a := a1) (argsL := [(.long (3 : Int64)), (.long (1073741823 : Int64))]) (rest := []) dn2147483647_16 (hw _ (List.mem_of_getElem? (i := 34) rfl)) (hw _ (List.mem_of_getElem? (i := 35) rfl)) (hw _ (List.mem_of_getElem? (i := 36) rfl)) (hw _ (List.mem_of_getElem? (i := 1) rfl)) (hw _ (List.mem_of_getElem? (i := 2) rfl)) (hw _ (List.mem_of_getElem? (i := 37) rfl)) (by decide) (rm_w l Z a0 hw a1 (3 : Int64) (1073741823 : Int64) (2147483647 : Int64) h0 E_a1 F_modulus_a1 (by decide) (by decide)) E_a1 rfl pd_0 rfl (hst := rfl) (W := 0) (Nat.le_of_eq rfl) (by decide) (by decide) (c2 := 0) (s2 := 0) rfl rfl (by decide) (by decide) rfl rfl (q := 19) rfl ?_
  intro v5 T5 O5 q5
  obtain rfl := q5
  show Go C _ _ _ _ (T5.setTop (mkF C.m 19 #[.val (.ref a1), .val (.long (3 : Int64)), .second] [(.long (own_pw (2147483647 : Int64) 31 1 ((3 : Int64) % (2147483647 : Int64)) (1073741823 : Int64)))]))
  refine Jvm.OwnW.aloadN O5 dn2147483647_19 rfl rfl (q := 20) rfl ?_
  refine Jvm.OwnW.getF O5 dn2147483647_20 (host := "") (Or.inl (hw _ (List.mem_of_getElem? (i := 9) rfl))) Via.refl F_modulus_a1 (q := 23) rfl ?_
  intro T6 O6
  refine Jvm.OwnW.lconst O6 dn2147483647_23 (r := (1 : Int64)) rfl (q := 24) rfl ?_
  refine Jvm.OwnW.lsub O6 dn2147483647_24 (r := (2147483646 : Int64)) (by decide) (q := 25) rfl ?_
  refine Jvm.OwnW.lcmp O6 dn2147483647_25 rfl (q := 26) rfl ?_
  refine Jvm.OwnW.ifYes O6 dn2147483647_26 (teqL (show (own_pw (2147483647 : Int64) 31 1 ((3 : Int64) % (2147483647 : Int64)) (1073741823 : Int64)) = (2147483646 : Int64) from by decide +kernel)).1 (by decide) (q := 36) rfl ?_
  refine Jvm.OwnW.lloadN O6 dn2147483647_36 rfl (q := 37) rfl ?_
  exact Jvm.OwnW.retL O6 dn2147483647_37 rfl (by decide) (by decide) rfl
theorem df2147483647_0 : decode prog_9_method_2_code 0 = .ok (.iload_n 1, 1) := by decide +kernel
theorem df2147483647_1 : decode prog_9_method_2_code 1 = .ok (.iconst 2, 1) := by decide +kernel
theorem df2147483647_2 : decode prog_9_method_2_code 2 = .ok (.idiv, 1) := by decide +kernel
theorem df2147483647_3 : decode prog_9_method_2_code 3 = .ok (.iconst 1, 1) := by decide +kernel
theorem df2147483647_4 : decode prog_9_method_2_code 4 = .ok (.invokestatic 22, 3) := by decide +kernel
theorem df2147483647_7 : decode prog_9_method_2_code 7 = .ok (.istore_n 2, 1) := by decide +kernel
theorem df2147483647_8 : decode prog_9_method_2_code 8 = .ok (.aload_n 0, 1) := by decide +kernel
theorem df2147483647_9 : decode prog_9_method_2_code 9 = .ok (.aload_n 0, 1) := by decide +kernel
theorem df2147483647_10 : decode prog_9_method_2_code 10 = .ok (.aload_n 0, 1) := by decide +kernel
theorem df2147483647_11 : decode prog_9_method_2_code 11 = .ok (.invokevirtual 39, 3) := by decide +kernel
theorem df2147483647_14 : decode prog_9_method_2_code 14 = .ok (.aload_n 0, 1) := by decide +kernel
theorem df2147483647_15 : decode prog_9_method_2_code 15 = .ok (.getfield 7, 3) := by decide +kernel
theorem df2147483647_18 : decode prog_9_method_2_code 18 = .ok (.lconst 1, 1) := by decide +kernel
theorem df2147483647_19 : decode prog_9_method_2_code 19 = .ok (.lsub, 1) := by decide +kernel
theorem df2147483647_20 : decode prog_9_method_2_code 20 = .ok (.ldc2_w 43, 3) := by decide +kernel
theorem df2147483647_23 : decode prog_9_method_2_code 23 = .ok (.iload_n 2, 1) := by decide +kernel
theorem df2147483647_24 : decode prog_9_method_2_code 24 = .ok (.i2l, 1) := by decide +kernel
theorem df2147483647_25 : decode prog_9_method_2_code 25 = .ok (.lmul, 1) := by decide +kernel
theorem df2147483647_26 : decode prog_9_method_2_code 26 = .ok (.ldiv, 1) := by decide +kernel
theorem df2147483647_27 : decode prog_9_method_2_code 27 = .ok (.invokevirtual 45, 3) := by decide +kernel
theorem df2147483647_30 : decode prog_9_method_2_code 30 = .ok (.invokevirtual 49, 3) := by decide +kernel
theorem df2147483647_33 : decode prog_9_method_2_code 33 = .ok (.lstore_n 3, 1) := by decide +kernel
theorem df2147483647_34 : decode prog_9_method_2_code 34 = .ok (.aload_n 0, 1) := by decide +kernel
theorem df2147483647_35 : decode prog_9_method_2_code 35 = .ok (.lconst 1, 1) := by decide +kernel
theorem df2147483647_36 : decode prog_9_method_2_code 36 = .ok (.invokevirtual 49, 3) := by decide +kernel
theorem df2147483647_39 : decode prog_9_method_2_code 39 = .ok (.lstore 5, 2) := by decide +kernel
theorem df2147483647_41 : decode prog_9_method_2_code 41 = .ok (.iconst 0, 1) := by decide +kernel
theorem df2147483647_42 : decode prog_9_method_2_code 42 = .ok (.istore 7, 2) := by decide +kernel
theorem df2147483647_44 : decode prog_9_method_2_code 44 = .ok (.iload 7, 2) := by decide +kernel
theorem df2147483647_46 : decode prog_9_method_2_code 46 = .ok (.iload_n 2, 1) := by decide +kernel
theorem df2147483647_47 : decode prog_9_method_2_code 47 = .ok (.if_icmp .ge 30, 3) := by decide +kernel
theorem df2147483647_50 : decode prog_9_method_2_code 50 = .ok (.aload_n 0, 1) := by decide +kernel
theorem df2147483647_51 : decode prog_9_method_2_code 51 = .ok (.getfield 28, 3) := by decide +kernel
theorem df2147483647_54 : decode prog_9_method_2_code 54 = .ok (.iload_n 2, 1) := by decide +kernel
theorem df2147483647_55 : decode prog_9_method_2_code 55 = .ok (.iload 7, 2) := by decide +kernel
theorem df2147483647_57 : decode prog_9_method_2_code 57 = .ok (.iadd, 1) := by decide +kernel
theorem df2147483647_58 : decode prog_9_method_2_code 58 = .ok (.lload 5, 2) := by decide +kernel
theorem df2147483647_60 : decode prog_9_method_2_code 60 = .ok (.l2i, 1) := by decide +kernel
theorem df2147483647_61 : decode prog_9_method_2_code 61 = .ok (.iastore, 1) := by decide +kernel
theorem df2147483647_62 : decode prog_9_method_2_code 62 = .ok (.aload_n 0, 1) := by decide +kernel
theorem df2147483647_63 : decode prog_9_method_2_code 63 = .ok (.lload 5, 2) := by decide +kernel
theorem df2147483647_65 : decode prog_9_method_2_code 65 = .ok (.lload_n 3, 1) := by decide +kernel
theorem df2147483647_66 : decode prog_9_method_2_code 66 = .ok (.invokevirtual 53, 3) := by decide +kernel
theorem df2147483647_69 : decode prog_9_method_2_code 69 = .ok (.lstore 5, 2) := by decide +kernel
theorem df2147483647_71 : decode prog_9_method_2_code 71 = .ok (.iinc 7 1, 3) := by decide +kernel
theorem df2147483647_74 : decode prog_9_method_2_code 74 = .ok (.goto (-30), 3) := by decide +kernel
theorem df2147483647_77 : decode prog_9_method_2_code 77 = .ok (.iload_n 2, 1) := by decide +kernel
theorem df2147483647_78 : decode prog_9_method_2_code 78 = .ok (.iconst 2, 1) := by decide +kernel
theorem df2147483647_79 : decode prog_9_method_2_code 79 = .ok (.idiv, 1) := by decide +kernel
theorem df2147483647_80 : decode prog_9_method_2_code 80 = .ok (.istore 7, 2) := by decide +kernel
theorem df2147483647_82 : decode prog_9_method_2_code 82 = .ok (.iload 7, 2) := by decide +kernel
theorem df2147483647_84 : decode prog_9_method_2_code 84 = .ok (.iconst 1, 1) := by decide +kernel
theorem df2147483647_85 : decode prog_9_method_2_code 85 = .ok (.if_icmp .lt 52, 3) := by decide +kernel
theorem df2147483647_137 : decode prog_9_method_2_code 137 = .ok (.iconst 1, 1) := by decide +kernel
theorem df2147483647_138 : decode prog_9_method_2_code 138 = .ok (.istore 7, 2) := by decide +kernel
theorem df2147483647_140 : decode prog_9_method_2_code 140 = .ok (.iload 7, 2) := by decide +kernel
theorem df2147483647_142 : decode prog_9_method_2_code 142 = .ok (.iload_n 2, 1) := by decide +kernel
theorem df2147483647_143 : decode prog_9_method_2_code 143 = .ok (.if_icmp .gt 71, 3) := by decide +kernel
theorem df2147483647_146 : decode prog_9_method_2_code 146 = .ok (.aload_n 0, 1) := by decide +kernel
theorem df2147483647_147 : decode prog_9_method_2_code 147 = .ok (.getfield 32, 3) := by decide +kernel
theorem df2147483647_150 : decode prog_9_method_2_code 150 = .ok (.iload 7, 2) := by decide +kernel
theorem df2147483647_152 : decode prog_9_method_2_code 152 = .ok (.aload_n 0, 1) := by decide +kernel
theorem df2147483647_153 : decode prog_9_method_2_code 153 = .ok (.getfield 28, 3) := by decide +kernel
theorem df2147483647_156 : decode prog_9_method_2_code 156 = .ok (.iload 7, 2) := by decide +kernel
theorem df2147483647_158 : decode prog_9_method_2_code 158 = .ok (.iaload, 1) := by decide +kernel
theorem df2147483647_159 : decode prog_9_method_2_code 159 = .ok (.iastore, 1) := by decide +kernel
theorem df2147483647_160 : decode prog_9_method_2_code 160 = .ok (.iconst 1, 1) := by decide +kernel
theorem df2147483647_161 : decode prog_9_method_2_code 161 = .ok (.istore 8, 2) := by decide +kernel
theorem df2147483647_163 : decode prog_9_method_2_code 163 = .ok (.iload 8, 2) := by decide +kernel
theorem df2147483647_165 : decode prog_9_method_2_code 165 = .ok (.iload 7, 2) := by decide +kernel
theorem df2147483647_167 : decode prog_9_method_2_code 167 = .ok (.if_icmp .ge 38, 3) := by decide +kernel
theorem df2147483647_205 : decode prog_9_method_2_code 205 = .ok (.iload 7, 2) := by decide +kernel
theorem df2147483647_207 : decode prog_9_method_2_code 207 = .ok (.iconst 2, 1) := by decide +kernel
theorem df2147483647_208 : decode prog_9_method_2_code 208 = .ok (.imul, 1) := by decide +kernel
theorem df2147483647_209 : decode prog_9_method_2_code 209 = .ok (.istore 7, 2) := by decide +kernel
theorem df2147483647_211 : decode prog_9_method_2_code 211 = .ok (.goto (-71), 3) := by decide +kernel
theorem df2147483647_214 : decode prog_9_method_2_code 214 = .ok (.return_, 1) := by decide +kernel
theorem ef_f2147483647 (a1 : Addr) (ar ai : Addr) (m : MethodId) : entryFrame m #[(.ref a1), (.int (2 : Int32))] 9 = mkF m 0 #[.val (.ref a1), .val (.int (2 : Int32)), .unset, .unset, .unset, .unset, .unset, .unset, .unset] [] := by first | (simp [entryFrame, mkF, argsToLocals, Value.category, maxLocals]; done) | rfl
theorem pn_f2147483647 : plainFor (⟨"com/example/vary5/vary5/NumberTheoreticTransform", "fillRoots", "(I)V"⟩ : MethodName) = true := by first | exact plainFor_of_name (by first | (simp [plainName, overriddenIn]; done) | decide +kernel) | decide +kernel
set_option maxRecDepth 65536 in
set_option maxHeartbeats 40000000 in
theorem rm_f2147483647 (l : Launch) (Z : State) (a0 : Array Value) (hw : ∀ d ∈ tables_1, d.before a0 Z = true) (a1 : Addr) (ar ai : Addr) (h0 : Heap) (E_a1 : Exa Z h0 a1 "com/example/vary5/vary5/NumberTheoreticTransform") (F_modulus_a1 : Fld Z h0 a1 "com/example/vary5/vary5/NumberTheoreticTransform" "modulus" "J" (.long (2147483647 : Int64))) (F_negatedInverse_a1 : Fld Z h0 a1 "com/example/vary5/vary5/NumberTheoreticTransform" "negatedInverse" "I" (.int (-2147483647 : Int32))) (F_montgomeryOfR_a1 : Fld Z h0 a1 "com/example/vary5/vary5/NumberTheoreticTransform" "montgomeryOfR" "J" (.long (4 : Int64))) (F_roots_a1 : Fld Z h0 a1 "com/example/vary5/vary5/NumberTheoreticTransform" "roots" "[I" (.ref ar)) (F_inverseRoots_a1 : Fld Z h0 a1 "com/example/vary5/vary5/NumberTheoreticTransform" "inverseRoots" "[I" (.ref ai)) (V_ar : Ar Z h0 ar .int 2 (lf [.int 0, .int 0])) (V_ai : Ar Z h0 ai .int 2 (lf [.int 0, .int 0])) (n1r : a1 ≠ ar) (n1i : a1 ≠ ai) (nri : ar ≠ ai) :
    Met l Z (⟨"com/example/vary5/vary5/NumberTheoreticTransform", "fillRoots", "(I)V"⟩ : MethodName) prog_9_method_2_code 9 none [] ({ frames := 2, cells := 0, slots := 0, locals := 38 } : Room) #[(.ref a1), (.int (2 : Int32))] [ar, ai] h0 (fun v h => v = none) := by
  refine Met.mk pn_f2147483647 (ef_f2147483647 a1 ar ai) ?_
  intro C T hs0 O
  show Go C [ar, ai] (fun v h => v = none) 0 0 (T.setTop (mkF C.m 0 #[.val (.ref a1), .val (.int (2 : Int32)), .unset, .unset, .unset, .unset, .unset, .unset, .unset] []))
  refine Jvm.OwnW.iloadN O df2147483647_0 rfl (q := 1) rfl ?_
  refine Jvm.OwnW.iconst O df2147483647_1 (r := (2 : Int32)) rfl (q := 2) rfl ?_
  refine Jvm.OwnW.idiv O df2147483647_2 (by decide) (r := (1 : Int32)) (by decide) (q := 3) rfl ?_
  refine Jvm.OwnW.iconst O df2147483647_3 (r := (1 : Int32)) rfl (q := 4) rfl ?_
  refine Jvm.OwnW.callS0 O (y := (⟨"java/lang/Math", "max", "(II)I"⟩ : MethodName)) (argsL := [(.int (1 : Int32)), (.int (1 : Int32))]) (rest := []) df2147483647_4 (hw _ (List.mem_of_getElem? (i := 16) rfl)) (hw _ (List.mem_of_getElem? (i := 17) rfl)) (hw _ (List.mem_of_getElem? (i := 18) rfl)) (hw _ (List.mem_of_getElem? (i := 19) rfl)) (by decide) (rm_m l Z a0 hw (1 : Int32) (1 : Int32) h0) rfl pd_1 rfl (hst := rfl) (W := 0) (Nat.le_of_eq rfl) (by decide) (by decide) (c2 := 0) (s2 := 0) rfl rfl (by decide) (by decide) rfl rfl (q := 7) rfl ?_
  intro v1 T1 O1 q1
  obtain rfl := q1
  rw [show fn_m (1 : Int32) (1 : Int32) = (1 : Int32) from by decide]
  show Go C _ _ _ _ (T1.setTop (mkF C.m 7 #[.val (.ref a1), .val (.int (2 : Int32)), .unset, .unset, .unset, .unset, .unset, .unset, .unset] [(.int (1 : Int32))]))
  refine Jvm.OwnW.istoreN O1 df2147483647_7 (L' := #[.val (.ref a1), .val (.int (2 : Int32)), .val (.int (1 : Int32)), .unset, .unset, .unset, .unset, .unset, .unset]) rfl (q := 8) rfl ?_
  refine Jvm.OwnW.aloadN O1 df2147483647_8 rfl rfl (q := 9) rfl ?_
  refine Jvm.OwnW.aloadN O1 df2147483647_9 rfl rfl (q := 10) rfl ?_
  refine Jvm.OwnW.aloadN O1 df2147483647_10 rfl rfl (q := 11) rfl ?_
  refine Jvm.OwnW.callP0 O1 (y := (⟨"com/example/vary5/vary5/NumberTheoreticTransform", "nonResidue", "()J"⟩ : MethodName)) (a := a1) (argsL := []) (rest := [(.ref a1), (.ref a1)]) df2147483647_11 (hw _ (List.mem_of_getElem? (i := 29) rfl)) (hw _ (List.mem_of_getElem? (i := 30) rfl)) (hw _ (List.mem_of_getElem? (i := 31) rfl)) (hw _ (List.mem_of_getElem? (i := 1) rfl)) (hw _ (List.mem_of_getElem? (i := 2) rfl)) (hw _ (List.mem_of_getElem? (i := 32) rfl)) (by decide) (rm_n2147483647 l Z a0 hw a1 h0 E_a1 F_modulus_a1) E_a1 rfl pd_2 rfl (hst := rfl) (W := 2) (Nat.le_of_eq rfl) (by decide) (by decide) (c2 := 0) (s2 := 0) rfl rfl (by decide) (by decide) rfl rfl (q := 14) rfl ?_
  intro v2 T2 O2 q2
  obtain rfl := q2
  show Go C _ _ _ _ (T2.setTop (mkF C.m 14 #[.val (.ref a1), .val (.int (2 : Int32)), .val (.int (1 : Int32)), .unset, .unset, .unset, .unset, .unset, .unset] [(.long (3 : Int64)), (.ref a1), (.ref a1)]))
  refine Jvm.OwnW.aloadN O2 df2147483647_14 rfl rfl (q := 15) rfl ?_
  refine Jvm.OwnW.getF O2 df2147483647_15 (host := "") (Or.inl (hw _ (List.mem_of_getElem? (i := 9) rfl))) Via.refl F_modulus_a1 (q := 18) rfl ?_
  intro T3 O3
  refine Jvm.OwnW.lconst O3 df2147483647_18 (r := (1 : Int64)) rfl (q := 19) rfl ?_
  refine Jvm.OwnW.lsub O3 df2147483647_19 (r := (2147483646 : Int64)) (by decide) (q := 20) rfl ?_
  refine Jvm.OwnW.ldcL O3 df2147483647_20 (hw _ (List.mem_of_getElem? (i := 33) rfl)) (q := 23) rfl ?_
  refine Jvm.OwnW.iloadN O3 df2147483647_23 rfl (q := 24) rfl ?_
  refine Jvm.OwnW.i2l O3 df2147483647_24 (r := (1 : Int64)) (by decide) (q := 25) rfl ?_
  refine Jvm.OwnW.lmul O3 df2147483647_25 (r := (2 : Int64)) (by decide) (q := 26) rfl ?_
  refine Jvm.OwnW.ldiv O3 df2147483647_26 (by decide) (r := (1073741823 : Int64)) (by decide) (q := 27) rfl ?_
  refine Jvm.OwnW.callP0 O3 (y := (⟨"com/example/vary5/vary5/NumberTheoreticTransform", "power", "(JJ)J"⟩ : MethodName)) (a := a1) (argsL := [(.long (3 : Int64)), (.long (1073741823 : Int64))]) (rest := [(.ref a1)]) df2147483647_27 (hw _ (List.mem_of_getElem? (i := 34) rfl)) (hw _ (List.mem_of_getElem? (i := 35) rfl)) (hw _ (List.mem_of_getElem? (i := 36) rfl)) (hw _ (List.mem_of_getElem? (i := 1) rfl)) (hw _ (List.mem_of_getElem? (i := 2) rfl)) (hw _ (List.mem_of_getElem? (i := 37) rfl)) (by decide) (rm_w l Z a0 hw a1 (3 : Int64) (1073741823 : Int64) (2147483647 : Int64) h0 E_a1 F_modulus_a1 (by decide) (by decide)) E_a1 rfl pd_0 rfl (hst := rfl) (W := 1) (Nat.le_of_eq rfl) (by decide) (by decide) (c2 := 0) (s2 := 0) rfl rfl (by decide) (by decide) rfl rfl (q := 30) rfl ?_
  intro v4 T4 O4 q4
  obtain rfl := q4
  show Go C _ _ _ _ (T4.setTop (mkF C.m 30 #[.val (.ref a1), .val (.int (2 : Int32)), .val (.int (1 : Int32)), .unset, .unset, .unset, .unset, .unset, .unset] [(.long (own_pw (2147483647 : Int64) 31 1 ((3 : Int64) % (2147483647 : Int64)) (1073741823 : Int64))), (.ref a1)]))
  refine Jvm.OwnW.callV0 O4 (y := (⟨"com/example/vary5/vary5/NumberTheoreticTransform", "montgomery", "(J)J"⟩ : MethodName)) (z := (⟨"com/example/vary5/vary5/NumberTheoreticTransform", "montgomery", "(J)J"⟩ : MethodName)) (a := a1) (argsL := [(.long (own_pw (2147483647 : Int64) 31 1 ((3 : Int64) % (2147483647 : Int64)) (1073741823 : Int64)))]) (rest := []) df2147483647_30 (hw _ (List.mem_of_getElem? (i := 38) rfl)) (hw _ (List.mem_of_getElem? (i := 39) rfl)) (hw _ (List.mem_of_getElem? (i := 41) rfl)) rfl (hw _ (List.mem_of_getElem? (i := 40) rfl)) (hw _ (List.mem_of_getElem? (i := 2) rfl)) (hw _ (List.mem_of_getElem? (i := 42) rfl)) (by decide) (rm_g l Z a0 hw a1 (own_pw (2147483647 : Int64) 31 1 ((3 : Int64) % (2147483647 : Int64)) (1073741823 : Int64)) (2147483647 : Int64) (-2147483647 : Int32) (4 : Int64) h0 E_a1 F_modulus_a1 F_negatedInverse_a1 F_montgomeryOfR_a1) E_a1 rfl pd_3 rfl (hst := rfl) (W := 0) (Nat.le_of_eq rfl) (by decide) (by decide) (c2 := 0) (s2 := 0) rfl rfl (by decide) (by decide) rfl rfl (q := 33) rfl ?_
  intro v5 T5 O5 q5
  obtain ⟨zg6, rfl⟩ := q5
  show Go C _ _ _ _ (T5.setTop (mkF C.m 33 #[.val (.ref a1), .val (.int (2 : Int32)), .val (.int (1 : Int32)), .unset, .unset, .unset, .unset, .unset, .unset] [(.long zg6)]))
  refine Jvm.OwnW.lstoreN O5 df2147483647_33 (L' := #[.val (.ref a1), .val (.int (2 : Int32)), .val (.int (1 : Int32)), .val (.long zg6), .second, .unset, .unset, .unset, .unset]) rfl (q := 34) rfl ?_
  refine Jvm.OwnW.aloadN O5 df2147483647_34 rfl rfl (q := 35) rfl ?_
  refine Jvm.OwnW.lconst O5 df2147483647_35 (r := (1 : Int64)) rfl (q := 36) rfl ?_
  refine Jvm.OwnW.callV0 O5 (y := (⟨"com/example/vary5/vary5/NumberTheoreticTransform", "montgomery", "(J)J"⟩ : MethodName)) (z := (⟨"com/example/vary5/vary5/NumberTheoreticTransform", "montgomery", "(J)J"⟩ : MethodName)) (a := a1) (argsL := [(.long (1 : Int64))]) (rest := []) df2147483647_36 (hw _ (List.mem_of_getElem? (i := 38) rfl)) (hw _ (List.mem_of_getElem? (i := 39) rfl)) (hw _ (List.mem_of_getElem? (i := 41) rfl)) rfl (hw _ (List.mem_of_getElem? (i := 40) rfl)) (hw _ (List.mem_of_getElem? (i := 2) rfl)) (hw _ (List.mem_of_getElem? (i := 42) rfl)) (by decide) (rm_g l Z a0 hw a1 (1 : Int64) (2147483647 : Int64) (-2147483647 : Int32) (4 : Int64) h0 E_a1 F_modulus_a1 F_negatedInverse_a1 F_montgomeryOfR_a1) E_a1 rfl pd_3 rfl (hst := rfl) (W := 0) (Nat.le_of_eq rfl) (by decide) (by decide) (c2 := 0) (s2 := 0) rfl rfl (by decide) (by decide) rfl rfl (q := 39) rfl ?_
  intro v7 T7 O7 q7
  obtain ⟨zg8, rfl⟩ := q7
  show Go C _ _ _ _ (T7.setTop (mkF C.m 39 #[.val (.ref a1), .val (.int (2 : Int32)), .val (.int (1 : Int32)), .val (.long zg6), .second, .unset, .unset, .unset, .unset] [(.long zg8)]))
  refine Jvm.OwnW.lstore O7 df2147483647_39 (L' := #[.val (.ref a1), .val (.int (2 : Int32)), .val (.int (1 : Int32)), .val (.long zg6), .second, .val (.long zg8), .second, .unset, .unset]) rfl (q := 41) rfl ?_
  refine Jvm.OwnW.iconst O7 df2147483647_41 (r := (0 : Int32)) rfl (q := 42) rfl ?_
  refine Jvm.OwnW.istore O7 df2147483647_42 (L' := #[.val (.ref a1), .val (.int (2 : Int32)), .val (.int (1 : Int32)), .val (.long zg6), .second, .val (.long zg8), .second, .val (.int (0 : Int32)), .unset]) rfl (q := 44) rfl ?_
  refine Jvm.OwnW.iload O7 df2147483647_44 rfl (q := 46) rfl ?_
  refine Jvm.OwnW.iloadN O7 df2147483647_46 rfl (q := 47) rfl ?_
  refine Jvm.OwnW.icmpNo O7 df2147483647_47 (tlt (show (0 : Int32) < (1 : Int32) from (by decide))).2.1 (q := 50) rfl ?_
  refine Jvm.OwnW.aloadN O7 df2147483647_50 rfl rfl (q := 51) rfl ?_
  refine Jvm.OwnW.getF O7 df2147483647_51 (host := "") (Or.inl (hw _ (List.mem_of_getElem? (i := 21) rfl))) Via.refl F_roots_a1 (q := 54) rfl ?_
  intro T9 O9
  refine Jvm.OwnW.iloadN O9 df2147483647_54 rfl (q := 55) rfl ?_
  refine Jvm.OwnW.iload O9 df2147483647_55 rfl (q := 57) rfl ?_
  refine Jvm.OwnW.iadd O9 df2147483647_57 (r := (1 : Int32)) (by decide) (q := 58) rfl ?_
  refine Jvm.OwnW.lload O9 df2147483647_58 rfl (q := 60) rfl ?_
  refine Jvm.OwnW.l2i O9 df2147483647_60 rfl (q := 61) rfl ?_
  refine Jvm.OwnW.iasA O9 df2147483647_61 V_ar (i := 1) rfl (by decide) (Or.inl (List.mem_cons_self ..)) (q := 62) rfl ?_
  intro T10 h10 O10 W10
  have V_ar : Ar Z h10 ar .int 2 (lf [(.int (0 : Int32)), (.int zg8.toInt32)]) := V_ar.setL W10 (by decide) (Nat.le_of_ble_eq_true rfl)
  have E_a1 := E_a1.wr W10
  have F_modulus_a1 := F_modulus_a1.other W10 (Or.inl n1r)
  have F_negatedInverse_a1 := F_negatedInverse_a1.other W10 (Or.inl n1r)
  have F_montgomeryOfR_a1 := F_montgomeryOfR_a1.other W10 (Or.inl n1r)
  have F_roots_a1 := F_roots_a1.other W10 (Or.inl n1r)
  have F_inverseRoots_a1 := F_inverseRoots_a1.other W10 (Or.inl n1r)
  have V_ai := V_ai.other W10 (Ne.symm nri)
  refine Jvm.OwnW.aloadN O10 df2147483647_62 rfl rfl (q := 63) rfl ?_
  refine Jvm.OwnW.lload O10 df2147483647_63 rfl (q := 65) rfl ?_
  refine Jvm.OwnW.lloadN O10 df2147483647_65 rfl (q := 66) rfl ?_
  refine Jvm.OwnW.callV0 O10 (y := (⟨"com/example/vary5/vary5/NumberTheoreticTransform", "product", "(JJ)J"⟩ : MethodName)) (z := (⟨"com/example/vary5/vary5/NumberTheoreticTransform", "product", "(JJ)J"⟩ : MethodName)) (a := a1) (argsL := [(.long zg8), (.long zg6)]) (rest := []) df2147483647_66 (hw _ (List.mem_of_getElem? (i := 43) rfl)) (hw _ (List.mem_of_getElem? (i := 44) rfl)) (hw _ (List.mem_of_getElem? (i := 46) rfl)) rfl (hw _ (List.mem_of_getElem? (i := 45) rfl)) (hw _ (List.mem_of_getElem? (i := 2) rfl)) (hw _ (List.mem_of_getElem? (i := 47) rfl)) (by decide) (rm_p l Z a0 hw a1 zg8 zg6 (2147483647 : Int64) (-2147483647 : Int32) h10 E_a1 F_modulus_a1 F_negatedInverse_a1) E_a1 rfl pd_0 rfl (hst := rfl) (W := 0) (Nat.le_of_eq rfl) (by decide) (by decide) (c2 := 0) (s2 := 0) rfl rfl (by decide) (by decide) rfl rfl (q := 69) rfl ?_
  intro v11 T11 O11 q11
  obtain rfl := q11
  show Go C _ _ _ _ (T11.setTop (mkF C.m 69 #[.val (.ref a1), .val (.int (2 : Int32)), .val (.int (1 : Int32)), .val (.long zg6), .second, .val (.long zg8), .second, .val (.int (0 : Int32)), .unset] [(.long (fn_p zg8 zg6 (2147483647 : Int64) (-2147483647 : Int32)))]))
  refine Jvm.OwnW.lstore O11 df2147483647_69 (L' := #[.val (.ref a1), .val (.int (2 : Int32)), .val (.int (1 : Int32)), .val (.long zg6), .second, .val (.long (fn_p zg8 zg6 (2147483647 : Int64) (-2147483647 : Int32))), .second, .val (.int (0 : Int32)), .unset]) rfl (q := 71) rfl ?_
  refine Jvm.OwnW.iinc O11 df2147483647_71 rfl (L' := #[.val (.ref a1), .val (.int (2 : Int32)), .val (.int (1 : Int32)), .val (.long zg6), .second, .val (.long (fn_p zg8 zg6 (2147483647 : Int64) (-2147483647 : Int32))), .second, .val (.int (1 : Int32)), .unset]) rfl (q := 74) rfl ?_
  refine Jvm.OwnW.goto O11 df2147483647_74 (by decide) (q := 44) rfl ?_
  refine Jvm.OwnW.iload O11 df2147483647_44 rfl (q := 46) rfl ?_
  refine Jvm.OwnW.iloadN O11 df2147483647_46 rfl (q := 47) rfl ?_
  refine Jvm.OwnW.icmpYes O11 df2147483647_47 (flt (show ¬ ((1 : Int32) < (1 : Int32)) from (by decide))).2.1 (by decide) (q := 77) rfl ?_
  refine Jvm.OwnW.iloadN O11 df2147483647_77 rfl (q := 78) rfl ?_
  refine Jvm.OwnW.iconst O11 df2147483647_78 (r := (2 : Int32)) rfl (q := 79) rfl ?_
  refine Jvm.OwnW.idiv O11 df2147483647_79 (by decide) (r := (0 : Int32)) (by decide) (q := 80) rfl ?_
  refine Jvm.OwnW.istore O11 df2147483647_80 (L' := #[.val (.ref a1), .val (.int (2 : Int32)), .val (.int (1 : Int32)), .val (.long zg6), .second, .val (.long (fn_p zg8 zg6 (2147483647 : Int64) (-2147483647 : Int32))), .second, .val (.int (0 : Int32)), .unset]) rfl (q := 82) rfl ?_
  refine Jvm.OwnW.iload O11 df2147483647_82 rfl (q := 84) rfl ?_
  refine Jvm.OwnW.iconst O11 df2147483647_84 (r := (1 : Int32)) rfl (q := 85) rfl ?_
  refine Jvm.OwnW.icmpYes O11 df2147483647_85 (tlt (show (0 : Int32) < (1 : Int32) from (by decide))).1 (by decide) (q := 137) rfl ?_
  refine Jvm.OwnW.iconst O11 df2147483647_137 (r := (1 : Int32)) rfl (q := 138) rfl ?_
  refine Jvm.OwnW.istore O11 df2147483647_138 (L' := #[.val (.ref a1), .val (.int (2 : Int32)), .val (.int (1 : Int32)), .val (.long zg6), .second, .val (.long (fn_p zg8 zg6 (2147483647 : Int64) (-2147483647 : Int32))), .second, .val (.int (1 : Int32)), .unset]) rfl (q := 140) rfl ?_
  refine Jvm.OwnW.iload O11 df2147483647_140 rfl (q := 142) rfl ?_
  refine Jvm.OwnW.iloadN O11 df2147483647_142 rfl (q := 143) rfl ?_
  refine Jvm.OwnW.icmpNo O11 df2147483647_143 (flt (show ¬ ((1 : Int32) < (1 : Int32)) from (by decide))).2.2.1 (q := 146) rfl ?_
  refine Jvm.OwnW.aloadN O11 df2147483647_146 rfl rfl (q := 147) rfl ?_
  refine Jvm.OwnW.getF O11 df2147483647_147 (host := "") (Or.inl (hw _ (List.mem_of_getElem? (i := 23) rfl))) Via.refl F_inverseRoots_a1 (q := 150) rfl ?_
  intro T12 O12
  refine Jvm.OwnW.iload O12 df2147483647_150 rfl (q := 152) rfl ?_
  refine Jvm.OwnW.aloadN O12 df2147483647_152 rfl rfl (q := 153) rfl ?_
  refine Jvm.OwnW.getF O12 df2147483647_153 (host := "") (Or.inl (hw _ (List.mem_of_getElem? (i := 21) rfl))) Via.refl F_roots_a1 (q := 156) rfl ?_
  intro T13 O13
  refine Jvm.OwnW.iload O13 df2147483647_156 rfl (q := 158) rfl ?_
  refine Jvm.OwnW.ialA O13 df2147483647_158 V_ar (i := 1) rfl (by decide) (v := (.int zg8.toInt32)) rfl (q := 159) rfl ?_
  refine Jvm.OwnW.iasA O13 df2147483647_159 V_ai (i := 1) rfl (by decide) (Or.inl (List.mem_cons_of_mem _ (List.mem_cons_self ..))) (q := 160) rfl ?_
  intro T14 h14 O14 W14
  have V_ai : Ar Z h14 ai .int 2 (lf [(.int (0 : Int32)), (.int zg8.toInt32)]) := V_ai.setL W14 (by decide) (Nat.le_of_ble_eq_true rfl)
  have E_a1 := E_a1.wr W14
  have F_modulus_a1 := F_modulus_a1.other W14 (Or.inl n1i)
  have F_negatedInverse_a1 := F_negatedInverse_a1.other W14 (Or.inl n1i)
  have F_montgomeryOfR_a1 := F_montgomeryOfR_a1.other W14 (Or.inl n1i)
  have F_roots_a1 := F_roots_a1.other W14 (Or.inl n1i)
  have F_inverseRoots_a1 := F_inverseRoots_a1.other W14 (Or.inl n1i)
  have V_ar := V_ar.other W14 nri
  refine Jvm.OwnW.iconst O14 df2147483647_160 (r := (1 : Int32)) rfl (q := 161) rfl ?_
  refine Jvm.OwnW.istore O14 df2147483647_161 (L' := #[.val (.ref a1), .val (.int (2 : Int32)), .val (.int (1 : Int32)), .val (.long zg6), .second, .val (.long (fn_p zg8 zg6 (2147483647 : Int64) (-2147483647 : Int32))), .second, .val (.int (1 : Int32)), .val (.int (1 : Int32))]) rfl (q := 163) rfl ?_
  refine Jvm.OwnW.iload O14 df2147483647_163 rfl (q := 165) rfl ?_
  refine Jvm.OwnW.iload O14 df2147483647_165 rfl (q := 167) rfl ?_
  refine Jvm.OwnW.icmpYes O14 df2147483647_167 (flt (show ¬ ((1 : Int32) < (1 : Int32)) from (by decide))).2.1 (by decide) (q := 205) rfl ?_
  refine Jvm.OwnW.iload O14 df2147483647_205 rfl (q := 207) rfl ?_
  refine Jvm.OwnW.iconst O14 df2147483647_207 (r := (2 : Int32)) rfl (q := 208) rfl ?_
  refine Jvm.OwnW.imul O14 df2147483647_208 (r := (2 : Int32)) (by decide) (q := 209) rfl ?_
  refine Jvm.OwnW.istore O14 df2147483647_209 (L' := #[.val (.ref a1), .val (.int (2 : Int32)), .val (.int (1 : Int32)), .val (.long zg6), .second, .val (.long (fn_p zg8 zg6 (2147483647 : Int64) (-2147483647 : Int32))), .second, .val (.int (2 : Int32)), .val (.int (1 : Int32))]) rfl (q := 211) rfl ?_
  refine Jvm.OwnW.goto O14 df2147483647_211 (by decide) (q := 140) rfl ?_
  refine Jvm.OwnW.iload O14 df2147483647_140 rfl (q := 142) rfl ?_
  refine Jvm.OwnW.iloadN O14 df2147483647_142 rfl (q := 143) rfl ?_
  refine Jvm.OwnW.icmpYes O14 df2147483647_143 (tlt (show (1 : Int32) < (2 : Int32) from (by decide))).2.2.1 (by decide) (q := 214) rfl ?_
  exact Jvm.OwnW.ret0 O14 df2147483647_214 (by decide) (by decide) rfl
theorem di2147483647_0 : decode prog_9_method_1_code 0 = .ok (.aload_n 0, 1) := by decide +kernel
theorem di2147483647_1 : decode prog_9_method_1_code 1 = .ok (.invokespecial 1, 3) := by decide +kernel
theorem di2147483647_4 : decode prog_9_method_1_code 4 = .ok (.aload_n 0, 1) := by decide +kernel
theorem di2147483647_5 : decode prog_9_method_1_code 5 = .ok (.iload_n 1, 1) := by decide +kernel
theorem di2147483647_6 : decode prog_9_method_1_code 6 = .ok (.i2l, 1) := by decide +kernel
theorem di2147483647_7 : decode prog_9_method_1_code 7 = .ok (.putfield 7, 3) := by decide +kernel
theorem di2147483647_10 : decode prog_9_method_1_code 10 = .ok (.iload_n 1, 1) := by decide +kernel
theorem di2147483647_11 : decode prog_9_method_1_code 11 = .ok (.istore_n 3, 1) := by decide +kernel
theorem di2147483647_12 : decode prog_9_method_1_code 12 = .ok (.iconst 0, 1) := by decide +kernel
theorem di2147483647_13 : decode prog_9_method_1_code 13 = .ok (.istore 4, 2) := by decide +kernel
theorem di2147483647_15 : decode prog_9_method_1_code 15 = .ok (.iload 4, 2) := by decide +kernel
theorem di2147483647_17 : decode prog_9_method_1_code 17 = .ok (.iconst 4, 1) := by decide +kernel
theorem di2147483647_18 : decode prog_9_method_1_code 18 = .ok (.if_icmp .ge 17, 3) := by decide +kernel
theorem di2147483647_21 : decode prog_9_method_1_code 21 = .ok (.iload_n 3, 1) := by decide +kernel
theorem di2147483647_22 : decode prog_9_method_1_code 22 = .ok (.iconst 2, 1) := by decide +kernel
theorem di2147483647_23 : decode prog_9_method_1_code 23 = .ok (.iload_n 1, 1) := by decide +kernel
theorem di2147483647_24 : decode prog_9_method_1_code 24 = .ok (.iload_n 3, 1) := by decide +kernel
theorem di2147483647_25 : decode prog_9_method_1_code 25 = .ok (.imul, 1) := by decide +kernel
theorem di2147483647_26 : decode prog_9_method_1_code 26 = .ok (.isub, 1) := by decide +kernel
theorem di2147483647_27 : decode prog_9_method_1_code 27 = .ok (.imul, 1) := by decide +kernel
theorem di2147483647_28 : decode prog_9_method_1_code 28 = .ok (.istore_n 3, 1) := by decide +kernel
theorem di2147483647_29 : decode prog_9_method_1_code 29 = .ok (.iinc 4 1, 3) := by decide +kernel
theorem di2147483647_32 : decode prog_9_method_1_code 32 = .ok (.goto (-17), 3) := by decide +kernel
theorem di2147483647_35 : decode prog_9_method_1_code 35 = .ok (.aload_n 0, 1) := by decide +kernel
theorem di2147483647_36 : decode prog_9_method_1_code 36 = .ok (.iload_n 3, 1) := by decide +kernel
theorem di2147483647_37 : decode prog_9_method_1_code 37 = .ok (.ineg, 1) := by decide +kernel
theorem di2147483647_38 : decode prog_9_method_1_code 38 = .ok (.putfield 13, 3) := by decide +kernel
theorem di2147483647_41 : decode prog_9_method_1_code 41 = .ok (.ldc2_w 17, 3) := by decide +kernel
theorem di2147483647_44 : decode prog_9_method_1_code 44 = .ok (.iload_n 1, 1) := by decide +kernel
theorem di2147483647_45 : decode prog_9_method_1_code 45 = .ok (.i2l, 1) := by decide +kernel
theorem di2147483647_46 : decode prog_9_method_1_code 46 = .ok (.lrem, 1) := by decide +kernel
theorem di2147483647_47 : decode prog_9_method_1_code 47 = .ok (.lstore 4, 2) := by decide +kernel
theorem di2147483647_49 : decode prog_9_method_1_code 49 = .ok (.aload_n 0, 1) := by decide +kernel
theorem di2147483647_50 : decode prog_9_method_1_code 50 = .ok (.lload 4, 2) := by decide +kernel
theorem di2147483647_52 : decode prog_9_method_1_code 52 = .ok (.lload 4, 2) := by decide +kernel
theorem di2147483647_54 : decode prog_9_method_1_code 54 = .ok (.lmul, 1) := by decide +kernel
theorem di2147483647_55 : decode prog_9_method_1_code 55 = .ok (.iload_n 1, 1) := by decide +kernel
theorem di2147483647_56 : decode prog_9_method_1_code 56 = .ok (.i2l, 1) := by decide +kernel
theorem di2147483647_57 : decode prog_9_method_1_code 57 = .ok (.lrem, 1) := by decide +kernel
theorem di2147483647_58 : decode prog_9_method_1_code 58 = .ok (.putfield 19, 3) := by decide +kernel
theorem di2147483647_61 : decode prog_9_method_1_code 61 = .ok (.aload_n 0, 1) := by decide +kernel
theorem di2147483647_62 : decode prog_9_method_1_code 62 = .ok (.iload_n 2, 1) := by decide +kernel
theorem di2147483647_63 : decode prog_9_method_1_code 63 = .ok (.iconst 2, 1) := by decide +kernel
theorem di2147483647_64 : decode prog_9_method_1_code 64 = .ok (.invokestatic 22, 3) := by decide +kernel
theorem di2147483647_67 : decode prog_9_method_1_code 67 = .ok (.newarray .int, 2) := by decide +kernel
theorem di2147483647_69 : decode prog_9_method_1_code 69 = .ok (.putfield 28, 3) := by decide +kernel
theorem di2147483647_72 : decode prog_9_method_1_code 72 = .ok (.aload_n 0, 1) := by decide +kernel
theorem di2147483647_73 : decode prog_9_method_1_code 73 = .ok (.aload_n 0, 1) := by decide +kernel
theorem di2147483647_74 : decode prog_9_method_1_code 74 = .ok (.getfield 28, 3) := by decide +kernel
theorem di2147483647_77 : decode prog_9_method_1_code 77 = .ok (.arraylength, 1) := by decide +kernel
theorem di2147483647_78 : decode prog_9_method_1_code 78 = .ok (.newarray .int, 2) := by decide +kernel
theorem di2147483647_80 : decode prog_9_method_1_code 80 = .ok (.putfield 32, 3) := by decide +kernel
theorem di2147483647_83 : decode prog_9_method_1_code 83 = .ok (.aload_n 0, 1) := by decide +kernel
theorem di2147483647_84 : decode prog_9_method_1_code 84 = .ok (.iload_n 2, 1) := by decide +kernel
theorem di2147483647_85 : decode prog_9_method_1_code 85 = .ok (.invokevirtual 35, 3) := by decide +kernel
theorem di2147483647_88 : decode prog_9_method_1_code 88 = .ok (.return_, 1) := by decide +kernel
theorem ef_i2147483647 (a1 : Addr) (m : MethodId) : entryFrame m #[(.ref a1), (.int (2147483647 : Int32)), (.int (2 : Int32))] 6 = mkF m 0 #[.val (.ref a1), .val (.int (2147483647 : Int32)), .val (.int (2 : Int32)), .unset, .unset, .unset] [] := by first | (simp [entryFrame, mkF, argsToLocals, Value.category, maxLocals]; done) | rfl
theorem pn_i2147483647 : plainFor (⟨"com/example/vary5/vary5/NumberTheoreticTransform", "<init>", "(II)V"⟩ : MethodName) = true := by first | exact plainFor_of_name (by first | (simp [plainName, overriddenIn]; done) | decide +kernel) | decide +kernel
set_option maxRecDepth 65536 in
set_option maxHeartbeats 40000000 in
theorem rm_i2147483647 (l : Launch) (Z : State) (a0 : Array Value) (hw : ∀ d ∈ tables_1, d.before a0 Z = true) (a1 : Addr) (h0 : Heap) (E_a1 : Exa Z h0 a1 "com/example/vary5/vary5/NumberTheoreticTransform") (F_modulus_a1 : Fld Z h0 a1 "com/example/vary5/vary5/NumberTheoreticTransform" "modulus" "J" (.long (0 : Int64))) (F_negatedInverse_a1 : Fld Z h0 a1 "com/example/vary5/vary5/NumberTheoreticTransform" "negatedInverse" "I" (.int (0 : Int32))) (F_montgomeryOfR_a1 : Fld Z h0 a1 "com/example/vary5/vary5/NumberTheoreticTransform" "montgomeryOfR" "J" (.long (0 : Int64))) (F_roots_a1 : Fld Z h0 a1 "com/example/vary5/vary5/NumberTheoreticTransform" "roots" "[I" .null) (F_inverseRoots_a1 : Fld Z h0 a1 "com/example/vary5/vary5/NumberTheoreticTransform" "inverseRoots" "[I" .null) :
    Met l Z (⟨"com/example/vary5/vary5/NumberTheoreticTransform", "<init>", "(II)V"⟩ : MethodName) prog_9_method_1_code 6 none [] ({ frames := 3, cells := 2, slots := 4, locals := 58 } : Room) #[(.ref a1), (.int (2147483647 : Int32)), (.int (2 : Int32))] [a1] h0 (fun v h => v = none ∧ Fld Z h a1 "com/example/vary5/vary5/NumberTheoreticTransform" "modulus" "J" (.long (2147483647 : Int64)) ∧ Fld Z h a1 "com/example/vary5/vary5/NumberTheoreticTransform" "negatedInverse" "I" (.int (-2147483647 : Int32))) := by
  refine Met.mk pn_i2147483647 (ef_i2147483647 a1) ?_
  intro C T hs0 O
  show Go C [a1] (fun v h => v = none ∧ Fld Z h a1 "com/example/vary5/vary5/NumberTheoreticTransform" "modulus" "J" (.long (2147483647 : Int64)) ∧ Fld Z h a1 "com/example/vary5/vary5/NumberTheoreticTransform" "negatedInverse" "I" (.int (-2147483647 : Int32))) 2 4 (T.setTop (mkF C.m 0 #[.val (.ref a1), .val (.int (2147483647 : Int32)), .val (.int (2 : Int32)), .unset, .unset, .unset] []))
  refine Jvm.OwnW.aloadN O di2147483647_0 rfl rfl (q := 1) rfl ?_
  refine Jvm.OwnW.initO O di2147483647_1 (hw _ (List.mem_of_getElem? (i := 6) rfl)) (hw _ (List.mem_of_getElem? (i := 7) rfl)) (hw _ (List.mem_of_getElem? (i := 8) rfl)) rfl (by decide) (W := 0) (Nat.le_of_eq rfl) (by decide) (q := 4) rfl ?_
  intro T1 O1
  refine Jvm.OwnW.aloadN O1 di2147483647_4 rfl rfl (q := 5) rfl ?_
  refine Jvm.OwnW.iloadN O1 di2147483647_5 rfl (q := 6) rfl ?_
  refine Jvm.OwnW.i2l O1 di2147483647_6 (r := (2147483647 : Int64)) (by decide) (q := 7) rfl ?_
  refine Jvm.OwnW.putF O1 di2147483647_7 (host := "") (Or.inl (hw _ (List.mem_of_getElem? (i := 9) rfl))) Via.refl F_modulus_a1 E_a1 (Or.inr ⟨hw _ (List.mem_of_getElem? (i := 10) rfl), rfl, rfl⟩) (hw _ (List.mem_of_getElem? (i := 1) rfl)) (ty := .long) (by decide) rfl rfl (Or.inl (List.mem_cons_self ..)) (q := 10) rfl ?_
  intro T2 h2 O2 W2
  have E_a1 := E_a1.wr W2
  have F_modulus_a1 := F_modulus_a1.same W2
  have F_negatedInverse_a1 := F_negatedInverse_a1.other W2 (Or.inr (slot_ne (Or.inr (hw _ (List.mem_of_getElem? (i := 12) rfl))) (Or.inr (hw _ (List.mem_of_getElem? (i := 10) rfl))) (by decide) (t := .int) (t' := .long) (by decide) (by decide)))
  have F_montgomeryOfR_a1 := F_montgomeryOfR_a1.other W2 (Or.inr (slot_ne (Or.inr (hw _ (List.mem_of_getElem? (i := 15) rfl))) (Or.inr (hw _ (List.mem_of_getElem? (i := 10) rfl))) (by decide) (t := .long) (t' := .long) (by decide) (by decide)))
  have F_roots_a1 := F_roots_a1.other W2 (Or.inr (slot_ne (Or.inr (hw _ (List.mem_of_getElem? (i := 22) rfl))) (Or.inr (hw _ (List.mem_of_getElem? (i := 10) rfl))) (by decide) (t := (.array .int)) (t' := .long) (by decide) (by decide)))
  have F_inverseRoots_a1 := F_inverseRoots_a1.other W2 (Or.inr (slot_ne (Or.inr (hw _ (List.mem_of_getElem? (i := 24) rfl))) (Or.inr (hw _ (List.mem_of_getElem? (i := 10) rfl))) (by decide) (t := (.array .int)) (t' := .long) (by decide) (by decide)))
  refine Jvm.OwnW.iloadN O2 di2147483647_10 rfl (q := 11) rfl ?_
  refine Jvm.OwnW.istoreN O2 di2147483647_11 (L' := #[.val (.ref a1), .val (.int (2147483647 : Int32)), .val (.int (2 : Int32)), .val (.int (2147483647 : Int32)), .unset, .unset]) rfl (q := 12) rfl ?_
  refine Jvm.OwnW.iconst O2 di2147483647_12 (r := (0 : Int32)) rfl (q := 13) rfl ?_
  refine Jvm.OwnW.istore O2 di2147483647_13 (L' := #[.val (.ref a1), .val (.int (2147483647 : Int32)), .val (.int (2 : Int32)), .val (.int (2147483647 : Int32)), .val (.int (0 : Int32)), .unset]) rfl (q := 15) rfl ?_
  refine Jvm.OwnW.iload O2 di2147483647_15 rfl (q := 17) rfl ?_
  refine Jvm.OwnW.iconst O2 di2147483647_17 (r := (4 : Int32)) rfl (q := 18) rfl ?_
  refine Jvm.OwnW.icmpNo O2 di2147483647_18 (tlt (show (0 : Int32) < (4 : Int32) from (by decide))).2.1 (q := 21) rfl ?_
  refine Jvm.OwnW.iloadN O2 di2147483647_21 rfl (q := 22) rfl ?_
  refine Jvm.OwnW.iconst O2 di2147483647_22 (r := (2 : Int32)) rfl (q := 23) rfl ?_
  refine Jvm.OwnW.iloadN O2 di2147483647_23 rfl (q := 24) rfl ?_
  refine Jvm.OwnW.iloadN O2 di2147483647_24 rfl (q := 25) rfl ?_
  refine Jvm.OwnW.imul O2 di2147483647_25 (r := (1 : Int32)) (by decide) (q := 26) rfl ?_
  refine Jvm.OwnW.isub O2 di2147483647_26 (r := (1 : Int32)) (by decide) (q := 27) rfl ?_
  refine Jvm.OwnW.imul O2 di2147483647_27 (r := (2147483647 : Int32)) (by decide) (q := 28) rfl ?_
  refine Jvm.OwnW.istoreN O2 di2147483647_28 (L' := #[.val (.ref a1), .val (.int (2147483647 : Int32)), .val (.int (2 : Int32)), .val (.int (2147483647 : Int32)), .val (.int (0 : Int32)), .unset]) rfl (q := 29) rfl ?_
  refine Jvm.OwnW.iinc O2 di2147483647_29 rfl (L' := #[.val (.ref a1), .val (.int (2147483647 : Int32)), .val (.int (2 : Int32)), .val (.int (2147483647 : Int32)), .val (.int (1 : Int32)), .unset]) rfl (q := 32) rfl ?_
  refine Jvm.OwnW.goto O2 di2147483647_32 (by decide) (q := 15) rfl ?_
  refine Jvm.OwnW.iload O2 di2147483647_15 rfl (q := 17) rfl ?_
  refine Jvm.OwnW.iconst O2 di2147483647_17 (r := (4 : Int32)) rfl (q := 18) rfl ?_
  refine Jvm.OwnW.icmpNo O2 di2147483647_18 (tlt (show (1 : Int32) < (4 : Int32) from (by decide))).2.1 (q := 21) rfl ?_
  refine Jvm.OwnW.iloadN O2 di2147483647_21 rfl (q := 22) rfl ?_
  refine Jvm.OwnW.iconst O2 di2147483647_22 (r := (2 : Int32)) rfl (q := 23) rfl ?_
  refine Jvm.OwnW.iloadN O2 di2147483647_23 rfl (q := 24) rfl ?_
  refine Jvm.OwnW.iloadN O2 di2147483647_24 rfl (q := 25) rfl ?_
  refine Jvm.OwnW.imul O2 di2147483647_25 (r := (1 : Int32)) (by decide) (q := 26) rfl ?_
  refine Jvm.OwnW.isub O2 di2147483647_26 (r := (1 : Int32)) (by decide) (q := 27) rfl ?_
  refine Jvm.OwnW.imul O2 di2147483647_27 (r := (2147483647 : Int32)) (by decide) (q := 28) rfl ?_
  refine Jvm.OwnW.istoreN O2 di2147483647_28 (L' := #[.val (.ref a1), .val (.int (2147483647 : Int32)), .val (.int (2 : Int32)), .val (.int (2147483647 : Int32)), .val (.int (1 : Int32)), .unset]) rfl (q := 29) rfl ?_
  refine Jvm.OwnW.iinc O2 di2147483647_29 rfl (L' := #[.val (.ref a1), .val (.int (2147483647 : Int32)), .val (.int (2 : Int32)), .val (.int (2147483647 : Int32)), .val (.int (2 : Int32)), .unset]) rfl (q := 32) rfl ?_
  refine Jvm.OwnW.goto O2 di2147483647_32 (by decide) (q := 15) rfl ?_
  refine Jvm.OwnW.iload O2 di2147483647_15 rfl (q := 17) rfl ?_
  refine Jvm.OwnW.iconst O2 di2147483647_17 (r := (4 : Int32)) rfl (q := 18) rfl ?_
  refine Jvm.OwnW.icmpNo O2 di2147483647_18 (tlt (show (2 : Int32) < (4 : Int32) from (by decide))).2.1 (q := 21) rfl ?_
  refine Jvm.OwnW.iloadN O2 di2147483647_21 rfl (q := 22) rfl ?_
  refine Jvm.OwnW.iconst O2 di2147483647_22 (r := (2 : Int32)) rfl (q := 23) rfl ?_
  refine Jvm.OwnW.iloadN O2 di2147483647_23 rfl (q := 24) rfl ?_
  refine Jvm.OwnW.iloadN O2 di2147483647_24 rfl (q := 25) rfl ?_
  refine Jvm.OwnW.imul O2 di2147483647_25 (r := (1 : Int32)) (by decide) (q := 26) rfl ?_
  refine Jvm.OwnW.isub O2 di2147483647_26 (r := (1 : Int32)) (by decide) (q := 27) rfl ?_
  refine Jvm.OwnW.imul O2 di2147483647_27 (r := (2147483647 : Int32)) (by decide) (q := 28) rfl ?_
  refine Jvm.OwnW.istoreN O2 di2147483647_28 (L' := #[.val (.ref a1), .val (.int (2147483647 : Int32)), .val (.int (2 : Int32)), .val (.int (2147483647 : Int32)), .val (.int (2 : Int32)), .unset]) rfl (q := 29) rfl ?_
  refine Jvm.OwnW.iinc O2 di2147483647_29 rfl (L' := #[.val (.ref a1), .val (.int (2147483647 : Int32)), .val (.int (2 : Int32)), .val (.int (2147483647 : Int32)), .val (.int (3 : Int32)), .unset]) rfl (q := 32) rfl ?_
  refine Jvm.OwnW.goto O2 di2147483647_32 (by decide) (q := 15) rfl ?_
  refine Jvm.OwnW.iload O2 di2147483647_15 rfl (q := 17) rfl ?_
  refine Jvm.OwnW.iconst O2 di2147483647_17 (r := (4 : Int32)) rfl (q := 18) rfl ?_
  refine Jvm.OwnW.icmpNo O2 di2147483647_18 (tlt (show (3 : Int32) < (4 : Int32) from (by decide))).2.1 (q := 21) rfl ?_
  refine Jvm.OwnW.iloadN O2 di2147483647_21 rfl (q := 22) rfl ?_
  refine Jvm.OwnW.iconst O2 di2147483647_22 (r := (2 : Int32)) rfl (q := 23) rfl ?_
  refine Jvm.OwnW.iloadN O2 di2147483647_23 rfl (q := 24) rfl ?_
  refine Jvm.OwnW.iloadN O2 di2147483647_24 rfl (q := 25) rfl ?_
  refine Jvm.OwnW.imul O2 di2147483647_25 (r := (1 : Int32)) (by decide) (q := 26) rfl ?_
  refine Jvm.OwnW.isub O2 di2147483647_26 (r := (1 : Int32)) (by decide) (q := 27) rfl ?_
  refine Jvm.OwnW.imul O2 di2147483647_27 (r := (2147483647 : Int32)) (by decide) (q := 28) rfl ?_
  refine Jvm.OwnW.istoreN O2 di2147483647_28 (L' := #[.val (.ref a1), .val (.int (2147483647 : Int32)), .val (.int (2 : Int32)), .val (.int (2147483647 : Int32)), .val (.int (3 : Int32)), .unset]) rfl (q := 29) rfl ?_
  refine Jvm.OwnW.iinc O2 di2147483647_29 rfl (L' := #[.val (.ref a1), .val (.int (2147483647 : Int32)), .val (.int (2 : Int32)), .val (.int (2147483647 : Int32)), .val (.int (4 : Int32)), .unset]) rfl (q := 32) rfl ?_
  refine Jvm.OwnW.goto O2 di2147483647_32 (by decide) (q := 15) rfl ?_
  refine Jvm.OwnW.iload O2 di2147483647_15 rfl (q := 17) rfl ?_
  refine Jvm.OwnW.iconst O2 di2147483647_17 (r := (4 : Int32)) rfl (q := 18) rfl ?_
  refine Jvm.OwnW.icmpYes O2 di2147483647_18 (flt (show ¬ ((4 : Int32) < (4 : Int32)) from (by decide))).2.1 (by decide) (q := 35) rfl ?_
  refine Jvm.OwnW.aloadN O2 di2147483647_35 rfl rfl (q := 36) rfl ?_
  refine Jvm.OwnW.iloadN O2 di2147483647_36 rfl (q := 37) rfl ?_
  refine Jvm.OwnW.ineg O2 di2147483647_37 (r := (-2147483647 : Int32)) (by decide) (q := 38) rfl ?_
  refine Jvm.OwnW.putF O2 di2147483647_38 (host := "") (Or.inl (hw _ (List.mem_of_getElem? (i := 11) rfl))) Via.refl F_negatedInverse_a1 E_a1 (Or.inr ⟨hw _ (List.mem_of_getElem? (i := 12) rfl), rfl, rfl⟩) (hw _ (List.mem_of_getElem? (i := 1) rfl)) (ty := .int) (by decide) rfl rfl (Or.inl (List.mem_cons_self ..)) (q := 41) rfl ?_
  intro T3 h3 O3 W3
  have E_a1 := E_a1.wr W3
  have F_modulus_a1 := F_modulus_a1.other W3 (Or.inr (slot_ne (Or.inr (hw _ (List.mem_of_getElem? (i := 10) rfl))) (Or.inr (hw _ (List.mem_of_getElem? (i := 12) rfl))) (by decide) (t := .long) (t' := .int) (by decide) (by decide)))
  have F_negatedInverse_a1 := F_negatedInverse_a1.same W3
  have F_montgomeryOfR_a1 := F_montgomeryOfR_a1.other W3 (Or.inr (slot_ne (Or.inr (hw _ (List.mem_of_getElem? (i := 15) rfl))) (Or.inr (hw _ (List.mem_of_getElem? (i := 12) rfl))) (by decide) (t := .long) (t' := .int) (by decide) (by decide)))
  have F_roots_a1 := F_roots_a1.other W3 (Or.inr (slot_ne (Or.inr (hw _ (List.mem_of_getElem? (i := 22) rfl))) (Or.inr (hw _ (List.mem_of_getElem? (i := 12) rfl))) (by decide) (t := (.array .int)) (t' := .int) (by decide) (by decide)))
  have F_inverseRoots_a1 := F_inverseRoots_a1.other W3 (Or.inr (slot_ne (Or.inr (hw _ (List.mem_of_getElem? (i := 24) rfl))) (Or.inr (hw _ (List.mem_of_getElem? (i := 12) rfl))) (by decide) (t := (.array .int)) (t' := .int) (by decide) (by decide)))
  refine Jvm.OwnW.ldcL O3 di2147483647_41 (hw _ (List.mem_of_getElem? (i := 13) rfl)) (q := 44) rfl ?_
  refine Jvm.OwnW.iloadN O3 di2147483647_44 rfl (q := 45) rfl ?_
  refine Jvm.OwnW.i2l O3 di2147483647_45 (r := (2147483647 : Int64)) (by decide) (q := 46) rfl ?_
  refine Jvm.OwnW.lrem O3 di2147483647_46 (by decide) (r := (2 : Int64)) (by decide) (q := 47) rfl ?_
  refine Jvm.OwnW.lstore O3 di2147483647_47 (L' := #[.val (.ref a1), .val (.int (2147483647 : Int32)), .val (.int (2 : Int32)), .val (.int (2147483647 : Int32)), .val (.long (2 : Int64)), .second]) rfl (q := 49) rfl ?_
  refine Jvm.OwnW.aloadN O3 di2147483647_49 rfl rfl (q := 50) rfl ?_
  refine Jvm.OwnW.lload O3 di2147483647_50 rfl (q := 52) rfl ?_
  refine Jvm.OwnW.lload O3 di2147483647_52 rfl (q := 54) rfl ?_
  refine Jvm.OwnW.lmul O3 di2147483647_54 (r := (4 : Int64)) (by decide) (q := 55) rfl ?_
  refine Jvm.OwnW.iloadN O3 di2147483647_55 rfl (q := 56) rfl ?_
  refine Jvm.OwnW.i2l O3 di2147483647_56 (r := (2147483647 : Int64)) (by decide) (q := 57) rfl ?_
  refine Jvm.OwnW.lrem O3 di2147483647_57 (by decide) (r := (4 : Int64)) (by decide) (q := 58) rfl ?_
  refine Jvm.OwnW.putF O3 di2147483647_58 (host := "") (Or.inl (hw _ (List.mem_of_getElem? (i := 14) rfl))) Via.refl F_montgomeryOfR_a1 E_a1 (Or.inr ⟨hw _ (List.mem_of_getElem? (i := 15) rfl), rfl, rfl⟩) (hw _ (List.mem_of_getElem? (i := 1) rfl)) (ty := .long) (by decide) rfl rfl (Or.inl (List.mem_cons_self ..)) (q := 61) rfl ?_
  intro T4 h4 O4 W4
  have E_a1 := E_a1.wr W4
  have F_modulus_a1 := F_modulus_a1.other W4 (Or.inr (slot_ne (Or.inr (hw _ (List.mem_of_getElem? (i := 10) rfl))) (Or.inr (hw _ (List.mem_of_getElem? (i := 15) rfl))) (by decide) (t := .long) (t' := .long) (by decide) (by decide)))
  have F_negatedInverse_a1 := F_negatedInverse_a1.other W4 (Or.inr (slot_ne (Or.inr (hw _ (List.mem_of_getElem? (i := 12) rfl))) (Or.inr (hw _ (List.mem_of_getElem? (i := 15) rfl))) (by decide) (t := .int) (t' := .long) (by decide) (by decide)))
  have F_montgomeryOfR_a1 := F_montgomeryOfR_a1.same W4
  have F_roots_a1 := F_roots_a1.other W4 (Or.inr (slot_ne (Or.inr (hw _ (List.mem_of_getElem? (i := 22) rfl))) (Or.inr (hw _ (List.mem_of_getElem? (i := 15) rfl))) (by decide) (t := (.array .int)) (t' := .long) (by decide) (by decide)))
  have F_inverseRoots_a1 := F_inverseRoots_a1.other W4 (Or.inr (slot_ne (Or.inr (hw _ (List.mem_of_getElem? (i := 24) rfl))) (Or.inr (hw _ (List.mem_of_getElem? (i := 15) rfl))) (by decide) (t := (.array .int)) (t' := .long) (by decide) (by decide)))
  refine Jvm.OwnW.aloadN O4 di2147483647_61 rfl rfl (q := 62) rfl ?_
  refine Jvm.OwnW.iloadN O4 di2147483647_62 rfl (q := 63) rfl ?_
  refine Jvm.OwnW.iconst O4 di2147483647_63 (r := (2 : Int32)) rfl (q := 64) rfl ?_
  refine Jvm.OwnW.callS0 O4 (y := (⟨"java/lang/Math", "max", "(II)I"⟩ : MethodName)) (argsL := [(.int (2 : Int32)), (.int (2 : Int32))]) (rest := [(.ref a1)]) di2147483647_64 (hw _ (List.mem_of_getElem? (i := 16) rfl)) (hw _ (List.mem_of_getElem? (i := 17) rfl)) (hw _ (List.mem_of_getElem? (i := 18) rfl)) (hw _ (List.mem_of_getElem? (i := 19) rfl)) (by decide) (rm_m l Z a0 hw (2 : Int32) (2 : Int32) h4) rfl pd_1 rfl (hst := rfl) (W := 1) (Nat.le_of_eq rfl) (by decide) (by decide) (c2 := 0) (s2 := 0) rfl rfl (by decide) (by decide) rfl rfl (q := 67) rfl ?_
  intro v5 T5 O5 q5
  obtain rfl := q5
  rw [show fn_m (2 : Int32) (2 : Int32) = (2 : Int32) from by decide]
  show Go C _ _ _ _ (T5.setTop (mkF C.m 67 #[.val (.ref a1), .val (.int (2147483647 : Int32)), .val (.int (2 : Int32)), .val (.int (2147483647 : Int32)), .val (.long (2 : Int64)), .second] [(.int (2 : Int32)), (.ref a1)]))
  refine Jvm.OwnW.newA' O5 di2147483647_67 (ty := .int) rfl (hw _ (List.mem_of_getElem? (i := 20) rfl)) (N := 2) rfl (cap := 2) (by decide) (by decide) (c2 := 1) (s2 := 2) rfl rfl (by decide) (by decide) (q := 69) rfl ?_
  intro nb6 T6 h6 g6 N6 O6 X6 V_nb6
  have ne_a1_nb6 : a1 ≠ nb6 := Nat.ne_of_lt (Nat.lt_of_lt_of_le E_a1.lt (Nat.le_of_eq g6.symm))
  have E_a1 := E_a1.ext X6
  have F_modulus_a1 := F_modulus_a1.ext X6
  have F_negatedInverse_a1 := F_negatedInverse_a1.ext X6
  have F_montgomeryOfR_a1 := F_montgomeryOfR_a1.ext X6
  have F_roots_a1 := F_roots_a1.ext X6
  have F_inverseRoots_a1 := F_inverseRoots_a1.ext X6
  have V_nb6 : Ar Z h6 nb6 .int 2 (lf [(.int (0 : Int32)), (.int (0 : Int32))]) := V_nb6.congr (lf_rep 2 _)
  refine Jvm.OwnW.putF O6 di2147483647_69 (host := "") (Or.inl (hw _ (List.mem_of_getElem? (i := 21) rfl))) Via.refl F_roots_a1 E_a1 (Or.inr ⟨hw _ (List.mem_of_getElem? (i := 22) rfl), rfl, rfl⟩) (hw _ (List.mem_of_getElem? (i := 1) rfl)) (ty := (.array .int)) (by decide) rfl rfl (Or.inl (List.mem_cons_self ..)) (q := 72) rfl ?_
  intro T7 h7 O7 W7
  have E_a1 := E_a1.wr W7
  have F_modulus_a1 := F_modulus_a1.other W7 (Or.inr (slot_ne (Or.inr (hw _ (List.mem_of_getElem? (i := 10) rfl))) (Or.inr (hw _ (List.mem_of_getElem? (i := 22) rfl))) (by decide) (t := .long) (t' := (.array .int)) (by decide) (by decide)))
  have F_negatedInverse_a1 := F_negatedInverse_a1.other W7 (Or.inr (slot_ne (Or.inr (hw _ (List.mem_of_getElem? (i := 12) rfl))) (Or.inr (hw _ (List.mem_of_getElem? (i := 22) rfl))) (by decide) (t := .int) (t' := (.array .int)) (by decide) (by decide)))
  have F_montgomeryOfR_a1 := F_montgomeryOfR_a1.other W7 (Or.inr (slot_ne (Or.inr (hw _ (List.mem_of_getElem? (i := 15) rfl))) (Or.inr (hw _ (List.mem_of_getElem? (i := 22) rfl))) (by decide) (t := .long) (t' := (.array .int)) (by decide) (by decide)))
  have F_roots_a1 := F_roots_a1.same W7
  have F_inverseRoots_a1 := F_inverseRoots_a1.other W7 (Or.inr (slot_ne (Or.inr (hw _ (List.mem_of_getElem? (i := 24) rfl))) (Or.inr (hw _ (List.mem_of_getElem? (i := 22) rfl))) (by decide) (t := (.array .int)) (t' := (.array .int)) (by decide) (by decide)))
  have V_nb6 := V_nb6.other W7 (Ne.symm ne_a1_nb6)
  refine Jvm.OwnW.aloadN O7 di2147483647_72 rfl rfl (q := 73) rfl ?_
  refine Jvm.OwnW.aloadN O7 di2147483647_73 rfl rfl (q := 74) rfl ?_
  refine Jvm.OwnW.getF O7 di2147483647_74 (host := "") (Or.inl (hw _ (List.mem_of_getElem? (i := 21) rfl))) Via.refl F_roots_a1 (q := 77) rfl ?_
  intro T8 O8
  refine Jvm.OwnW.lenA O8 di2147483647_77 V_nb6 (z := (2 : Int32)) rfl (q := 78) rfl ?_
  refine Jvm.OwnW.newA' O8 di2147483647_78 (ty := .int) rfl (hw _ (List.mem_of_getElem? (i := 20) rfl)) (N := 2) rfl (cap := 2) (by decide) (by decide) (c2 := 2) (s2 := 4) rfl rfl (by decide) (by decide) (q := 80) rfl ?_
  intro nb9 T9 h9 g9 N9 O9 X9 V_nb9
  have ne_a1_nb9 : a1 ≠ nb9 := Nat.ne_of_lt (Nat.lt_of_lt_of_le E_a1.lt (Nat.le_of_eq g9.symm))
  have ne_nb6_nb9 : nb6 ≠ nb9 := Nat.ne_of_lt (Nat.lt_of_lt_of_le V_nb6.lt (Nat.le_of_eq g9.symm))
  have E_a1 := E_a1.ext X9
  have F_modulus_a1 := F_modulus_a1.ext X9
  have F_negatedInverse_a1 := F_negatedInverse_a1.ext X9
  have F_montgomeryOfR_a1 := F_montgomeryOfR_a1.ext X9
  have F_roots_a1 := F_roots_a1.ext X9
  have F_inverseRoots_a1 := F_inverseRoots_a1.ext X9
  have V_nb6 := V_nb6.ext X9
  have V_nb9 : Ar Z h9 nb9 .int 2 (lf [(.int (0 : Int32)), (.int (0 : Int32))]) := V_nb9.congr (lf_rep 2 _)
  refine Jvm.OwnW.putF O9 di2147483647_80 (host := "") (Or.inl (hw _ (List.mem_of_getElem? (i := 23) rfl))) Via.refl F_inverseRoots_a1 E_a1 (Or.inr ⟨hw _ (List.mem_of_getElem? (i := 24) rfl), rfl, rfl⟩) (hw _ (List.mem_of_getElem? (i := 1) rfl)) (ty := (.array .int)) (by decide) rfl rfl (Or.inl (List.mem_cons_self ..)) (q := 83) rfl ?_
  intro T10 h10 O10 W10
  have E_a1 := E_a1.wr W10
  have F_modulus_a1 := F_modulus_a1.other W10 (Or.inr (slot_ne (Or.inr (hw _ (List.mem_of_getElem? (i := 10) rfl))) (Or.inr (hw _ (List.mem_of_getElem? (i := 24) rfl))) (by decide) (t := .long) (t' := (.array .int)) (by decide) (by decide)))
  have F_negatedInverse_a1 := F_negatedInverse_a1.other W10 (Or.inr (slot_ne (Or.inr (hw _ (List.mem_of_getElem? (i := 12) rfl))) (Or.inr (hw _ (List.mem_of_getElem? (i := 24) rfl))) (by decide) (t := .int) (t' := (.array .int)) (by decide) (by decide)))
  have F_montgomeryOfR_a1 := F_montgomeryOfR_a1.other W10 (Or.inr (slot_ne (Or.inr (hw _ (List.mem_of_getElem? (i := 15) rfl))) (Or.inr (hw _ (List.mem_of_getElem? (i := 24) rfl))) (by decide) (t := .long) (t' := (.array .int)) (by decide) (by decide)))
  have F_roots_a1 := F_roots_a1.other W10 (Or.inr (slot_ne (Or.inr (hw _ (List.mem_of_getElem? (i := 22) rfl))) (Or.inr (hw _ (List.mem_of_getElem? (i := 24) rfl))) (by decide) (t := (.array .int)) (t' := (.array .int)) (by decide) (by decide)))
  have F_inverseRoots_a1 := F_inverseRoots_a1.same W10
  have V_nb6 := V_nb6.other W10 (Ne.symm ne_a1_nb6)
  have V_nb9 := V_nb9.other W10 (Ne.symm ne_a1_nb9)
  refine Jvm.OwnW.aloadN O10 di2147483647_83 rfl rfl (q := 84) rfl ?_
  refine Jvm.OwnW.iloadN O10 di2147483647_84 rfl (q := 85) rfl ?_
  refine Jvm.OwnW.callP O10 (y := (⟨"com/example/vary5/vary5/NumberTheoreticTransform", "fillRoots", "(I)V"⟩ : MethodName)) (a := a1) (argsL := [(.int (2 : Int32))]) (rest := []) di2147483647_85 (hw _ (List.mem_of_getElem? (i := 25) rfl)) (hw _ (List.mem_of_getElem? (i := 26) rfl)) (hw _ (List.mem_of_getElem? (i := 27) rfl)) (hw _ (List.mem_of_getElem? (i := 1) rfl)) (hw _ (List.mem_of_getElem? (i := 2) rfl)) (hw _ (List.mem_of_getElem? (i := 28) rfl)) (by decide) (rm_f2147483647 l Z a0 hw a1 nb6 nb9 h10 E_a1 F_modulus_a1 F_negatedInverse_a1 F_montgomeryOfR_a1 F_roots_a1 F_inverseRoots_a1 V_nb6 V_nb9 ne_a1_nb6 ne_a1_nb9 ne_nb6_nb9) E_a1 rfl pd_4 rfl (hst := rfl) (W := 0) (Nat.le_of_eq rfl) (by decide) (by decide) (c2 := 2) (s2 := 4) rfl rfl (by decide) (by decide) (allS (Or.inr N6) (allS (Or.inr N9) all0)) (q := 88) rfl ?_
  intro v11 T11 h11 O11 K11 q11
  obtain rfl := q11
  have E_a1 := E_a1.keep K11
  have F_modulus_a1 := F_modulus_a1.keep K11 (ninS ne_a1_nb6 (ninS ne_a1_nb9 nin0))
  have F_negatedInverse_a1 := F_negatedInverse_a1.keep K11 (ninS ne_a1_nb6 (ninS ne_a1_nb9 nin0))
  have F_montgomeryOfR_a1 := F_montgomeryOfR_a1.keep K11 (ninS ne_a1_nb6 (ninS ne_a1_nb9 nin0))
  have F_roots_a1 := F_roots_a1.keep K11 (ninS ne_a1_nb6 (ninS ne_a1_nb9 nin0))
  have F_inverseRoots_a1 := F_inverseRoots_a1.keep K11 (ninS ne_a1_nb6 (ninS ne_a1_nb9 nin0))
  show Go C _ _ _ _ (T11.setTop (mkF C.m 88 #[.val (.ref a1), .val (.int (2147483647 : Int32)), .val (.int (2 : Int32)), .val (.int (2147483647 : Int32)), .val (.long (2 : Int64)), .second] []))
  exact Jvm.OwnW.ret0 O11 di2147483647_88 (by decide) (by decide) ⟨rfl, F_modulus_a1, F_negatedInverse_a1⟩
theorem own_main_2147483647 (x y r : Int64) (hr : fn_p (x &&& 4294967295) ((y &&& 9223372036854775807) % 2147483647) 2147483647 (-2147483647) = r) :
    ¬ r < 0 ∧ r < 2147483647 ∧ (r <<< ((32 : Int32) &&& 0x3f).toInt64) % 2147483647 = (((x &&& 4294967295) % 2147483647) * ((y &&& 9223372036854775807) % 2147483647)) % 2147483647 := by
  have hP : (2147483647 : Int64).toInt = 2147483647 := by decide
  have z0 : (0 : Int64).toInt = 0 := by decide
  have z1 : (-1 : Int64).toInt = -1 := by decide
  have hN : (-2147483647 : Int32).toInt = -2147483647 := by decide
  have ha := c_maskL x 4294967295 32 (by decide) (by decide)
  have hy := c_maskL y 9223372036854775807 63 (by decide) (by decide)
  have hb := rem64 (x := y &&& 9223372036854775807) hP (by omega)
  generalize (x &&& 4294967295) = a at hr ha ⊢
  generalize (y &&& 9223372036854775807) % 2147483647 = b at hr hb ⊢
  have hA0 : 0 ≤ a.toInt := by omega
  have hA1 : a.toInt ≤ 4294967295 := by omega
  have hB0 : 0 ≤ b.toInt := by omega
  have hB1 : b.toInt ≤ 2147483647 - 1 := by omega
  have hAB0 : 0 ≤ a.toInt * b.toInt := Int.mul_nonneg hA0 hB0
  have hAB1 : a.toInt * b.toInt ≤ 4294967295 * (2147483647 - 1) := Int.mul_le_mul hA1 hB1 hB0 (by decide)
  have ht : (a * b).toInt = a.toInt * b.toInt := mul64 (by omega) (by omega)
  unfold fn_p at hr
  generalize hTd : a * b = t at hr ht
  rw [← ht] at hAB0 hAB1
  have h1 := c_l2i t
  have h2 := c_imul t.toInt32 (-2147483647)
  rw [hN] at h2
  generalize t.toInt32 * (-2147483647 : Int32) = i at hr h2
  have h3 := c_i2l i
  have h4 := c_maskL i.toInt64 4294967295 32 (by decide) (by decide)
  generalize (i.toInt64 &&& 4294967295) = q at hr h4
  have h5 : (q * 2147483647).toInt = q.toInt * 2147483647 := by rw [mul64 (by rw [hP]; omega) (by rw [hP]; omega), hP]
  generalize q * 2147483647 = qm at hr h5
  have h6 := c_ladd t qm
  have h6' := rng64 (t + qm)
  generalize t + qm = s at hr h6 h6'
  have h7 := c_lushr s 32 32 (by decide) (by decide)
  generalize ((s.toUInt64 >>> ((32 : Int32) &&& 0x3f).toInt64.toUInt64).toInt64) = u at hr h7
  have hs : s.toInt % 18446744073709551616 = t.toInt + q.toInt * 2147483647 := by omega
  rw [hs] at h7
  have hdv : (t.toInt + q.toInt * 2147483647) % 4294967296 = 0 := by omega
  have hu : u.toInt * 4294967296 = t.toInt + q.toInt * 2147483647 := by omega
  have hu1 : 0 ≤ u.toInt ∧ u.toInt < 2 * 2147483647 := by omega
  have h8 : (u - 2147483647).toInt = u.toInt - 2147483647 := by rw [sub64 (by rw [hP]; omega) (by rw [hP]; omega), hP]
  generalize u - 2147483647 = r0 at hr h8
  have h9 := c_lshr r0 63 63 (by decide)
  have hrr : r.toInt * 4294967296 = t.toInt + q.toInt * 2147483647 ∨ r.toInt * 4294967296 = t.toInt + q.toInt * 2147483647 - 2147483647 * 4294967296 := by
    by_cases c : r0.toInt < 0
    · have e1 : (r0 >>> ((63 : Int32) &&& 0x3f).toInt64) = -1 := eq64 (by rw [h9]; omega)
      rw [e1, show ((-1 : Int64) &&& 2147483647) = 2147483647 from by decide] at hr
      have e2 : (r0 + 2147483647).toInt = r0.toInt + 2147483647 := by rw [add64 (by rw [hP]; omega) (by rw [hP]; omega), hP]
      rw [hr] at e2; left; omega
    · have e1 : (r0 >>> ((63 : Int32) &&& 0x3f).toInt64) = 0 := eq64 (by rw [h9]; omega)
      rw [e1, show ((0 : Int64) &&& 2147483647) = 0 from by decide, Int64.add_zero] at hr
      subst hr; right; omega
  have hr0 : 0 ≤ r.toInt ∧ r.toInt < 2147483647 := by
    by_cases c : r0.toInt < 0
    · have e1 : (r0 >>> ((63 : Int32) &&& 0x3f).toInt64) = -1 := eq64 (by rw [h9]; omega)
      rw [e1, show ((-1 : Int64) &&& 2147483647) = 2147483647 from by decide] at hr
      have e2 : (r0 + 2147483647).toInt = r0.toInt + 2147483647 := by rw [add64 (by rw [hP]; omega) (by rw [hP]; omega), hP]
      rw [hr] at e2; omega
    · have e1 : (r0 >>> ((63 : Int32) &&& 0x3f).toInt64) = 0 := eq64 (by rw [h9]; omega)
      rw [e1, show ((0 : Int64) &&& 2147483647) = 0 from by decide, Int64.add_zero] at hr
      subst hr; omega
  refine ⟨nlt64 (by omega), lt64 (by omega), eq64 ?_⟩
  have k1 := c_lshl r 32 32 (by decide)
  have k2 := rng64 (r <<< ((32 : Int32) &&& 0x3f).toInt64)
  generalize (r <<< ((32 : Int32) &&& 0x3f).toInt64) = rs at k1 k2 ⊢
  have k3 : rs.toInt = r.toInt * 4294967296 := by omega
  rw [rem64 hP (by omega), k3]
  have m1 : (a % 2147483647).toInt = a.toInt % 2147483647 := rem64 hP hA0
  have m2 : 0 ≤ a.toInt % 2147483647 := by omega
  have m3 : a.toInt % 2147483647 ≤ 2147483647 - 1 := by omega
  have m4 : 0 ≤ (a.toInt % 2147483647) * b.toInt := Int.mul_nonneg m2 hB0
  have m5 : (a.toInt % 2147483647) * b.toInt ≤ (2147483647 - 1) * (2147483647 - 1) := Int.mul_le_mul m3 hB1 hB0 (by decide)
  have m6 : ((a % 2147483647) * b).toInt = (a.toInt % 2147483647) * b.toInt := by rw [mul64 (by rw [m1]; omega) (by rw [m1]; omega), m1]
  rw [rem64 hP (by omega), m6]
  have m7 : ((a.toInt % 2147483647) * b.toInt) % 2147483647 = (a.toInt * b.toInt) % 2147483647 := by rw [Int.mul_emod, Int.emod_emod, ← Int.mul_emod]
  rw [m7, ← ht]
  rcases hrr with e | e <;> omega
theorem pd_5 : parseMethodDescriptor "(II)V" = some ⟨[.int, .int], none⟩ := by decide +kernel
theorem ef_0 (p0 : Int32) (p1 : Int64) (p2 : Int64) (m : MethodId) : entryFrame m #[(.int p0), (.long p1), (.long p2)] maxLocals = mkF m 0 #[.val (.int p0), .val (.long p1), .second, .val (.long p2), .second, .unset, .unset, .unset, .unset, .unset, .unset, .unset, .unset, .unset, .unset, .unset] [] := by first | (simp [entryFrame, mkF, argsToLocals, Value.category, maxLocals]; done) | rfl
theorem pn_0 : plainFor x = true := by first | exact plainFor_of_name (by first | (simp [plainName, overriddenIn]; done) | decide +kernel) | decide +kernel
set_option maxRecDepth 65536 in
set_option maxHeartbeats 40000000 in
theorem rm_0 (l : Launch) (Z : State) (a0 : Array Value) (hw : ∀ d ∈ tables_1, d.before a0 Z = true) (wds : List Jvm.Cond) (p0 : Int32) (p1 : Int64) (p2 : Int64) (h0 : Heap)  :
    Met l Z x code maxLocals ret wds room_1 #[(.int p0), (.long p1), (.long p2)] [] h0 (fun v h => v = some (.int 1)) := by
  refine Met.mk pn_0 (ef_0 p0 p1 p2) ?_
  intro C T hs0 O
  show Go C [] (fun v h => v = some (.int 1)) 16 128 (T.setTop (mkF C.m 0 #[.val (.int p0), .val (.long p1), .second, .val (.long p2), .second, .unset, .unset, .unset, .unset, .unset, .unset, .unset, .unset, .unset, .unset, .unset] []))
  refine Jvm.OwnW.iloadN O at_0 rfl (q := 1) rfl ?_
  refine Jvm.OwnW.iconst O at_1 (r := (3 : Int32)) rfl (q := 2) rfl ?_
  obtain ⟨kk, hkk⟩ : ∃ zz_, (p0 &&& (3 : Int32)) = zz_ := ⟨_, rfl⟩
  refine Jvm.OwnW.iand O at_2 hkk (q := 3) rfl ?_
  refine Jvm.OwnW.istore O at_3 (L' := #[.val (.int p0), .val (.long p1), .second, .val (.long p2), .second, .val (.int kk), .unset, .unset, .unset, .unset, .unset, .unset, .unset, .unset, .unset, .unset]) rfl (q := 5) rfl ?_
  refine Jvm.OwnW.iload O at_5 rfl (q := 7) rfl ?_
  by_cases hc7 : kk = (0 : Int32)
  · refine Jvm.OwnW.ifNo O at_7 (teq0 hc7).2 (q := 10) rfl ?_
    refine Jvm.OwnW.iconst O at_10 (r := (3 : Int32)) rfl (q := 11) rfl ?_
    refine Jvm.OwnW.goto O at_11 (by decide) (q := 37) rfl ?_
    refine Jvm.OwnW.istore O at_37 (L' := #[.val (.int p0), .val (.long p1), .second, .val (.long p2), .second, .val (.int kk), .val (.int (3 : Int32)), .unset, .unset, .unset, .unset, .unset, .unset, .unset, .unset, .unset]) rfl (q := 39) rfl ?_
    refine Jvm.OwnW.newO O at_39 (hw _ (List.mem_of_getElem? (i := 0) rfl)) (hw _ (List.mem_of_getElem? (i := 1) rfl)) (hw _ (List.mem_of_getElem? (i := 2) rfl)) (c2 := 1) (s2 := 5) rfl rfl (by decide) (by decide) (q := 42) rfl ?_
    intro a1 T1 h1 g1 N1 O1 X1 E_a1 D1
    have F_modulus_a1 : Fld Z h1 a1 "com/example/vary5/vary5/NumberTheoreticTransform" "modulus" "J" (.long (0 : Int64)) := D1 (Or.inr (hw _ (List.mem_of_getElem? (i := 10) rfl))) (ty := .long) (by decide)
    have F_negatedInverse_a1 : Fld Z h1 a1 "com/example/vary5/vary5/NumberTheoreticTransform" "negatedInverse" "I" (.int (0 : Int32)) := D1 (Or.inr (hw _ (List.mem_of_getElem? (i := 12) rfl))) (ty := .int) (by decide)
    have F_montgomeryOfR_a1 : Fld Z h1 a1 "com/example/vary5/vary5/NumberTheoreticTransform" "montgomeryOfR" "J" (.long (0 : Int64)) := D1 (Or.inr (hw _ (List.mem_of_getElem? (i := 15) rfl))) (ty := .long) (by decide)
    have F_roots_a1 : Fld Z h1 a1 "com/example/vary5/vary5/NumberTheoreticTransform" "roots" "[I" .null := D1 (Or.inr (hw _ (List.mem_of_getElem? (i := 22) rfl))) (ty := (.array .int)) (by decide)
    have F_inverseRoots_a1 : Fld Z h1 a1 "com/example/vary5/vary5/NumberTheoreticTransform" "inverseRoots" "[I" .null := D1 (Or.inr (hw _ (List.mem_of_getElem? (i := 24) rfl))) (ty := (.array .int)) (by decide)
    refine Jvm.OwnW.dup O1 at_42 rfl (q := 43) rfl ?_
    refine Jvm.OwnW.iload O1 at_43 rfl (q := 45) rfl ?_
    refine Jvm.OwnW.iconst O1 at_45 (r := (2 : Int32)) rfl (q := 46) rfl ?_
    refine Jvm.OwnW.callI O1 (y := (⟨"com/example/vary5/vary5/NumberTheoreticTransform", "<init>", "(II)V"⟩ : MethodName)) (a := a1) (argsL := [(.int (3 : Int32)), (.int (2 : Int32))]) (rest := [(.ref a1)]) at_46 rfl (hw _ (List.mem_of_getElem? (i := 3) rfl)) (hw _ (List.mem_of_getElem? (i := 4) rfl)) (hw _ (List.mem_of_getElem? (i := 2) rfl)) (hw _ (List.mem_of_getElem? (i := 5) rfl)) (by decide) (rm_i3 l Z a0 hw a1 h1 E_a1 F_modulus_a1 F_negatedInverse_a1 F_montgomeryOfR_a1 F_roots_a1 F_inverseRoots_a1) rfl pd_5 rfl (hst := rfl) (W := 1) (Nat.le_of_eq rfl) (by decide) (by decide) (c2 := 3) (s2 := 9) rfl rfl (by decide) (by decide) (allS (Or.inr N1) all0) (q := 49) rfl ?_
    intro v2 T2 h2 O2 K2 q2
    obtain ⟨rfl, F_modulus_a1, F_negatedInverse_a1⟩ := q2
    have E_a1 := E_a1.keep K2
    show Go C _ _ _ _ (T2.setTop (mkF C.m 49 #[.val (.int p0), .val (.long p1), .second, .val (.long p2), .second, .val (.int kk), .val (.int (3 : Int32)), .unset, .unset, .unset, .unset, .unset, .unset, .unset, .unset, .unset] [(.ref a1)]))
    refine Jvm.OwnW.astore O2 at_49 rfl (L' := #[.val (.int p0), .val (.long p1), .second, .val (.long p2), .second, .val (.int kk), .val (.int (3 : Int32)), .val (.ref a1), .unset, .unset, .unset, .unset, .unset, .unset, .unset, .unset]) rfl (q := 51) rfl ?_
    refine Jvm.OwnW.iload O2 at_51 rfl (q := 53) rfl ?_
    refine Jvm.OwnW.i2l O2 at_53 (r := (3 : Int64)) (by decide) (q := 54) rfl ?_
    refine Jvm.OwnW.lstore O2 at_54 (L' := #[.val (.int p0), .val (.long p1), .second, .val (.long p2), .second, .val (.int kk), .val (.int (3 : Int32)), .val (.ref a1), .val (.long (3 : Int64)), .second, .unset, .unset, .unset, .unset, .unset, .unset]) rfl (q := 56) rfl ?_
    refine Jvm.OwnW.lloadN O2 at_56 rfl (q := 57) rfl ?_
    refine Jvm.OwnW.ldcL O2 at_57 (hw _ (List.mem_of_getElem? (i := 49) rfl)) (q := 60) rfl ?_
    refine Jvm.OwnW.land O2 at_60 rfl (q := 61) rfl ?_
    refine Jvm.OwnW.lstore O2 at_61 (L' := #[.val (.int p0), .val (.long p1), .second, .val (.long p2), .second, .val (.int kk), .val (.int (3 : Int32)), .val (.ref a1), .val (.long (3 : Int64)), .second, .val (.long (p1 &&& (4294967295 : Int64))), .second, .unset, .unset, .unset, .unset]) rfl (q := 63) rfl ?_
    refine Jvm.OwnW.lloadN O2 at_63 rfl (q := 64) rfl ?_
    refine Jvm.OwnW.ldcL O2 at_64 (hw _ (List.mem_of_getElem? (i := 50) rfl)) (q := 67) rfl ?_
    refine Jvm.OwnW.land O2 at_67 rfl (q := 68) rfl ?_
    refine Jvm.OwnW.lload O2 at_68 rfl (q := 70) rfl ?_
    refine Jvm.OwnW.lrem O2 at_70 (by decide) rfl (q := 71) rfl ?_
    refine Jvm.OwnW.lstore O2 at_71 (L' := #[.val (.int p0), .val (.long p1), .second, .val (.long p2), .second, .val (.int kk), .val (.int (3 : Int32)), .val (.ref a1), .val (.long (3 : Int64)), .second, .val (.long (p1 &&& (4294967295 : Int64))), .second, .val (.long ((p2 &&& (9223372036854775807 : Int64)) % (3 : Int64))), .second, .unset, .unset]) rfl (q := 73) rfl ?_
    refine Jvm.OwnW.aload O2 at_73 rfl rfl (q := 75) rfl ?_
    refine Jvm.OwnW.lload O2 at_75 rfl (q := 77) rfl ?_
    refine Jvm.OwnW.lload O2 at_77 rfl (q := 79) rfl ?_
    refine Jvm.OwnW.callV0 O2 (y := (⟨"com/example/vary5/vary5/NumberTheoreticTransform", "product", "(JJ)J"⟩ : MethodName)) (z := (⟨"com/example/vary5/vary5/NumberTheoreticTransform", "product", "(JJ)J"⟩ : MethodName)) (a := a1) (argsL := [(.long (p1 &&& (4294967295 : Int64))), (.long ((p2 &&& (9223372036854775807 : Int64)) % (3 : Int64)))]) (rest := []) at_79 (hw _ (List.mem_of_getElem? (i := 51) rfl)) (hw _ (List.mem_of_getElem? (i := 44) rfl)) (hw _ (List.mem_of_getElem? (i := 46) rfl)) rfl (hw _ (List.mem_of_getElem? (i := 45) rfl)) (hw _ (List.mem_of_getElem? (i := 2) rfl)) (hw _ (List.mem_of_getElem? (i := 47) rfl)) (by decide) (rm_p l Z a0 hw a1 (p1 &&& (4294967295 : Int64)) ((p2 &&& (9223372036854775807 : Int64)) % (3 : Int64)) (3 : Int64) (1431655765 : Int32) h2 E_a1 F_modulus_a1 F_negatedInverse_a1) E_a1 rfl pd_0 rfl (hst := rfl) (W := 0) (Nat.le_of_eq rfl) (by decide) (by decide) (c2 := 3) (s2 := 9) rfl rfl (by decide) (by decide) rfl rfl (q := 82) rfl ?_
    intro v3 T3 O3 q3
    obtain rfl := q3
    show Go C _ _ _ _ (T3.setTop (mkF C.m 82 #[.val (.int p0), .val (.long p1), .second, .val (.long p2), .second, .val (.int kk), .val (.int (3 : Int32)), .val (.ref a1), .val (.long (3 : Int64)), .second, .val (.long (p1 &&& (4294967295 : Int64))), .second, .val (.long ((p2 &&& (9223372036854775807 : Int64)) % (3 : Int64))), .second, .unset, .unset] [(.long (fn_p (p1 &&& (4294967295 : Int64)) ((p2 &&& (9223372036854775807 : Int64)) % (3 : Int64)) (3 : Int64) (1431655765 : Int32)))]))
    obtain ⟨r, hr⟩ : ∃ zz_, (fn_p (p1 &&& (4294967295 : Int64)) ((p2 &&& (9223372036854775807 : Int64)) % (3 : Int64)) (3 : Int64) (1431655765 : Int32)) = zz_ := ⟨_, rfl⟩
    rw [hr]
    obtain ⟨hr1, hr2, hr3⟩ := own_main_3 p1 p2 r hr
    refine Jvm.OwnW.lstore O3 at_82 (L' := #[.val (.int p0), .val (.long p1), .second, .val (.long p2), .second, .val (.int kk), .val (.int (3 : Int32)), .val (.ref a1), .val (.long (3 : Int64)), .second, .val (.long (p1 &&& (4294967295 : Int64))), .second, .val (.long ((p2 &&& (9223372036854775807 : Int64)) % (3 : Int64))), .second, .val (.long r), .second]) rfl (q := 84) rfl ?_
    refine Jvm.OwnW.lload O3 at_84 rfl (q := 86) rfl ?_
    refine Jvm.OwnW.lconst O3 at_86 (r := (0 : Int64)) rfl (q := 87) rfl ?_
    refine Jvm.OwnW.lcmp O3 at_87 rfl (q := 88) rfl ?_
    refine Jvm.OwnW.ifNo O3 at_88 (fltL (show ¬ (r < (0 : Int64)) from hr1)).1 (q := 91) rfl ?_
    refine Jvm.OwnW.lload O3 at_91 rfl (q := 93) rfl ?_
    refine Jvm.OwnW.lload O3 at_93 rfl (q := 95) rfl ?_
    refine Jvm.OwnW.lcmp O3 at_95 rfl (q := 96) rfl ?_
    refine Jvm.OwnW.ifYes O3 at_96 (tltL (show r < (3 : Int64) from hr2)).1 (by decide) (q := 101) rfl ?_
    refine Jvm.OwnW.lload O3 at_101 rfl (q := 103) rfl ?_
    refine Jvm.OwnW.bipush O3 at_103 (r := (32 : Int32)) rfl (q := 105) rfl ?_
    refine Jvm.OwnW.lshl O3 at_105 rfl (q := 106) rfl ?_
    refine Jvm.OwnW.lload O3 at_106 rfl (q := 108) rfl ?_
    refine Jvm.OwnW.lrem O3 at_108 (by decide) rfl (q := 109) rfl ?_
    refine Jvm.OwnW.lload O3 at_109 rfl (q := 111) rfl ?_
    refine Jvm.OwnW.lload O3 at_111 rfl (q := 113) rfl ?_
    refine Jvm.OwnW.lrem O3 at_113 (by decide) rfl (q := 114) rfl ?_
    refine Jvm.OwnW.lload O3 at_114 rfl (q := 116) rfl ?_
    refine Jvm.OwnW.lmul O3 at_116 rfl (q := 117) rfl ?_
    refine Jvm.OwnW.lload O3 at_117 rfl (q := 119) rfl ?_
    refine Jvm.OwnW.lrem O3 at_119 (by decide) rfl (q := 120) rfl ?_
    refine Jvm.OwnW.lcmp O3 at_120 rfl (q := 121) rfl ?_
    refine Jvm.OwnW.ifNo O3 at_121 (teqL (show ((r <<< ((32 : Int32) &&& 0x3f).toInt64) % (3 : Int64)) = ((((p1 &&& (4294967295 : Int64)) % (3 : Int64)) * ((p2 &&& (9223372036854775807 : Int64)) % (3 : Int64))) % (3 : Int64)) from hr3)).2 (q := 124) rfl ?_
    refine Jvm.OwnW.iconst O3 at_124 (r := (1 : Int32)) rfl (q := 125) rfl ?_
    refine Jvm.OwnW.goto O3 at_125 (by decide) (q := 129) rfl ?_
    exact Jvm.OwnW.retB O3 at_129 rfl (Or.inr rfl) (by decide) (by decide) rfl
  · refine Jvm.OwnW.ifYes O at_7 (feq0 hc7).2 (by decide) (q := 14) rfl ?_
    refine Jvm.OwnW.iload O at_14 rfl (q := 16) rfl ?_
    refine Jvm.OwnW.iconst O at_16 (r := (1 : Int32)) rfl (q := 17) rfl ?_
    by_cases hc17 : kk = (1 : Int32)
    · refine Jvm.OwnW.icmpNo O at_17 (teq hc17).2 (q := 20) rfl ?_
      refine Jvm.OwnW.iconst O at_20 (r := (5 : Int32)) rfl (q := 21) rfl ?_
      refine Jvm.OwnW.goto O at_21 (by decide) (q := 37) rfl ?_
      refine Jvm.OwnW.istore O at_37 (L' := #[.val (.int p0), .val (.long p1), .second, .val (.long p2), .second, .val (.int kk), .val (.int (5 : Int32)), .unset, .unset, .unset, .unset, .unset, .unset, .unset, .unset, .unset]) rfl (q := 39) rfl ?_
      refine Jvm.OwnW.newO O at_39 (hw _ (List.mem_of_getElem? (i := 0) rfl)) (hw _ (List.mem_of_getElem? (i := 1) rfl)) (hw _ (List.mem_of_getElem? (i := 2) rfl)) (c2 := 1) (s2 := 5) rfl rfl (by decide) (by decide) (q := 42) rfl ?_
      intro a4 T4 h4 g4 N4 O4 X4 E_a4 D4
      have F_modulus_a4 : Fld Z h4 a4 "com/example/vary5/vary5/NumberTheoreticTransform" "modulus" "J" (.long (0 : Int64)) := D4 (Or.inr (hw _ (List.mem_of_getElem? (i := 10) rfl))) (ty := .long) (by decide)
      have F_negatedInverse_a4 : Fld Z h4 a4 "com/example/vary5/vary5/NumberTheoreticTransform" "negatedInverse" "I" (.int (0 : Int32)) := D4 (Or.inr (hw _ (List.mem_of_getElem? (i := 12) rfl))) (ty := .int) (by decide)
      have F_montgomeryOfR_a4 : Fld Z h4 a4 "com/example/vary5/vary5/NumberTheoreticTransform" "montgomeryOfR" "J" (.long (0 : Int64)) := D4 (Or.inr (hw _ (List.mem_of_getElem? (i := 15) rfl))) (ty := .long) (by decide)
      have F_roots_a4 : Fld Z h4 a4 "com/example/vary5/vary5/NumberTheoreticTransform" "roots" "[I" .null := D4 (Or.inr (hw _ (List.mem_of_getElem? (i := 22) rfl))) (ty := (.array .int)) (by decide)
      have F_inverseRoots_a4 : Fld Z h4 a4 "com/example/vary5/vary5/NumberTheoreticTransform" "inverseRoots" "[I" .null := D4 (Or.inr (hw _ (List.mem_of_getElem? (i := 24) rfl))) (ty := (.array .int)) (by decide)
      refine Jvm.OwnW.dup O4 at_42 rfl (q := 43) rfl ?_
      refine Jvm.OwnW.iload O4 at_43 rfl (q := 45) rfl ?_
      refine Jvm.OwnW.iconst O4 at_45 (r := (2 : Int32)) rfl (q := 46) rfl ?_
      refine Jvm.OwnW.callI O4 (y := (⟨"com/example/vary5/vary5/NumberTheoreticTransform", "<init>", "(II)V"⟩ : MethodName)) (a := a4) (argsL := [(.int (5 : Int32)), (.int (2 : Int32))]) (rest := [(.ref a4)]) at_46 rfl (hw _ (List.mem_of_getElem? (i := 3) rfl)) (hw _ (List.mem_of_getElem? (i := 4) rfl)) (hw _ (List.mem_of_getElem? (i := 2) rfl)) (hw _ (List.mem_of_getElem? (i := 5) rfl)) (by decide) (rm_i5 l Z a0 hw a4 h4 E_a4 F_modulus_a4 F_negatedInverse_a4 F_montgomeryOfR_a4 F_roots_a4 F_inverseRoots_a4) rfl pd_5 rfl (hst := rfl) (W := 1) (Nat.le_of_eq rfl) (by decide) (by decide) (c2 := 3) (s2 := 9) rfl rfl (by decide) (by decide) (allS (Or.inr N4) all0) (q := 49) rfl ?_
      intro v5 T5 h5 O5 K5 q5
      obtain ⟨rfl, F_modulus_a4, F_negatedInverse_a4⟩ := q5
      have E_a4 := E_a4.keep K5
      show Go C _ _ _ _ (T5.setTop (mkF C.m 49 #[.val (.int p0), .val (.long p1), .second, .val (.long p2), .second, .val (.int kk), .val (.int (5 : Int32)), .unset, .unset, .unset, .unset, .unset, .unset, .unset, .unset, .unset] [(.ref a4)]))
      refine Jvm.OwnW.astore O5 at_49 rfl (L' := #[.val (.int p0), .val (.long p1), .second, .val (.long p2), .second, .val (.int kk), .val (.int (5 : Int32)), .val (.ref a4), .unset, .unset, .unset, .unset, .unset, .unset, .unset, .unset]) rfl (q := 51) rfl ?_
      refine Jvm.OwnW.iload O5 at_51 rfl (q := 53) rfl ?_
      refine Jvm.OwnW.i2l O5 at_53 (r := (5 : Int64)) (by decide) (q := 54) rfl ?_
      refine Jvm.OwnW.lstore O5 at_54 (L' := #[.val (.int p0), .val (.long p1), .second, .val (.long p2), .second, .val (.int kk), .val (.int (5 : Int32)), .val (.ref a4), .val (.long (5 : Int64)), .second, .unset, .unset, .unset, .unset, .unset, .unset]) rfl (q := 56) rfl ?_
      refine Jvm.OwnW.lloadN O5 at_56 rfl (q := 57) rfl ?_
      refine Jvm.OwnW.ldcL O5 at_57 (hw _ (List.mem_of_getElem? (i := 49) rfl)) (q := 60) rfl ?_
      refine Jvm.OwnW.land O5 at_60 rfl (q := 61) rfl ?_
      refine Jvm.OwnW.lstore O5 at_61 (L' := #[.val (.int p0), .val (.long p1), .second, .val (.long p2), .second, .val (.int kk), .val (.int (5 : Int32)), .val (.ref a4), .val (.long (5 : Int64)), .second, .val (.long (p1 &&& (4294967295 : Int64))), .second, .unset, .unset, .unset, .unset]) rfl (q := 63) rfl ?_
      refine Jvm.OwnW.lloadN O5 at_63 rfl (q := 64) rfl ?_
      refine Jvm.OwnW.ldcL O5 at_64 (hw _ (List.mem_of_getElem? (i := 50) rfl)) (q := 67) rfl ?_
      refine Jvm.OwnW.land O5 at_67 rfl (q := 68) rfl ?_
      refine Jvm.OwnW.lload O5 at_68 rfl (q := 70) rfl ?_
      refine Jvm.OwnW.lrem O5 at_70 (by decide) rfl (q := 71) rfl ?_
      refine Jvm.OwnW.lstore O5 at_71 (L' := #[.val (.int p0), .val (.long p1), .second, .val (.long p2), .second, .val (.int kk), .val (.int (5 : Int32)), .val (.ref a4), .val (.long (5 : Int64)), .second, .val (.long (p1 &&& (4294967295 : Int64))), .second, .val (.long ((p2 &&& (9223372036854775807 : Int64)) % (5 : Int64))), .second, .unset, .unset]) rfl (q := 73) rfl ?_
      refine Jvm.OwnW.aload O5 at_73 rfl rfl (q := 75) rfl ?_
      refine Jvm.OwnW.lload O5 at_75 rfl (q := 77) rfl ?_
      refine Jvm.OwnW.lload O5 at_77 rfl (q := 79) rfl ?_
      refine Jvm.OwnW.callV0 O5 (y := (⟨"com/example/vary5/vary5/NumberTheoreticTransform", "product", "(JJ)J"⟩ : MethodName)) (z := (⟨"com/example/vary5/vary5/NumberTheoreticTransform", "product", "(JJ)J"⟩ : MethodName)) (a := a4) (argsL := [(.long (p1 &&& (4294967295 : Int64))), (.long ((p2 &&& (9223372036854775807 : Int64)) % (5 : Int64)))]) (rest := []) at_79 (hw _ (List.mem_of_getElem? (i := 51) rfl)) (hw _ (List.mem_of_getElem? (i := 44) rfl)) (hw _ (List.mem_of_getElem? (i := 46) rfl)) rfl (hw _ (List.mem_of_getElem? (i := 45) rfl)) (hw _ (List.mem_of_getElem? (i := 2) rfl)) (hw _ (List.mem_of_getElem? (i := 47) rfl)) (by decide) (rm_p l Z a0 hw a4 (p1 &&& (4294967295 : Int64)) ((p2 &&& (9223372036854775807 : Int64)) % (5 : Int64)) (5 : Int64) (858993459 : Int32) h5 E_a4 F_modulus_a4 F_negatedInverse_a4) E_a4 rfl pd_0 rfl (hst := rfl) (W := 0) (Nat.le_of_eq rfl) (by decide) (by decide) (c2 := 3) (s2 := 9) rfl rfl (by decide) (by decide) rfl rfl (q := 82) rfl ?_
      intro v6 T6 O6 q6
      obtain rfl := q6
      show Go C _ _ _ _ (T6.setTop (mkF C.m 82 #[.val (.int p0), .val (.long p1), .second, .val (.long p2), .second, .val (.int kk), .val (.int (5 : Int32)), .val (.ref a4), .val (.long (5 : Int64)), .second, .val (.long (p1 &&& (4294967295 : Int64))), .second, .val (.long ((p2 &&& (9223372036854775807 : Int64)) % (5 : Int64))), .second, .unset, .unset] [(.long (fn_p (p1 &&& (4294967295 : Int64)) ((p2 &&& (9223372036854775807 : Int64)) % (5 : Int64)) (5 : Int64) (858993459 : Int32)))]))
      obtain ⟨r, hr⟩ : ∃ zz_, (fn_p (p1 &&& (4294967295 : Int64)) ((p2 &&& (9223372036854775807 : Int64)) % (5 : Int64)) (5 : Int64) (858993459 : Int32)) = zz_ := ⟨_, rfl⟩
      rw [hr]
      obtain ⟨hr1, hr2, hr3⟩ := own_main_5 p1 p2 r hr
      refine Jvm.OwnW.lstore O6 at_82 (L' := #[.val (.int p0), .val (.long p1), .second, .val (.long p2), .second, .val (.int kk), .val (.int (5 : Int32)), .val (.ref a4), .val (.long (5 : Int64)), .second, .val (.long (p1 &&& (4294967295 : Int64))), .second, .val (.long ((p2 &&& (9223372036854775807 : Int64)) % (5 : Int64))), .second, .val (.long r), .second]) rfl (q := 84) rfl ?_
      refine Jvm.OwnW.lload O6 at_84 rfl (q := 86) rfl ?_
      refine Jvm.OwnW.lconst O6 at_86 (r := (0 : Int64)) rfl (q := 87) rfl ?_
      refine Jvm.OwnW.lcmp O6 at_87 rfl (q := 88) rfl ?_
      refine Jvm.OwnW.ifNo O6 at_88 (fltL (show ¬ (r < (0 : Int64)) from hr1)).1 (q := 91) rfl ?_
      refine Jvm.OwnW.lload O6 at_91 rfl (q := 93) rfl ?_
      refine Jvm.OwnW.lload O6 at_93 rfl (q := 95) rfl ?_
      refine Jvm.OwnW.lcmp O6 at_95 rfl (q := 96) rfl ?_
      refine Jvm.OwnW.ifYes O6 at_96 (tltL (show r < (5 : Int64) from hr2)).1 (by decide) (q := 101) rfl ?_
      refine Jvm.OwnW.lload O6 at_101 rfl (q := 103) rfl ?_
      refine Jvm.OwnW.bipush O6 at_103 (r := (32 : Int32)) rfl (q := 105) rfl ?_
      refine Jvm.OwnW.lshl O6 at_105 rfl (q := 106) rfl ?_
      refine Jvm.OwnW.lload O6 at_106 rfl (q := 108) rfl ?_
      refine Jvm.OwnW.lrem O6 at_108 (by decide) rfl (q := 109) rfl ?_
      refine Jvm.OwnW.lload O6 at_109 rfl (q := 111) rfl ?_
      refine Jvm.OwnW.lload O6 at_111 rfl (q := 113) rfl ?_
      refine Jvm.OwnW.lrem O6 at_113 (by decide) rfl (q := 114) rfl ?_
      refine Jvm.OwnW.lload O6 at_114 rfl (q := 116) rfl ?_
      refine Jvm.OwnW.lmul O6 at_116 rfl (q := 117) rfl ?_
      refine Jvm.OwnW.lload O6 at_117 rfl (q := 119) rfl ?_
      refine Jvm.OwnW.lrem O6 at_119 (by decide) rfl (q := 120) rfl ?_
      refine Jvm.OwnW.lcmp O6 at_120 rfl (q := 121) rfl ?_
      refine Jvm.OwnW.ifNo O6 at_121 (teqL (show ((r <<< ((32 : Int32) &&& 0x3f).toInt64) % (5 : Int64)) = ((((p1 &&& (4294967295 : Int64)) % (5 : Int64)) * ((p2 &&& (9223372036854775807 : Int64)) % (5 : Int64))) % (5 : Int64)) from hr3)).2 (q := 124) rfl ?_
      refine Jvm.OwnW.iconst O6 at_124 (r := (1 : Int32)) rfl (q := 125) rfl ?_
      refine Jvm.OwnW.goto O6 at_125 (by decide) (q := 129) rfl ?_
      exact Jvm.OwnW.retB O6 at_129 rfl (Or.inr rfl) (by decide) (by decide) rfl
    · refine Jvm.OwnW.icmpYes O at_17 (feq hc17).2 (by decide) (q := 24) rfl ?_
      refine Jvm.OwnW.iload O at_24 rfl (q := 26) rfl ?_
      refine Jvm.OwnW.iconst O at_26 (r := (2 : Int32)) rfl (q := 27) rfl ?_
      by_cases hc27 : kk = (2 : Int32)
      · refine Jvm.OwnW.icmpNo O at_27 (teq hc27).2 (q := 30) rfl ?_
        refine Jvm.OwnW.ldcI O at_30 (hw _ (List.mem_of_getElem? (i := 52) rfl)) (q := 32) rfl ?_
        refine Jvm.OwnW.goto O at_32 (by decide) (q := 37) rfl ?_
        refine Jvm.OwnW.istore O at_37 (L' := #[.val (.int p0), .val (.long p1), .second, .val (.long p2), .second, .val (.int kk), .val (.int (998244353 : Int32)), .unset, .unset, .unset, .unset, .unset, .unset, .unset, .unset, .unset]) rfl (q := 39) rfl ?_
        refine Jvm.OwnW.newO O at_39 (hw _ (List.mem_of_getElem? (i := 0) rfl)) (hw _ (List.mem_of_getElem? (i := 1) rfl)) (hw _ (List.mem_of_getElem? (i := 2) rfl)) (c2 := 1) (s2 := 5) rfl rfl (by decide) (by decide) (q := 42) rfl ?_
        intro a7 T7 h7 g7 N7 O7 X7 E_a7 D7
        have F_modulus_a7 : Fld Z h7 a7 "com/example/vary5/vary5/NumberTheoreticTransform" "modulus" "J" (.long (0 : Int64)) := D7 (Or.inr (hw _ (List.mem_of_getElem? (i := 10) rfl))) (ty := .long) (by decide)
        have F_negatedInverse_a7 : Fld Z h7 a7 "com/example/vary5/vary5/NumberTheoreticTransform" "negatedInverse" "I" (.int (0 : Int32)) := D7 (Or.inr (hw _ (List.mem_of_getElem? (i := 12) rfl))) (ty := .int) (by decide)
        have F_montgomeryOfR_a7 : Fld Z h7 a7 "com/example/vary5/vary5/NumberTheoreticTransform" "montgomeryOfR" "J" (.long (0 : Int64)) := D7 (Or.inr (hw _ (List.mem_of_getElem? (i := 15) rfl))) (ty := .long) (by decide)
        have F_roots_a7 : Fld Z h7 a7 "com/example/vary5/vary5/NumberTheoreticTransform" "roots" "[I" .null := D7 (Or.inr (hw _ (List.mem_of_getElem? (i := 22) rfl))) (ty := (.array .int)) (by decide)
        have F_inverseRoots_a7 : Fld Z h7 a7 "com/example/vary5/vary5/NumberTheoreticTransform" "inverseRoots" "[I" .null := D7 (Or.inr (hw _ (List.mem_of_getElem? (i := 24) rfl))) (ty := (.array .int)) (by decide)
        refine Jvm.OwnW.dup O7 at_42 rfl (q := 43) rfl ?_
        refine Jvm.OwnW.iload O7 at_43 rfl (q := 45) rfl ?_
        refine Jvm.OwnW.iconst O7 at_45 (r := (2 : Int32)) rfl (q := 46) rfl ?_
        refine Jvm.OwnW.callI O7 (y := (⟨"com/example/vary5/vary5/NumberTheoreticTransform", "<init>", "(II)V"⟩ : MethodName)) (a := a7) (argsL := [(.int (998244353 : Int32)), (.int (2 : Int32))]) (rest := [(.ref a7)]) at_46 rfl (hw _ (List.mem_of_getElem? (i := 3) rfl)) (hw _ (List.mem_of_getElem? (i := 4) rfl)) (hw _ (List.mem_of_getElem? (i := 2) rfl)) (hw _ (List.mem_of_getElem? (i := 5) rfl)) (by decide) (rm_i998244353 l Z a0 hw a7 h7 E_a7 F_modulus_a7 F_negatedInverse_a7 F_montgomeryOfR_a7 F_roots_a7 F_inverseRoots_a7) rfl pd_5 rfl (hst := rfl) (W := 1) (Nat.le_of_eq rfl) (by decide) (by decide) (c2 := 3) (s2 := 9) rfl rfl (by decide) (by decide) (allS (Or.inr N7) all0) (q := 49) rfl ?_
        intro v8 T8 h8 O8 K8 q8
        obtain ⟨rfl, F_modulus_a7, F_negatedInverse_a7⟩ := q8
        have E_a7 := E_a7.keep K8
        show Go C _ _ _ _ (T8.setTop (mkF C.m 49 #[.val (.int p0), .val (.long p1), .second, .val (.long p2), .second, .val (.int kk), .val (.int (998244353 : Int32)), .unset, .unset, .unset, .unset, .unset, .unset, .unset, .unset, .unset] [(.ref a7)]))
        refine Jvm.OwnW.astore O8 at_49 rfl (L' := #[.val (.int p0), .val (.long p1), .second, .val (.long p2), .second, .val (.int kk), .val (.int (998244353 : Int32)), .val (.ref a7), .unset, .unset, .unset, .unset, .unset, .unset, .unset, .unset]) rfl (q := 51) rfl ?_
        refine Jvm.OwnW.iload O8 at_51 rfl (q := 53) rfl ?_
        refine Jvm.OwnW.i2l O8 at_53 (r := (998244353 : Int64)) (by decide) (q := 54) rfl ?_
        refine Jvm.OwnW.lstore O8 at_54 (L' := #[.val (.int p0), .val (.long p1), .second, .val (.long p2), .second, .val (.int kk), .val (.int (998244353 : Int32)), .val (.ref a7), .val (.long (998244353 : Int64)), .second, .unset, .unset, .unset, .unset, .unset, .unset]) rfl (q := 56) rfl ?_
        refine Jvm.OwnW.lloadN O8 at_56 rfl (q := 57) rfl ?_
        refine Jvm.OwnW.ldcL O8 at_57 (hw _ (List.mem_of_getElem? (i := 49) rfl)) (q := 60) rfl ?_
        refine Jvm.OwnW.land O8 at_60 rfl (q := 61) rfl ?_
        refine Jvm.OwnW.lstore O8 at_61 (L' := #[.val (.int p0), .val (.long p1), .second, .val (.long p2), .second, .val (.int kk), .val (.int (998244353 : Int32)), .val (.ref a7), .val (.long (998244353 : Int64)), .second, .val (.long (p1 &&& (4294967295 : Int64))), .second, .unset, .unset, .unset, .unset]) rfl (q := 63) rfl ?_
        refine Jvm.OwnW.lloadN O8 at_63 rfl (q := 64) rfl ?_
        refine Jvm.OwnW.ldcL O8 at_64 (hw _ (List.mem_of_getElem? (i := 50) rfl)) (q := 67) rfl ?_
        refine Jvm.OwnW.land O8 at_67 rfl (q := 68) rfl ?_
        refine Jvm.OwnW.lload O8 at_68 rfl (q := 70) rfl ?_
        refine Jvm.OwnW.lrem O8 at_70 (by decide) rfl (q := 71) rfl ?_
        refine Jvm.OwnW.lstore O8 at_71 (L' := #[.val (.int p0), .val (.long p1), .second, .val (.long p2), .second, .val (.int kk), .val (.int (998244353 : Int32)), .val (.ref a7), .val (.long (998244353 : Int64)), .second, .val (.long (p1 &&& (4294967295 : Int64))), .second, .val (.long ((p2 &&& (9223372036854775807 : Int64)) % (998244353 : Int64))), .second, .unset, .unset]) rfl (q := 73) rfl ?_
        refine Jvm.OwnW.aload O8 at_73 rfl rfl (q := 75) rfl ?_
        refine Jvm.OwnW.lload O8 at_75 rfl (q := 77) rfl ?_
        refine Jvm.OwnW.lload O8 at_77 rfl (q := 79) rfl ?_
        refine Jvm.OwnW.callV0 O8 (y := (⟨"com/example/vary5/vary5/NumberTheoreticTransform", "product", "(JJ)J"⟩ : MethodName)) (z := (⟨"com/example/vary5/vary5/NumberTheoreticTransform", "product", "(JJ)J"⟩ : MethodName)) (a := a7) (argsL := [(.long (p1 &&& (4294967295 : Int64))), (.long ((p2 &&& (9223372036854775807 : Int64)) % (998244353 : Int64)))]) (rest := []) at_79 (hw _ (List.mem_of_getElem? (i := 51) rfl)) (hw _ (List.mem_of_getElem? (i := 44) rfl)) (hw _ (List.mem_of_getElem? (i := 46) rfl)) rfl (hw _ (List.mem_of_getElem? (i := 45) rfl)) (hw _ (List.mem_of_getElem? (i := 2) rfl)) (hw _ (List.mem_of_getElem? (i := 47) rfl)) (by decide) (rm_p l Z a0 hw a7 (p1 &&& (4294967295 : Int64)) ((p2 &&& (9223372036854775807 : Int64)) % (998244353 : Int64)) (998244353 : Int64) (998244351 : Int32) h8 E_a7 F_modulus_a7 F_negatedInverse_a7) E_a7 rfl pd_0 rfl (hst := rfl) (W := 0) (Nat.le_of_eq rfl) (by decide) (by decide) (c2 := 3) (s2 := 9) rfl rfl (by decide) (by decide) rfl rfl (q := 82) rfl ?_
        intro v9 T9 O9 q9
        obtain rfl := q9
        show Go C _ _ _ _ (T9.setTop (mkF C.m 82 #[.val (.int p0), .val (.long p1), .second, .val (.long p2), .second, .val (.int kk), .val (.int (998244353 : Int32)), .val (.ref a7), .val (.long (998244353 : Int64)), .second, .val (.long (p1 &&& (4294967295 : Int64))), .second, .val (.long ((p2 &&& (9223372036854775807 : Int64)) % (998244353 : Int64))), .second, .unset, .unset] [(.long (fn_p (p1 &&& (4294967295 : Int64)) ((p2 &&& (9223372036854775807 : Int64)) % (998244353 : Int64)) (998244353 : Int64) (998244351 : Int32)))]))
        obtain ⟨r, hr⟩ : ∃ zz_, (fn_p (p1 &&& (4294967295 : Int64)) ((p2 &&& (9223372036854775807 : Int64)) % (998244353 : Int64)) (998244353 : Int64) (998244351 : Int32)) = zz_ := ⟨_, rfl⟩
        rw [hr]
        obtain ⟨hr1, hr2, hr3⟩ := own_main_998244353 p1 p2 r hr
        refine Jvm.OwnW.lstore O9 at_82 (L' := #[.val (.int p0), .val (.long p1), .second, .val (.long p2), .second, .val (.int kk), .val (.int (998244353 : Int32)), .val (.ref a7), .val (.long (998244353 : Int64)), .second, .val (.long (p1 &&& (4294967295 : Int64))), .second, .val (.long ((p2 &&& (9223372036854775807 : Int64)) % (998244353 : Int64))), .second, .val (.long r), .second]) rfl (q := 84) rfl ?_
        refine Jvm.OwnW.lload O9 at_84 rfl (q := 86) rfl ?_
        refine Jvm.OwnW.lconst O9 at_86 (r := (0 : Int64)) rfl (q := 87) rfl ?_
        refine Jvm.OwnW.lcmp O9 at_87 rfl (q := 88) rfl ?_
        refine Jvm.OwnW.ifNo O9 at_88 (fltL (show ¬ (r < (0 : Int64)) from hr1)).1 (q := 91) rfl ?_
        refine Jvm.OwnW.lload O9 at_91 rfl (q := 93) rfl ?_
        refine Jvm.OwnW.lload O9 at_93 rfl (q := 95) rfl ?_
        refine Jvm.OwnW.lcmp O9 at_95 rfl (q := 96) rfl ?_
        refine Jvm.OwnW.ifYes O9 at_96 (tltL (show r < (998244353 : Int64) from hr2)).1 (by decide) (q := 101) rfl ?_
        refine Jvm.OwnW.lload O9 at_101 rfl (q := 103) rfl ?_
        refine Jvm.OwnW.bipush O9 at_103 (r := (32 : Int32)) rfl (q := 105) rfl ?_
        refine Jvm.OwnW.lshl O9 at_105 rfl (q := 106) rfl ?_
        refine Jvm.OwnW.lload O9 at_106 rfl (q := 108) rfl ?_
        refine Jvm.OwnW.lrem O9 at_108 (by decide) rfl (q := 109) rfl ?_
        refine Jvm.OwnW.lload O9 at_109 rfl (q := 111) rfl ?_
        refine Jvm.OwnW.lload O9 at_111 rfl (q := 113) rfl ?_
        refine Jvm.OwnW.lrem O9 at_113 (by decide) rfl (q := 114) rfl ?_
        refine Jvm.OwnW.lload O9 at_114 rfl (q := 116) rfl ?_
        refine Jvm.OwnW.lmul O9 at_116 rfl (q := 117) rfl ?_
        refine Jvm.OwnW.lload O9 at_117 rfl (q := 119) rfl ?_
        refine Jvm.OwnW.lrem O9 at_119 (by decide) rfl (q := 120) rfl ?_
        refine Jvm.OwnW.lcmp O9 at_120 rfl (q := 121) rfl ?_
        refine Jvm.OwnW.ifNo O9 at_121 (teqL (show ((r <<< ((32 : Int32) &&& 0x3f).toInt64) % (998244353 : Int64)) = ((((p1 &&& (4294967295 : Int64)) % (998244353 : Int64)) * ((p2 &&& (9223372036854775807 : Int64)) % (998244353 : Int64))) % (998244353 : Int64)) from hr3)).2 (q := 124) rfl ?_
        refine Jvm.OwnW.iconst O9 at_124 (r := (1 : Int32)) rfl (q := 125) rfl ?_
        refine Jvm.OwnW.goto O9 at_125 (by decide) (q := 129) rfl ?_
        exact Jvm.OwnW.retB O9 at_129 rfl (Or.inr rfl) (by decide) (by decide) rfl
      · refine Jvm.OwnW.icmpYes O at_27 (feq hc27).2 (by decide) (q := 35) rfl ?_
        refine Jvm.OwnW.ldcI O at_35 (hw _ (List.mem_of_getElem? (i := 53) rfl)) (q := 37) rfl ?_
        refine Jvm.OwnW.istore O at_37 (L' := #[.val (.int p0), .val (.long p1), .second, .val (.long p2), .second, .val (.int kk), .val (.int (2147483647 : Int32)), .unset, .unset, .unset, .unset, .unset, .unset, .unset, .unset, .unset]) rfl (q := 39) rfl ?_
        refine Jvm.OwnW.newO O at_39 (hw _ (List.mem_of_getElem? (i := 0) rfl)) (hw _ (List.mem_of_getElem? (i := 1) rfl)) (hw _ (List.mem_of_getElem? (i := 2) rfl)) (c2 := 1) (s2 := 5) rfl rfl (by decide) (by decide) (q := 42) rfl ?_
        intro a10 T10 h10 g10 N10 O10 X10 E_a10 D10
        have F_modulus_a10 : Fld Z h10 a10 "com/example/vary5/vary5/NumberTheoreticTransform" "modulus" "J" (.long (0 : Int64)) := D10 (Or.inr (hw _ (List.mem_of_getElem? (i := 10) rfl))) (ty := .long) (by decide)
        have F_negatedInverse_a10 : Fld Z h10 a10 "com/example/vary5/vary5/NumberTheoreticTransform" "negatedInverse" "I" (.int (0 : Int32)) := D10 (Or.inr (hw _ (List.mem_of_getElem? (i := 12) rfl))) (ty := .int) (by decide)
        have F_montgomeryOfR_a10 : Fld Z h10 a10 "com/example/vary5/vary5/NumberTheoreticTransform" "montgomeryOfR" "J" (.long (0 : Int64)) := D10 (Or.inr (hw _ (List.mem_of_getElem? (i := 15) rfl))) (ty := .long) (by decide)
        have F_roots_a10 : Fld Z h10 a10 "com/example/vary5/vary5/NumberTheoreticTransform" "roots" "[I" .null := D10 (Or.inr (hw _ (List.mem_of_getElem? (i := 22) rfl))) (ty := (.array .int)) (by decide)
        have F_inverseRoots_a10 : Fld Z h10 a10 "com/example/vary5/vary5/NumberTheoreticTransform" "inverseRoots" "[I" .null := D10 (Or.inr (hw _ (List.mem_of_getElem? (i := 24) rfl))) (ty := (.array .int)) (by decide)
        refine Jvm.OwnW.dup O10 at_42 rfl (q := 43) rfl ?_
        refine Jvm.OwnW.iload O10 at_43 rfl (q := 45) rfl ?_
        refine Jvm.OwnW.iconst O10 at_45 (r := (2 : Int32)) rfl (q := 46) rfl ?_
        refine Jvm.OwnW.callI O10 (y := (⟨"com/example/vary5/vary5/NumberTheoreticTransform", "<init>", "(II)V"⟩ : MethodName)) (a := a10) (argsL := [(.int (2147483647 : Int32)), (.int (2 : Int32))]) (rest := [(.ref a10)]) at_46 rfl (hw _ (List.mem_of_getElem? (i := 3) rfl)) (hw _ (List.mem_of_getElem? (i := 4) rfl)) (hw _ (List.mem_of_getElem? (i := 2) rfl)) (hw _ (List.mem_of_getElem? (i := 5) rfl)) (by decide) (rm_i2147483647 l Z a0 hw a10 h10 E_a10 F_modulus_a10 F_negatedInverse_a10 F_montgomeryOfR_a10 F_roots_a10 F_inverseRoots_a10) rfl pd_5 rfl (hst := rfl) (W := 1) (Nat.le_of_eq rfl) (by decide) (by decide) (c2 := 3) (s2 := 9) rfl rfl (by decide) (by decide) (allS (Or.inr N10) all0) (q := 49) rfl ?_
        intro v11 T11 h11 O11 K11 q11
        obtain ⟨rfl, F_modulus_a10, F_negatedInverse_a10⟩ := q11
        have E_a10 := E_a10.keep K11
        show Go C _ _ _ _ (T11.setTop (mkF C.m 49 #[.val (.int p0), .val (.long p1), .second, .val (.long p2), .second, .val (.int kk), .val (.int (2147483647 : Int32)), .unset, .unset, .unset, .unset, .unset, .unset, .unset, .unset, .unset] [(.ref a10)]))
        refine Jvm.OwnW.astore O11 at_49 rfl (L' := #[.val (.int p0), .val (.long p1), .second, .val (.long p2), .second, .val (.int kk), .val (.int (2147483647 : Int32)), .val (.ref a10), .unset, .unset, .unset, .unset, .unset, .unset, .unset, .unset]) rfl (q := 51) rfl ?_
        refine Jvm.OwnW.iload O11 at_51 rfl (q := 53) rfl ?_
        refine Jvm.OwnW.i2l O11 at_53 (r := (2147483647 : Int64)) (by decide) (q := 54) rfl ?_
        refine Jvm.OwnW.lstore O11 at_54 (L' := #[.val (.int p0), .val (.long p1), .second, .val (.long p2), .second, .val (.int kk), .val (.int (2147483647 : Int32)), .val (.ref a10), .val (.long (2147483647 : Int64)), .second, .unset, .unset, .unset, .unset, .unset, .unset]) rfl (q := 56) rfl ?_
        refine Jvm.OwnW.lloadN O11 at_56 rfl (q := 57) rfl ?_
        refine Jvm.OwnW.ldcL O11 at_57 (hw _ (List.mem_of_getElem? (i := 49) rfl)) (q := 60) rfl ?_
        refine Jvm.OwnW.land O11 at_60 rfl (q := 61) rfl ?_
        refine Jvm.OwnW.lstore O11 at_61 (L' := #[.val (.int p0), .val (.long p1), .second, .val (.long p2), .second, .val (.int kk), .val (.int (2147483647 : Int32)), .val (.ref a10), .val (.long (2147483647 : Int64)), .second, .val (.long (p1 &&& (4294967295 : Int64))), .second, .unset, .unset, .unset, .unset]) rfl (q := 63) rfl ?_
        refine Jvm.OwnW.lloadN O11 at_63 rfl (q := 64) rfl ?_
        refine Jvm.OwnW.ldcL O11 at_64 (hw _ (List.mem_of_getElem? (i := 50) rfl)) (q := 67) rfl ?_
        refine Jvm.OwnW.land O11 at_67 rfl (q := 68) rfl ?_
        refine Jvm.OwnW.lload O11 at_68 rfl (q := 70) rfl ?_
        refine Jvm.OwnW.lrem O11 at_70 (by decide) rfl (q := 71) rfl ?_
        refine Jvm.OwnW.lstore O11 at_71 (L' := #[.val (.int p0), .val (.long p1), .second, .val (.long p2), .second, .val (.int kk), .val (.int (2147483647 : Int32)), .val (.ref a10), .val (.long (2147483647 : Int64)), .second, .val (.long (p1 &&& (4294967295 : Int64))), .second, .val (.long ((p2 &&& (9223372036854775807 : Int64)) % (2147483647 : Int64))), .second, .unset, .unset]) rfl (q := 73) rfl ?_
        refine Jvm.OwnW.aload O11 at_73 rfl rfl (q := 75) rfl ?_
        refine Jvm.OwnW.lload O11 at_75 rfl (q := 77) rfl ?_
        refine Jvm.OwnW.lload O11 at_77 rfl (q := 79) rfl ?_
        refine Jvm.OwnW.callV0 O11 (y := (⟨"com/example/vary5/vary5/NumberTheoreticTransform", "product", "(JJ)J"⟩ : MethodName)) (z := (⟨"com/example/vary5/vary5/NumberTheoreticTransform", "product", "(JJ)J"⟩ : MethodName)) (a := a10) (argsL := [(.long (p1 &&& (4294967295 : Int64))), (.long ((p2 &&& (9223372036854775807 : Int64)) % (2147483647 : Int64)))]) (rest := []) at_79 (hw _ (List.mem_of_getElem? (i := 51) rfl)) (hw _ (List.mem_of_getElem? (i := 44) rfl)) (hw _ (List.mem_of_getElem? (i := 46) rfl)) rfl (hw _ (List.mem_of_getElem? (i := 45) rfl)) (hw _ (List.mem_of_getElem? (i := 2) rfl)) (hw _ (List.mem_of_getElem? (i := 47) rfl)) (by decide) (rm_p l Z a0 hw a10 (p1 &&& (4294967295 : Int64)) ((p2 &&& (9223372036854775807 : Int64)) % (2147483647 : Int64)) (2147483647 : Int64) (-2147483647 : Int32) h11 E_a10 F_modulus_a10 F_negatedInverse_a10) E_a10 rfl pd_0 rfl (hst := rfl) (W := 0) (Nat.le_of_eq rfl) (by decide) (by decide) (c2 := 3) (s2 := 9) rfl rfl (by decide) (by decide) rfl rfl (q := 82) rfl ?_
        intro v12 T12 O12 q12
        obtain rfl := q12
        show Go C _ _ _ _ (T12.setTop (mkF C.m 82 #[.val (.int p0), .val (.long p1), .second, .val (.long p2), .second, .val (.int kk), .val (.int (2147483647 : Int32)), .val (.ref a10), .val (.long (2147483647 : Int64)), .second, .val (.long (p1 &&& (4294967295 : Int64))), .second, .val (.long ((p2 &&& (9223372036854775807 : Int64)) % (2147483647 : Int64))), .second, .unset, .unset] [(.long (fn_p (p1 &&& (4294967295 : Int64)) ((p2 &&& (9223372036854775807 : Int64)) % (2147483647 : Int64)) (2147483647 : Int64) (-2147483647 : Int32)))]))
        obtain ⟨r, hr⟩ : ∃ zz_, (fn_p (p1 &&& (4294967295 : Int64)) ((p2 &&& (9223372036854775807 : Int64)) % (2147483647 : Int64)) (2147483647 : Int64) (-2147483647 : Int32)) = zz_ := ⟨_, rfl⟩
        rw [hr]
        obtain ⟨hr1, hr2, hr3⟩ := own_main_2147483647 p1 p2 r hr
        refine Jvm.OwnW.lstore O12 at_82 (L' := #[.val (.int p0), .val (.long p1), .second, .val (.long p2), .second, .val (.int kk), .val (.int (2147483647 : Int32)), .val (.ref a10), .val (.long (2147483647 : Int64)), .second, .val (.long (p1 &&& (4294967295 : Int64))), .second, .val (.long ((p2 &&& (9223372036854775807 : Int64)) % (2147483647 : Int64))), .second, .val (.long r), .second]) rfl (q := 84) rfl ?_
        refine Jvm.OwnW.lload O12 at_84 rfl (q := 86) rfl ?_
        refine Jvm.OwnW.lconst O12 at_86 (r := (0 : Int64)) rfl (q := 87) rfl ?_
        refine Jvm.OwnW.lcmp O12 at_87 rfl (q := 88) rfl ?_
        refine Jvm.OwnW.ifNo O12 at_88 (fltL (show ¬ (r < (0 : Int64)) from hr1)).1 (q := 91) rfl ?_
        refine Jvm.OwnW.lload O12 at_91 rfl (q := 93) rfl ?_
        refine Jvm.OwnW.lload O12 at_93 rfl (q := 95) rfl ?_
        refine Jvm.OwnW.lcmp O12 at_95 rfl (q := 96) rfl ?_
        refine Jvm.OwnW.ifYes O12 at_96 (tltL (show r < (2147483647 : Int64) from hr2)).1 (by decide) (q := 101) rfl ?_
        refine Jvm.OwnW.lload O12 at_101 rfl (q := 103) rfl ?_
        refine Jvm.OwnW.bipush O12 at_103 (r := (32 : Int32)) rfl (q := 105) rfl ?_
        refine Jvm.OwnW.lshl O12 at_105 rfl (q := 106) rfl ?_
        refine Jvm.OwnW.lload O12 at_106 rfl (q := 108) rfl ?_
        refine Jvm.OwnW.lrem O12 at_108 (by decide) rfl (q := 109) rfl ?_
        refine Jvm.OwnW.lload O12 at_109 rfl (q := 111) rfl ?_
        refine Jvm.OwnW.lload O12 at_111 rfl (q := 113) rfl ?_
        refine Jvm.OwnW.lrem O12 at_113 (by decide) rfl (q := 114) rfl ?_
        refine Jvm.OwnW.lload O12 at_114 rfl (q := 116) rfl ?_
        refine Jvm.OwnW.lmul O12 at_116 rfl (q := 117) rfl ?_
        refine Jvm.OwnW.lload O12 at_117 rfl (q := 119) rfl ?_
        refine Jvm.OwnW.lrem O12 at_119 (by decide) rfl (q := 120) rfl ?_
        refine Jvm.OwnW.lcmp O12 at_120 rfl (q := 121) rfl ?_
        refine Jvm.OwnW.ifNo O12 at_121 (teqL (show ((r <<< ((32 : Int32) &&& 0x3f).toInt64) % (2147483647 : Int64)) = ((((p1 &&& (4294967295 : Int64)) % (2147483647 : Int64)) * ((p2 &&& (9223372036854775807 : Int64)) % (2147483647 : Int64))) % (2147483647 : Int64)) from hr3)).2 (q := 124) rfl ?_
        refine Jvm.OwnW.iconst O12 at_124 (r := (1 : Int32)) rfl (q := 125) rfl ?_
        refine Jvm.OwnW.goto O12 at_125 (by decide) (q := 129) rfl ?_
        exact Jvm.OwnW.retB O12 at_129 rfl (Or.inr rfl) (by decide) (by decide) rfl
set_option maxRecDepth 65536 in
set_option maxHeartbeats 40000000 in
theorem comes_1 {Post : Tables → Env → Array Value → State → Outcome → State → Prop} (hpost : ∀ tb e args s v u, (limb_1_1.after args s (.returned v) u = true ∧ limb_1_2.after args s (.returned v) u = true ∧ True) → FrameEnd s (.returned v) u (Jvm.fieldLocs frame_1_writes args s ++ Jvm.arrayLocs frame_1_arrays args s ++ Jvm.staticLocs frame_1_statics s) 16 128 → Post tb e args s (.returned v) u) :
    ArmFor flags0 classFile x code maxLocals ret World_1 tables_1 room_1 Calls_1 rest_1 Pre_1 Post := by
  intro l hfl _ _ p e ha hc hk s m args below hf hA hF happ hP
  obtain ⟨hcalls, hrest, hpre⟩ := hP
  obtain ⟨-, -, -, hnamed, -, -, -, hat⟩ := (Spec.applies_iff hf).mp happ
  obtain ⟨hg, hn⟩ := and_e (Cond.before_iff.mp (show (Jvm.Cond.and given_1 narrow_1).before args s = true from hpre))
  obtain ⟨hn1, hg⟩ := and_e hg
  obtain ⟨w0, w1, w2, rfl⟩ : ∃ w0 w1 w2 : Value, args = #[w0, w1, w2] := by
    have hs : args.size = 3 := by simpa [Cond.value, given_1] using hn1
    obtain ⟨L⟩ := args
    match L, hs with
    | [w0, w1, w2], _ => exact ⟨w0, w1, w2, rfl⟩
  have hw := fun d (hd : d ∈ tables_1) => atoms_spec (ws := Jvm.Cond.code x code maxLocals ret :: tables_1) hat d (List.mem_cons_of_mem _ hd)
  obtain ⟨hg0, hg⟩ := and_e hg
  obtain ⟨i0, e0⟩ := is_v hg0
  obtain rfl : w0 = (.int i0) := Option.some.inj e0
  obtain ⟨hg1, hg⟩ := and_e hg
  obtain ⟨i1, e1⟩ := isL_v hg1
  obtain rfl : w1 = (.long i1) := Option.some.inj e1
  obtain ⟨i2, e2⟩ := isL_v hg
  obtain rfl : w2 = (.long i2) := Option.some.inj e2

  obtain ⟨n, o, h1, h2, h3, _, L, rfl, ⟨N, -, -, rfl⟩, hq⟩ := rm_0 l s _ hw tables_1 i0 i1 i2 s.heap  p e ha hc hk s m _ below hf ((Spec.applies_iff_loose hf).mp happ).1 ⟨rfl, State.Warmed39.refl s, rfl⟩ trivial
  refine ⟨n, _, h1, h2, h3, hpost _ _ _ _ _ _ ⟨Cond.after_iff.mpr rfl, Cond.after_iff.mpr (eq_i res_at (Term.int_eval (1)) rfl), trivial⟩ ⟨hq.1, hq.2.1, (hq.2.2.sift fun y hy => Or.inr ((N y hy).elim (fun z => nomatch z) id)).mono (by decide) (by decide)⟩⟩
theorem main_1_1 : Claimed_1_1 := comes_1 fun _ _ _ _ _ _ h hF => ⟨h.1, hF⟩
theorem main_1_2 : Claimed_1_2 := comes_1 fun _ _ _ _ _ _ h hF => ⟨h.2.1, hF⟩
end Jvm.Pilot.@@N@@
namespace Jvm.Pilot.@@N@@
open Jvm Jvm.ClassFile Sem Op Lib Jvm.Free Jvm.Stand Jvm.Pilot.@@N@@.Jvm.D
/-! MADE BY PROGRAM (witnessworld.py) out of the Statement's table words and the real class files: 10 classes; the members and pool entries that the words name. The judged class is class 1, her method 1. -/
namespace start1
open Jvm.ClassFile
def u (s : String) : CpInfo := .utf8 (stringToUtf16 s)
/-- a pool by its gaps: so many unusable entries, then the entry; so many at the end -/
def gap : Nat → List CpInfo → List CpInfo
  | 0, r => r
  | n + 1, r => .unusable :: gap n r
def poolList (es : List (Nat × CpInfo)) (last : Nat) : List CpInfo := es.foldr (fun e r => gap e.1 (e.2 :: r)) (gap last [])
def pool (es : List (Nat × CpInfo)) (last : Nat) : Array CpInfo := ⟨poolList es last⟩
def fileOf (pool : Array CpInfo) (this : Nat) (attrs : Array Attribute := #[]) (ms : Array MethodInfo := #[]) (fl : Nat := 33) (sup : Nat := 0) (ifs : Array Nat := #[]) (fds : Array FieldInfo := #[]) : ClassFile where
  minorVersion := 0
  majorVersion := 65
  constantPool := pool
  accessFlags := fl
  thisClass := this
  superClass := sup
  interfaces := ifs
  fields := fds
  methods := ms
  attributes := attrs
def plain (name : String) (sup : Option ClassId) : Class where
  name := name
  kind := .ordinary
  loader := none
  accessFlags := 33
  super := sup
  interfaces := #[]
  cf := none
  fields := #[]
  methods := #[]
  instanceTypes := #[]
  staticTypes := #[]
  resolved := #[]
  callSites := []
  init := .initialized
  statics := none
  mirror := none

def pool0 : Array CpInfo := pool [(5, u "<init>"), (0, u "()V"), (1, .class_ 10), (1, u "java/lang/Object")] 113

def k0c0 : Code := { maxStack := 0, maxLocals := 1, code := object_method_1_code, exceptionTable := #[], attributes := #[] }
def k0m0 : Method := { name := "<init>", desc := "()V", sig := { parameters := [], returnType := none }, accessFlags := 1, code := some k0c0 }
/-- java/lang/Object -/
def k0 : Class := { plain "java/lang/Object" none with
  accessFlags := 33
  interfaces := #[]
  cf := some (fileOf pool0 8 #[] #[{ accessFlags := 1, nameIndex := 5, descriptorIndex := 6, attributes := #[] }] 33 0 #[] #[])
  fields := #[]
  methods := #[k0m0]
  instanceTypes := #[]
  staticTypes := #[]
  resolved := Array.replicate 124 none
  statics := none }

def pool1 : Array CpInfo := pool [(2, .class_ 4), (1, u "java/lang/Object"), (0, u "<init>"), (0, u "()V"), (0, .integer 998244353), (0, .integer 2147483647), (0, .class_ 10), (0, u "com/example/vary5/vary5/NumberTheoreticTransform"), (0, .methodref 9 12), (0, .nameAndType 5 13), (0, u "(II)V"), (0, .long 4294967295), (3, .long 9223372036854775807), (1, .methodref 9 21), (0, .nameAndType 22 23), (0, u "product"), (0, u "(JJ)J"), (0, .class_ 25), (0, u "com/example/vary5/vary5/NumberTheoreticTransformProductPinLaw"), (2, u "law"), (0, u "(IJJ)Z")] 3

def k1m0 : Method := { name := "<init>", desc := "()V", sig := { parameters := [], returnType := none }, accessFlags := 1, code := none }
def k1c1 : Code := { maxStack := 6, maxLocals := 16, code := code, exceptionTable := #[], attributes := #[] }
def k1m1 : Method := { name := "law", desc := "(IJJ)Z", sig := { parameters := [.int, .long, .long], returnType := some .boolean }, accessFlags := 9, code := some k1c1 }
/-- com/example/vary5/vary5/NumberTheoreticTransformProductPinLaw -/
def k1 : Class := { plain "com/example/vary5/vary5/NumberTheoreticTransformProductPinLaw" (some 0) with
  accessFlags := 49
  interfaces := #[]
  cf := some (fileOf pool1 24 #[] #[{ accessFlags := 1, nameIndex := 5, descriptorIndex := 6, attributes := #[] }, { accessFlags := 9, nameIndex := 28, descriptorIndex := 29, attributes := #[] }] 49 2 #[] #[])
  fields := #[]
  methods := #[k1m0, k1m1]
  instanceTypes := #[]
  staticTypes := #[]
  resolved := Array.replicate 33 none
  statics := none }

def pool2 : Array CpInfo := pool [(1, .methodref 2 3), (0, .class_ 4), (0, .nameAndType 5 6), (0, u "java/lang/Object"), (0, u "<init>"), (0, u "()V"), (0, .fieldref 8 9), (0, .class_ 10), (0, .nameAndType 11 12), (0, u "com/example/vary5/vary5/NumberTheoreticTransform"), (0, u "modulus"), (0, u "J"), (0, .fieldref 8 14), (0, .nameAndType 15 16), (0, u "negatedInverse"), (0, u "I"), (0, .long 4294967296), (1, .fieldref 8 20), (0, .nameAndType 21 12), (0, u "montgomeryOfR"), (0, .methodref 23 24), (0, .class_ 25), (0, .nameAndType 26 27), (0, u "java/lang/Math"), (0, u "max"), (0, u "(II)I"), (0, .fieldref 8 29), (0, .nameAndType 30 31), (0, u "roots"), (0, u "[I"), (0, .fieldref 8 33), (0, .nameAndType 34 31), (0, u "inverseRoots"), (0, .methodref 8 36), (0, .nameAndType 37 38), (0, u "fillRoots"), (0, u "(I)V"), (0, .methodref 8 40), (0, .nameAndType 41 42), (0, u "nonResidue"), (0, u "()J"), (0, .long 2), (1, .methodref 8 46), (0, .nameAndType 47 48), (0, u "power"), (0, u "(JJ)J"), (0, .methodref 8 50), (0, .nameAndType 51 52), (0, u "montgomery"), (0, u "(J)J"), (0, .methodref 8 54), (0, .nameAndType 55 48), (0, u "product"), (0, .long 4294967295), (30, u "BLOCK"), (2, u "SHORT_HALF"), (1, u "(II)V")] 8

def k2c0 : Code := { maxStack := 5, maxLocals := 6, code := prog_9_method_1_code, exceptionTable := #[], attributes := #[] }
def k2m0 : Method := { name := "<init>", desc := "(II)V", sig := { parameters := [.int, .int], returnType := none }, accessFlags := 0, code := some k2c0 }
def k2c1 : Code := { maxStack := 10, maxLocals := 9, code := prog_9_method_2_code, exceptionTable := #[], attributes := #[] }
def k2m1 : Method := { name := "fillRoots", desc := "(I)V", sig := { parameters := [.int], returnType := none }, accessFlags := 2, code := some k2c1 }
def k2c2 : Code := { maxStack := 7, maxLocals := 3, code := prog_9_method_3_code, exceptionTable := #[], attributes := #[] }
def k2m2 : Method := { name := "nonResidue", desc := "()J", sig := { parameters := [], returnType := some .long }, accessFlags := 2, code := some k2c2 }
def k2c3 : Code := { maxStack := 4, maxLocals := 11, code := prog_9_method_4_code, exceptionTable := #[], attributes := #[] }
def k2m3 : Method := { name := "power", desc := "(JJ)J", sig := { parameters := [.long, .long], returnType := some .long }, accessFlags := 2, code := some k2c3 }
def k2c4 : Code := { maxStack := 5, maxLocals := 3, code := prog_9_method_5_code, exceptionTable := #[], attributes := #[] }
def k2m4 : Method := { name := "montgomery", desc := "(J)J", sig := { parameters := [.long], returnType := some .long }, accessFlags := 0, code := some k2c4 }
def k2c5 : Code := { maxStack := 6, maxLocals := 11, code := prog_9_method_6_code, exceptionTable := #[], attributes := #[] }
def k2m5 : Method := { name := "product", desc := "(JJ)J", sig := { parameters := [.long, .long], returnType := some .long }, accessFlags := 0, code := some k2c5 }
/-- com/example/vary5/vary5/NumberTheoreticTransform -/
def k2 : Class := { plain "com/example/vary5/vary5/NumberTheoreticTransform" (some 0) with
  accessFlags := 48
  interfaces := #[]
  cf := some (fileOf pool2 8 #[] #[{ accessFlags := 0, nameIndex := 5, descriptorIndex := 92, attributes := #[] }, { accessFlags := 2, nameIndex := 37, descriptorIndex := 38, attributes := #[] }, { accessFlags := 2, nameIndex := 41, descriptorIndex := 42, attributes := #[] }, { accessFlags := 2, nameIndex := 47, descriptorIndex := 48, attributes := #[] }, { accessFlags := 0, nameIndex := 51, descriptorIndex := 52, attributes := #[] }, { accessFlags := 0, nameIndex := 55, descriptorIndex := 48, attributes := #[] }] 48 2 #[] #[{ accessFlags := 26, nameIndex := 87, descriptorIndex := 16, attributes := #[] }, { accessFlags := 26, nameIndex := 90, descriptorIndex := 16, attributes := #[] }, { accessFlags := 18, nameIndex := 11, descriptorIndex := 12, attributes := #[] }, { accessFlags := 18, nameIndex := 15, descriptorIndex := 16, attributes := #[] }, { accessFlags := 18, nameIndex := 21, descriptorIndex := 12, attributes := #[] }, { accessFlags := 18, nameIndex := 30, descriptorIndex := 31, attributes := #[] }, { accessFlags := 18, nameIndex := 34, descriptorIndex := 31, attributes := #[] }])
  fields := #[{ name := "BLOCK", type := .int, accessFlags := 26, slot := 0, constantValue := 0 }, { name := "SHORT_HALF", type := .int, accessFlags := 26, slot := 1, constantValue := 0 }, { name := "modulus", type := .long, accessFlags := 18, slot := 0, constantValue := 0 }, { name := "negatedInverse", type := .int, accessFlags := 18, slot := 1, constantValue := 0 }, { name := "montgomeryOfR", type := .long, accessFlags := 18, slot := 2, constantValue := 0 }, { name := "roots", type := (.array .int), accessFlags := 18, slot := 3, constantValue := 0 }, { name := "inverseRoots", type := (.array .int), accessFlags := 18, slot := 4, constantValue := 0 }]
  methods := #[k2m0, k2m1, k2m2, k2m3, k2m4, k2m5]
  instanceTypes := #[.long, .int, .long, (.array .int), (.array .int)]
  staticTypes := #[.int, .int]
  resolved := Array.replicate 101 none
  statics := none }

def pool3 : Array CpInfo := pool [(1, .class_ 2), (0, u "java/lang/Math"), (1, .class_ 6), (1, u "java/lang/Object"), (0, u "<init>"), (0, u "()V"), (89, .class_ 100), (1, u "java/lang/Math$RandomNumberGeneratorHolder"), (71, u "negativeZeroFloatBits"), (0, u "J"), (2, u "negativeZeroDoubleBits"), (21, u "max"), (46, u "$assertionsDisabled"), (0, u "Z"), (88, u "(II)I"), (2, u "twoToTheDoubleScaleDown"), (0, u "D"), (4, u "twoToTheDoubleScaleUp"), (9, u "E"), (3, u "PI"), (2, u "TAU"), (2, u "DEGREES_TO_RADIANS"), (0, u "RADIANS_TO_DEGREES")] 94

def k3m0 : Method := { name := "<init>", desc := "()V", sig := { parameters := [], returnType := none }, accessFlags := 2, code := none }
def k3c1 : Code := { maxStack := 2, maxLocals := 2, code := jdk_29_method_65_code, exceptionTable := #[], attributes := #[] }
def k3m1 : Method := { name := "max", desc := "(II)I", sig := { parameters := [.int, .int], returnType := some .int }, accessFlags := 9, code := some k3c1 }
/-- java/lang/Math -/
def k3 : Class := { plain "java/lang/Math" (some 0) with
  accessFlags := 49
  interfaces := #[]
  cf := some (fileOf pool3 1 #[.nestMembers #[98]] #[{ accessFlags := 2, nameIndex := 7, descriptorIndex := 8, attributes := #[] }, { accessFlags := 9, nameIndex := 198, descriptorIndex := 335, attributes := #[] }] 49 4 #[] #[{ accessFlags := 25, nameIndex := 354, descriptorIndex := 339, attributes := #[] }, { accessFlags := 25, nameIndex := 358, descriptorIndex := 339, attributes := #[] }, { accessFlags := 25, nameIndex := 361, descriptorIndex := 339, attributes := #[] }, { accessFlags := 26, nameIndex := 364, descriptorIndex := 339, attributes := #[] }, { accessFlags := 26, nameIndex := 365, descriptorIndex := 339, attributes := #[] }, { accessFlags := 26, nameIndex := 172, descriptorIndex := 173, attributes := #[] }, { accessFlags := 26, nameIndex := 176, descriptorIndex := 173, attributes := #[] }, { accessFlags := 8, nameIndex := 344, descriptorIndex := 339, attributes := #[] }, { accessFlags := 8, nameIndex := 338, descriptorIndex := 339, attributes := #[] }, { accessFlags := 4120, nameIndex := 245, descriptorIndex := 246, attributes := #[] }])
  fields := #[{ name := "E", type := .double, accessFlags := 25, slot := 0, constantValue := 0 }, { name := "PI", type := .double, accessFlags := 25, slot := 1, constantValue := 0 }, { name := "TAU", type := .double, accessFlags := 25, slot := 2, constantValue := 0 }, { name := "DEGREES_TO_RADIANS", type := .double, accessFlags := 26, slot := 3, constantValue := 0 }, { name := "RADIANS_TO_DEGREES", type := .double, accessFlags := 26, slot := 4, constantValue := 0 }, { name := "negativeZeroFloatBits", type := .long, accessFlags := 26, slot := 5, constantValue := 0 }, { name := "negativeZeroDoubleBits", type := .long, accessFlags := 26, slot := 6, constantValue := 0 }, { name := "twoToTheDoubleScaleUp", type := .double, accessFlags := 8, slot := 7, constantValue := 0 }, { name := "twoToTheDoubleScaleDown", type := .double, accessFlags := 8, slot := 8, constantValue := 0 }, { name := "$assertionsDisabled", type := .boolean, accessFlags := 4120, slot := 9, constantValue := 0 }]
  methods := #[k3m0, k3m1]
  instanceTypes := #[]
  staticTypes := #[.double, .double, .double, .double, .double, .long, .long, .double, .double, .boolean]
  resolved := Array.replicate 460 none
  statics := none }

def pool4 : Array CpInfo := pool [(1, u "java/lang/Cloneable"), (0, .class_ 1), (0, u "java/lang/Object"), (0, .class_ 3)] 3

/-- java/lang/Cloneable -/
def k4 : Class := { plain "java/lang/Cloneable" (some 0) with
  accessFlags := 1537
  interfaces := #[]
  cf := some (fileOf pool4 2 #[] #[] 1537 4 #[] #[])
  fields := #[]
  methods := #[]
  instanceTypes := #[]
  staticTypes := #[]
  resolved := Array.replicate 8 none
  statics := none }

def pool5 : Array CpInfo := pool [(1, u "java/io/Serializable"), (0, .class_ 1), (0, u "java/lang/Object"), (0, .class_ 3)] 3

/-- java/io/Serializable -/
def k5 : Class := { plain "java/io/Serializable" (some 0) with
  accessFlags := 1537
  interfaces := #[]
  cf := some (fileOf pool5 2 #[] #[] 1537 4 #[] #[])
  fields := #[]
  methods := #[]
  instanceTypes := #[]
  staticTypes := #[]
  resolved := Array.replicate 8 none
  statics := none }

/-- the primitive byte -/
def k6 : Class := { plain "byte" none with kind := .primitive 'B', accessFlags := 0x411 }
/-- [B -/
def k7 : Class := { plain "[B" (some 0) with kind := .array 6 .byte, interfaces := #[4, 5], accessFlags := 1041 }

/-- the primitive int -/
def k8 : Class := { plain "int" none with kind := .primitive 'I', accessFlags := 0x411 }
/-- [I -/
def k9 : Class := { plain "[I" (some 0) with kind := .array 8 .int, interfaces := #[4, 5], accessFlags := 1041 }

def heap : Heap := #[]
def classes : Array Class := #[k0, k1, k2, k3, k4, k5, k6, k7, k8, k9]
def interned : List (Array UInt16 × Addr) := []
def slotsUsed : Nat := 0
def theMethod : MethodId := ⟨1, 1⟩
def args0 : Array Value := #[.int 5, .long 5, .long 6]
def aboutOver (below : List Frame) : State where
  vm := { classes := classes, interned := interned.toArray }
  heap := heap
  slotsUsed := slotsUsed
  threads := #[{ frames := .invoking theMethod args0 :: below }]
def below0 : List Frame := [.native { method := ⟨0, 0⟩, args := #[] }]
def about1 : State := aboutOver below0
def p0 : Program := .bare "" "" ""
def e0 : Env := launch0.env 0 0 0
theorem w_frames : about1.frames = Frame.invoking theMethod args0 :: below0 := rfl
set_option maxRecDepth 65536 in
theorem w_args : argsFit about1.vm theMethod args0 = true := by decide +kernel
set_option maxRecDepth 65536 in
theorem w_heap : heapFits about1 = true := by decide +kernel
set_option maxRecDepth 65536 in
theorem w_runnable : about1.curStatus? = some .runnable := by decide +kernel
set_option maxRecDepth 65536 in
theorem w_alone : about1.alone = true := by decide +kernel
set_option maxRecDepth 65536 in
theorem w_named : about1.methodNamed? x = some theMethod := by decide +kernel
set_option maxRecDepth 65536 in
theorem w_hears : about1.hears theMethod below0 = true := by decide +kernel
set_option maxRecDepth 65536 in
theorem w_ripe : about1.ripe theMethod args0 below0 = true := by decide +kernel
theorem w_running : about1.status = .running := rfl
set_option maxRecDepth 65536 in
theorem w_room : about1.hasRoom e0.platform room_1 = true :=
  launch0.hasRoom_least _ room_1 (by decide +kernel) (by decide +kernel) (by decide +kernel) (by decide +kernel) (by decide +kernel) (by decide +kernel)
theorem allAtoms_all (ts : List Jvm.Cond) (a : Array Jvm.Value) (st : Jvm.State) : (allAtoms ts).before a st = ts.all (fun c => c.before a st) := by
  induction ts with
  | nil => rfl
  | cons c t ih =>
    show (Jvm.Cond.and c (allAtoms t)).before a st = _
    rw [Jvm.Cond.before_and, ih, List.all_cons]
def words1 : List Jvm.Cond := Jvm.Cond.code x code maxLocals ret :: tables_1
/-- a 'code' word, met by the world's own term for the bytes: nothing is compared byte by byte -/
theorem code_word {y : MethodName} {bytes : ByteArray} {mx : Nat} {rt : Option FieldType} {a : Array Value} {s : State} {m : MethodId} {meth : Method} {c : Code} (h1 : s.methodNamed? y = some m) (h2 : s.vm.method? m = some meth) (h3 : meth.code = some c) (h4 : c.code = bytes)
    (h5 : (c.maxLocals == mx && c.exceptionTable.isEmpty && decide (c.maxStack ≤ mostOperands) && decide (meth.sig.returnType = rt) && !meth.locks && decide (parseMethodDescriptor y.desc = some meth.sig)) = true) : (Jvm.Cond.code y bytes mx rt).before a s = true := by
  simp only [Bool.and_eq_true, beq_iff_eq, Bool.not_eq_true', decide_eq_true_eq] at h5
  obtain ⟨⟨⟨⟨⟨g1, g2⟩, g3⟩, g4⟩, g5⟩, g6⟩ := h5
  simp [Cond.before, Cond.holds, Cond.value, h1, h2, h3, h4, g1, g2, g3, g4, g5, g6]
def isCode : Jvm.Cond → Bool
  | .code _ _ _ _ => true
  | _ => false
theorem all_split {L : List Jvm.Cond} {P : Jvm.Cond → Bool} (h1 : L.all (fun c => isCode c || P c) = true) (h2 : ∀ c ∈ L.filter isCode, P c = true) : L.all P = true := by
  refine List.all_eq_true.mpr fun c hc => ?_
  have h := List.all_eq_true.mp h1 c hc
  rcases Bool.eq_false_or_eq_true (isCode c) with hi | hi
  · exact h2 c (List.mem_filter.mpr ⟨hc, hi⟩)
  · simpa [hi] using h
set_option maxRecDepth 65536 in
theorem w_c0 : (Jvm.Cond.code x code maxLocals ret).before args0 about1 = true := code_word (m := ⟨1, 1⟩) (meth := k1m1) (c := k1c1) (by decide +kernel) rfl rfl rfl (by decide +kernel)
set_option maxRecDepth 65536 in
theorem w_c1 : (Jvm.Cond.code ({ cls := "com/example/vary5/vary5/NumberTheoreticTransform", name := "<init>", desc := "(II)V" } : Jvm.MethodName) prog_9_method_1_code (6 : Nat) (Option.none : Option Jvm.ClassFile.FieldType)).before args0 about1 = true := code_word (m := ⟨2, 0⟩) (meth := k2m0) (c := k2c0) (by decide +kernel) rfl rfl rfl (by decide +kernel)
set_option maxRecDepth 65536 in
theorem w_c2 : (Jvm.Cond.code ({ cls := "java/lang/Object", name := "<init>", desc := "()V" } : Jvm.MethodName) object_method_1_code (1 : Nat) (Option.none : Option Jvm.ClassFile.FieldType)).before args0 about1 = true := code_word (m := ⟨0, 0⟩) (meth := k0m0) (c := k0c0) (by decide +kernel) rfl rfl rfl (by decide +kernel)
set_option maxRecDepth 65536 in
theorem w_c3 : (Jvm.Cond.code ({ cls := "java/lang/Math", name := "max", desc := "(II)I" } : Jvm.MethodName) jdk_29_method_65_code (2 : Nat) (Option.some Jvm.ClassFile.FieldType.int)).before args0 about1 = true := code_word (m := ⟨3, 1⟩) (meth := k3m1) (c := k3c1) (by decide +kernel) rfl rfl rfl (by decide +kernel)
set_option maxRecDepth 65536 in
theorem w_c4 : (Jvm.Cond.code ({ cls := "com/example/vary5/vary5/NumberTheoreticTransform", name := "fillRoots", desc := "(I)V" } : Jvm.MethodName) prog_9_method_2_code (9 : Nat) (Option.none : Option Jvm.ClassFile.FieldType)).before args0 about1 = true := code_word (m := ⟨2, 1⟩) (meth := k2m1) (c := k2c1) (by decide +kernel) rfl rfl rfl (by decide +kernel)
set_option maxRecDepth 65536 in
theorem w_c5 : (Jvm.Cond.code ({ cls := "com/example/vary5/vary5/NumberTheoreticTransform", name := "nonResidue", desc := "()J" } : Jvm.MethodName) prog_9_method_3_code (3 : Nat) (Option.some Jvm.ClassFile.FieldType.long)).before args0 about1 = true := code_word (m := ⟨2, 2⟩) (meth := k2m2) (c := k2c2) (by decide +kernel) rfl rfl rfl (by decide +kernel)
set_option maxRecDepth 65536 in
theorem w_c6 : (Jvm.Cond.code ({ cls := "com/example/vary5/vary5/NumberTheoreticTransform", name := "power", desc := "(JJ)J" } : Jvm.MethodName) prog_9_method_4_code (11 : Nat) (Option.some Jvm.ClassFile.FieldType.long)).before args0 about1 = true := code_word (m := ⟨2, 3⟩) (meth := k2m3) (c := k2c3) (by decide +kernel) rfl rfl rfl (by decide +kernel)
set_option maxRecDepth 65536 in
theorem w_c7 : (Jvm.Cond.code ({ cls := "com/example/vary5/vary5/NumberTheoreticTransform", name := "montgomery", desc := "(J)J" } : Jvm.MethodName) prog_9_method_5_code (3 : Nat) (Option.some Jvm.ClassFile.FieldType.long)).before args0 about1 = true := code_word (m := ⟨2, 4⟩) (meth := k2m4) (c := k2c4) (by decide +kernel) rfl rfl rfl (by decide +kernel)
set_option maxRecDepth 65536 in
theorem w_c8 : (Jvm.Cond.code ({ cls := "com/example/vary5/vary5/NumberTheoreticTransform", name := "product", desc := "(JJ)J" } : Jvm.MethodName) prog_9_method_6_code (11 : Nat) (Option.some Jvm.ClassFile.FieldType.long)).before args0 about1 = true := code_word (m := ⟨2, 5⟩) (meth := k2m5) (c := k2c5) (by decide +kernel) rfl rfl rfl (by decide +kernel)
def codes1 : List Jvm.Cond := [Jvm.Cond.code x code maxLocals ret, Jvm.Cond.code ({ cls := "com/example/vary5/vary5/NumberTheoreticTransform", name := "<init>", desc := "(II)V" } : Jvm.MethodName) prog_9_method_1_code (6 : Nat) (Option.none : Option Jvm.ClassFile.FieldType), Jvm.Cond.code ({ cls := "java/lang/Object", name := "<init>", desc := "()V" } : Jvm.MethodName) object_method_1_code (1 : Nat) (Option.none : Option Jvm.ClassFile.FieldType), Jvm.Cond.code ({ cls := "java/lang/Math", name := "max", desc := "(II)I" } : Jvm.MethodName) jdk_29_method_65_code (2 : Nat) (Option.some Jvm.ClassFile.FieldType.int), Jvm.Cond.code ({ cls := "com/example/vary5/vary5/NumberTheoreticTransform", name := "fillRoots", desc := "(I)V" } : Jvm.MethodName) prog_9_method_2_code (9 : Nat) (Option.none : Option Jvm.ClassFile.FieldType), Jvm.Cond.code ({ cls := "com/example/vary5/vary5/NumberTheoreticTransform", name := "nonResidue", desc := "()J" } : Jvm.MethodName) prog_9_method_3_code (3 : Nat) (Option.some Jvm.ClassFile.FieldType.long), Jvm.Cond.code ({ cls := "com/example/vary5/vary5/NumberTheoreticTransform", name := "power", desc := "(JJ)J" } : Jvm.MethodName) prog_9_method_4_code (11 : Nat) (Option.some Jvm.ClassFile.FieldType.long), Jvm.Cond.code ({ cls := "com/example/vary5/vary5/NumberTheoreticTransform", name := "montgomery", desc := "(J)J" } : Jvm.MethodName) prog_9_method_5_code (3 : Nat) (Option.some Jvm.ClassFile.FieldType.long), Jvm.Cond.code ({ cls := "com/example/vary5/vary5/NumberTheoreticTransform", name := "product", desc := "(JJ)J" } : Jvm.MethodName) prog_9_method_6_code (11 : Nat) (Option.some Jvm.ClassFile.FieldType.long)]
set_option maxRecDepth 65536 in
theorem codes_eq : words1.filter isCode = codes1 := rfl
theorem w_codes : ∀ c ∈ words1.filter isCode, c.before args0 about1 = true := by
  rw [codes_eq]
  intro c hc
  simp only [codes1, List.mem_cons, List.not_mem_nil, or_false] at hc
  rcases hc with rfl | rfl | rfl | rfl | rfl | rfl | rfl | rfl | rfl
  · exact w_c0
  · exact w_c1
  · exact w_c2
  · exact w_c3
  · exact w_c4
  · exact w_c5
  · exact w_c6
  · exact w_c7
  · exact w_c8
set_option maxRecDepth 65536 in
theorem w_t1 : (words1.take 24).all (fun c => isCode c || c.before args0 about1) = true := by decide +kernel
set_option maxRecDepth 65536 in
theorem w_t2 : ((words1.drop 24).take 24).all (fun c => isCode c || c.before args0 about1) = true := by decide +kernel
set_option maxRecDepth 65536 in
theorem w_t3 : ((words1.drop 24).drop 24).all (fun c => isCode c || c.before args0 about1) = true := by decide +kernel
theorem w_tables : (allAtoms (Jvm.Cond.code x code maxLocals ret :: tables_1)).before args0 about1 = true := by
  rw [allAtoms_all]
  show words1.all (fun c => c.before args0 about1) = true
  refine all_split ?_ w_codes
  rw [← List.take_append_drop 24 words1, List.all_append, w_t1, ← List.take_append_drop 24 (words1.drop 24), List.all_append, w_t2, w_t3]
  rfl
set_option maxRecDepth 65536 in
theorem w_case : (Jvm.Cond.and given_1 narrow_1).before args0 about1 = true := by decide +kernel
theorem w_applies : (headSpec (Jvm.Cond.code x code maxLocals ret :: tables_1) room_1).applies x e0.platform about1 = true :=
  (Spec.applies_iff w_frames).mpr ⟨w_running, w_runnable, w_alone, w_named, w_hears, w_ripe, w_room, w_tables⟩
theorem atStart : AtStart classFile x code maxLocals ret World_1 tables_1 room_1 Calls_1 rest_1 Pre_1 launch0 p0 e0 about1 theMethod args0 below0 :=
  ⟨lists_1, trivial, launch0.admits_env _ _ _, launch0.least_env, fairChoices_fair.cas, fairChoices_fair.clock, w_frames, w_args, w_heap, w_applies, trivial, trivial, w_case⟩
end start1
theorem witness_1 : WitnessClaimed_1 := ⟨start1.p0, start1.e0, start1.about1, start1.theMethod, start1.args0, start1.below0, start1.atStart⟩
end Jvm.Pilot.@@N@@
