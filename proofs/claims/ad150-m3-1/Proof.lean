import JvmDerived
import JvmDerived.Pilot.@@N@@Statement
import JvmDerived.Pilot.@@N@@Code
set_option linter.unusedVariables false
set_option linter.unusedSimpArgs false
namespace Jvm.OwnW
open Sem ClassFile Op Lib Jvm.Free Jvm.Stand Jvm.LawKit Jvm.RoadKit
/-- what stays the same all through one invocation -/
abbrev Ctx : Type := Program × Env × State × MethodId × Array Value × List Frame × Method × Code
abbrev Ctx.p (C : Ctx) : Program := C.1
abbrev Ctx.e (C : Ctx) : Env := C.2.1
abbrev Ctx.s (C : Ctx) : State := C.2.2.1
abbrev Ctx.m (C : Ctx) : MethodId := C.2.2.2.1
abbrev Ctx.args (C : Ctx) : Array Value := C.2.2.2.2.1
abbrev Ctx.below (C : Ctx) : List Frame := C.2.2.2.2.2.1
abbrev Ctx.meth (C : Ctx) : Method := C.2.2.2.2.2.2.1
abbrev Ctx.c (C : Ctx) : Code := C.2.2.2.2.2.2.2
/-- each place of the list lies in a cell of ws, or in one made since -/
def Wok (b : Nat) (ws : List Addr) (L : List Loc) : Prop := ∀ y ∈ L, y.base ∈ ws ∨ b ≤ y.base
theorem Wok.nil (b : Nat) (ws : List Addr) : Wok b ws [] := fun _ q => nomatch q
theorem Wok.app {b : Nat} {ws : List Addr} {L L' : List Loc} (N : Wok b ws L) (N' : Wok b ws L') : Wok b ws (L ++ L') := fun y q => (List.mem_append.mp q).elim (N y) (N' y)
theorem Wok.snoc {b : Nat} {ws : List Addr} {L : List Loc} {a : Addr} {sl : Nat} (N : Wok b ws L) (q : a ∈ ws ∨ b ≤ a) : Wok b ws (L ++ [⟨a, sl⟩]) := N.app fun y hy => by cases List.mem_singleton.mp hy; exact q
theorem keep_of_same {s t : State} {L : List Loc} {ws : List Addr} {k n : Nat} (h : s.sameButNew t L k n) (N : Wok s.heap.size ws L) : Keep s.heap t.heap ws := by
  obtain ⟨-, h2, -, -, -, h6⟩ := h
  refine ⟨h2, fun x c hx hn => ?_, fun x c hx => ?_⟩
  · obtain ⟨c', q1, q2, q3, q4⟩ := h6 x c hx
    have hlt := (Array.getElem?_eq_some_iff.mp hx).1
    have : c'.slots = c.slots := Array.ext_getElem? fun i => q4 i fun hm => (N _ hm).elim hn fun z => absurd hlt (Nat.not_lt.mpr z)
    rw [q1, q2, this]
  · obtain ⟨c', q1, q2, q3, q4⟩ := h6 x c hx
    exact ⟨c', q1, by rw [q2], by rw [q2], q3⟩
theorem eq_of_same {s t : State} {L : List Loc} {n : Nat} (h : s.sameButNew t L 0 n) (N : Wok s.heap.size [] L) : t.heap = s.heap := by
  have K := keep_of_same h N
  obtain ⟨-, h2, h3, -⟩ := h
  refine Array.ext_getElem? fun i => ?_
  cases hi : s.heap[i]? with
  | some c => exact K.2.1 i c hi (fun q => nomatch q)
  | none =>
    rw [Array.getElem?_eq_none_iff] at hi ⊢
    omega
/-- where the run stands: the invocation's state T with heap h; of what is older than the invocation only ws has been written -/
def On (l : Launch) (Z : State) (ws : List Addr) (R : Room) (own nm : String) (bytes : ByteArray) (maxL : Nat) (ret : Option FieldType) (C : Ctx) (T : State) (h : Heap) (cells slots : Nat) : Prop :=
  ∃ vm0 : Vm, (∃ k0, C.s.Since vm0 k0 ∧ k0 ≤ h.size) ∧
  (C.p.tables.exec = Jvm.exec ∧ Z.Warmed39 (C.s.setVm vm0).vm ∧ C.c.code = bytes ∧ C.c.maxLocals = maxL ∧ (C.s.setVm vm0).vm.findClass own = some C.m.cls ∧ C.meth.name = nm ∧ C.meth.sig.returnType = ret ∧ C.meth.locks = false) ∧
  (∃ locs, Stand C.p l C.e R (C.s.setVm vm0) C.m C.args C.below C.meth C.c T locs cells slots ∧ Wok C.s.heap.size ws locs) ∧ T.heap = h
theorem grow {s : State} {vm0 : Vm} {n n' : Nat} (SS : ∃ k0, s.Since vm0 k0 ∧ k0 ≤ n) (g : n ≤ n') : ∃ k0, s.Since vm0 k0 ∧ k0 ≤ n' := SS.imp fun _ q => ⟨q.1, Nat.le_trans q.2 g⟩
theorem wr_le {h h' : Heap} {a : Addr} {i : Nat} {v : Value} (W : Wr h h' a i v) : h.size ≤ h'.size := by obtain ⟨_, -, -, -, rfl⟩ := W; simp
def Post (ws : List Addr) (rc : Nat) (h0 : Heap) (Q : Option Value → Heap → Prop) (v : Option Value) (h : Heap) (L : List Loc) : Prop := Wok h0.size ws L ∧ Keep h0 h ws ∧ (rc = 0 → ws = [] → h = h0) ∧ Q v h
/-- from the state A the invocation comes to its end, with Q of what it returns and of the heap it leaves -/
def Go (C : Ctx) (ws : List Addr) (Q : Option Value → Heap → Prop) (k n : Nat) (A : State) : Prop :=
  ∃ U o, Steps C.p.tables C.e C.below A U ∧ U.status = .running ∧ Ended U C.below o ∧ ∃ v L, o = .returned v ∧ Post ws k C.s.heap Q v U.heap L ∧ ReturnedEndW C.s o U L k n
def Met (l : Launch) (Z : State) (y : MethodName) (bytes : ByteArray) (maxL : Nat) (ret : Option FieldType) (wds : List Cond) (rm : Room) (as' : Array Value) (ws : List Addr) (h0 : Heap) (Q : Option Value → Heap → Prop) : Prop :=
  MetFree l y (head1 (Cond.code y bytes maxL ret :: wds) rm) (fun a U => a = as' ∧ Z.Warmed39 U.vm ∧ U.heap = h0) (fun _ _ _ _ _ => True) (fun _ U o U' => ∃ v L, o = .returned v ∧ Post ws rm.cells h0 Q v U'.heap L ∧ ReturnedEndW U o U' L rm.cells rm.slots)
theorem Met.mk {l : Launch} {Z : State} {y : MethodName} {bytes : ByteArray} {maxL : Nat} {ret : Option FieldType} {wds : List Cond} {rm : Room} {as' : Array Value} {ws : List Addr} {h0 : Heap} {Q : Option Value → Heap → Prop} {Ls : Array Slot}
    (hp : plainFor y = true) (ef : ∀ m, entryFrame m as' maxL = mkF m 0 Ls [])
    (H : ∀ (C : Ctx) (T : State), C.s.heap = h0 → On l Z ws rm y.cls y.name bytes maxL ret C T h0 0 0 → Go C ws Q rm.cells rm.slots (T.setTop (mkF C.m 0 Ls []))) : Met l Z y bytes maxL ret wds rm as' ws h0 Q := by
  refine MetFree.of_bodySF hp hisR ?_
  intro p e s m args below meth c s₁ Bd hml0 hP hK
  obtain ⟨rfl, hZ, hh⟩ := hP
  have e0 : s₁.heap = h0 := by rw [← hh, Bd.state]; rfl
  have := H (p, e, s, m, args, below, meth, c) s₁ hh ⟨s.vm, ⟨h0.size, (State.WarmedH.refl s).since _, Nat.le_refl _⟩, ⟨Bd.exec, hZ, Bd.bytes, hml0, findClass_of_methodNamed Bd.named, (name_of_methodNamed Bd.named Bd.method).1, Bd.returns, Bd.notSynchronized⟩, ⟨[], Stand.of_body Bd, Wok.nil _ _⟩, e0⟩
  obtain ⟨U, o, h1, h2, h3, v, L, h4, h5, h6⟩ := this
  refine ⟨U, o, castTop (ef m) h1, h2, h3, v, L, h4, ?_, h6⟩
  rw [← hh]; exact h5
theorem Go.of {C : Ctx} {ws : List Addr} {Q : Option Value → Heap → Prop} {k n : Nat} {A B : State} (g : Go C ws Q k n B) (h : ∀ t, Steps C.p.tables C.e C.below B t → Steps C.p.tables C.e C.below A t) : Go C ws Q k n A := by
  obtain ⟨U, o, h1, r⟩ := g; exact ⟨U, o, h _ h1, r⟩
theorem Go.via {C : Ctx} {ws : List Addr} {Q : Option Value → Heap → Prop} {k n : Nat} {A B : State} (g : Go C ws Q k n B) (h : Steps C.p.tables C.e C.below A B) : Go C ws Q k n A := by
  obtain ⟨U, o, h1, r⟩ := g; exact ⟨U, o, h.trans h1, r⟩
section Steps
variable {l : Launch} {Z : State} {a0 : Array Value} {ws : List Addr} {R : Room} {own nm : String} {bytes : ByteArray} {maxL : Nat} {ret : Option FieldType} {C : Ctx} {T : State} {h : Heap} {cells slots k n : Nat} {Q : Option Value → Heap → Prop} {pc q : Nat} {Ls L' : Array Slot} {st : List Value}
theorem On.size (O : On l Z ws R own nm bytes maxL ret C T h cells slots) : C.s.heap.size ≤ h.size := by
  obtain ⟨vm0, -, -, ⟨_, X, -⟩, rfl⟩ := O; exact X.same.2.1
theorem On.kept (O : On l Z ws R own nm bytes maxL ret C T h cells slots) : Keep C.s.heap h ws := by
  obtain ⟨vm0, -, -, ⟨_, X, N⟩, rfl⟩ := O; exact keep_of_same (s := C.s.setVm vm0) (t := T.setVm vm0) X.same N
theorem fin (O : On l Z ws R own nm bytes maxL ret C T h cells slots) {v : Option Value} (hv : ret = none → v = none) (hk : cells ≤ k) (hn : slots ≤ n) (hQ : Q v h)
    (stp : ∀ X : State, ∀ fs, (∀ (f : JFrame) (acts : List Action), f.method = C.m → f.locked = none → f.entered = [] → (doReturn C.e (T.setTop f) acts v).1 = T.setFrames fs) → X = T.setFrames fs → Steps C.p.tables C.e C.below (T.setTop (mkF C.m pc Ls st)) X) : Go C ws Q k n (T.setTop (mkF C.m pc Ls st)) := by
  obtain ⟨vm0, SS, ⟨hx, hZ, -, -, -, -, hret, hlk⟩, ⟨L, X, N⟩, eT⟩ := O
  obtain ⟨fs, hr, hrun, hended, hW, hsame⟩ := X.leave (v := v) (fun q => hv (hret ▸ q)) hlk
  refine ⟨_, _, stp _ fs hr rfl, hrun, hended, v, L, rfl, ⟨N, ?_, ?_, ?_⟩, ⟨_, rfl⟩, ?_⟩
  · exact keep_of_same (s := C.s.setVm vm0) (t := T.setVm vm0) X.same N
  · rintro rfl rfl
    exact eq_of_same (s := C.s.setVm vm0) (t := T.setVm vm0) (X.same.mono hk (Nat.le_refl _)) N
  · show Q v T.heap; rw [eT]; exact hQ
  · obtain ⟨k0, S, hk0⟩ := SS
    obtain ⟨z1, z2, z3⟩ := S.ended hW (by show k0 ≤ T.heap.size; rw [eT]; exact hk0) hsame
    exact ⟨z1, z2, z3.mono hk hn⟩
theorem ret0 (O : On l Z ws R own nm bytes maxL none C T h cells slots) (hd : decode bytes pc = .ok (.return_, 1)) (hk : cells ≤ k) (hn : slots ≤ n) (hQ : Q none h) : Go C ws Q k n (T.setTop (mkF C.m pc Ls [])) := by
  refine fin O (fun _ => rfl) hk hn hQ ?_
  obtain ⟨vm0, SS, ⟨hx, hZ, rfl, -, -, -, hret, hlk⟩, ⟨L, X, N⟩, eT⟩ := O
  rintro _ fs hr rfl
  exact X.returnOut hx hret hd hr
theorem retV {t : FieldType} {w w' : Value} {i : Instr} {rest : List Value} (O : On l Z ws R own nm bytes maxL (some t) C T h cells slots) (hd : decode bytes pc = .ok (i, 1)) (hw : w' = w) (hnw : narrow t w = w)
    (hi : (i = .ireturn ∧ (t = .int ∨ t = .boolean ∨ t = .byte ∨ t = .char ∨ t = .short) ∧ ∃ z, w = .int z) ∨ (i = .lreturn ∧ t = .long ∧ ∃ z, w = .long z) ∨ (i = .dreturn ∧ t = .double ∧ ∃ z, w = .double z) ∨ (i = .freturn ∧ t = .float ∧ ∃ z, w = .float z) ∨ (i = .areturn ∧ t.isReference = true ∧ w.isRef = true))
    (hk : cells ≤ k) (hn : slots ≤ n) (hQ : Q (some w) h) : Go C ws Q k n (T.setTop (mkF C.m pc Ls (w' :: rest))) := by
  subst hw
  refine fin O (fun q => nomatch q) hk hn hQ ?_
  obtain ⟨vm0, SS, ⟨hx, hZ, rfl, -, -, -, hret, hlk⟩, ⟨L, X, N⟩, eT⟩ := O
  rintro _ fs hr rfl
  exact retOut X hx hret hnw hi hd hr
theorem retI {z z' : Int32} {rest : List Value} (O : On l Z ws R own nm bytes maxL (some .int) C T h cells slots) (hd : decode bytes pc = .ok (.ireturn, 1)) (hz : z = z') (hk : cells ≤ k) (hn : slots ≤ n) (hQ : Q (some (.int z')) h) : Go C ws Q k n (T.setTop (mkF C.m pc Ls (.int z :: rest))) :=
  retV O hd (congrArg Value.int hz) rfl (Or.inl ⟨rfl, Or.inl rfl, _, rfl⟩) hk hn hQ
theorem retB {z z' : Int32} {rest : List Value} (O : On l Z ws R own nm bytes maxL (some .boolean) C T h cells slots) (hd : decode bytes pc = .ok (.ireturn, 1)) (hz : z = z') (h01 : z' = 0 ∨ z' = 1) (hk : cells ≤ k) (hn : slots ≤ n) (hQ : Q (some (.int z')) h) : Go C ws Q k n (T.setTop (mkF C.m pc Ls (.int z :: rest))) :=
  retV O hd (congrArg Value.int hz) (by rcases h01 with rfl | rfl <;> rfl) (Or.inl ⟨rfl, Or.inr (Or.inl rfl), _, rfl⟩) hk hn hQ
theorem retY {z z' : Int32} {rest : List Value} (O : On l Z ws R own nm bytes maxL (some .byte) C T h cells slots) (hd : decode bytes pc = .ok (.ireturn, 1)) (hz : z = z') (hb : z'.toInt8.toInt32 = z') (hk : cells ≤ k) (hn : slots ≤ n) (hQ : Q (some (.int z')) h) : Go C ws Q k n (T.setTop (mkF C.m pc Ls (.int z :: rest))) :=
  retV O hd (congrArg Value.int hz) (congrArg Value.int hb) (Or.inl ⟨rfl, Or.inr (Or.inr (Or.inl rfl)), _, rfl⟩) hk hn hQ
theorem retL {z z' : Int64} {rest : List Value} (O : On l Z ws R own nm bytes maxL (some .long) C T h cells slots) (hd : decode bytes pc = .ok (.lreturn, 1)) (hz : z = z') (hk : cells ≤ k) (hn : slots ≤ n) (hQ : Q (some (.long z')) h) : Go C ws Q k n (T.setTop (mkF C.m pc Ls (.long z :: rest))) :=
  retV O hd (congrArg Value.long hz) rfl (Or.inr (Or.inl ⟨rfl, rfl, _, rfl⟩)) hk hn hQ
theorem retA {t : FieldType} {w : Value} {rest : List Value} (O : On l Z ws R own nm bytes maxL (some t) C T h cells slots) (hd : decode bytes pc = .ok (.areturn, 1)) (ht : t.isReference = true) (hw : w.isRef = true) (hnw : narrow t w = w) (hk : cells ≤ k) (hn : slots ≤ n) (hQ : Q (some w) h) : Go C ws Q k n (T.setTop (mkF C.m pc Ls (w :: rest))) :=
  retV O hd rfl hnw (Or.inr (Or.inr (Or.inr (Or.inr ⟨rfl, ht, hw⟩)))) hk hn hQ
theorem iload (O : On l Z ws R own nm bytes maxL ret C T h cells slots) {i : Nat} {v : Int32} (hd : decode bytes pc = .ok (.iload i, 2)) (hl : Ls[i]? = some (.val (.int v))) (hq : pc + 2 = q)
    (K : Go C ws Q k n (T.setTop (mkF C.m q Ls (.int v :: st)))) : Go C ws Q k n (T.setTop (mkF C.m pc Ls (st))) := by
  obtain ⟨vm0, SS, ⟨hx, -, rfl, -⟩, ⟨_, X, -⟩, -⟩ := O; subst hq
  exact K.of fun _ kk => XS.iload X.here hx rfl hd hl kk
theorem iloadN (O : On l Z ws R own nm bytes maxL ret C T h cells slots) {i : Fin 4} {v : Int32} (hd : decode bytes pc = .ok (.iload_n i, 1)) (hl : Ls[i.val]? = some (.val (.int v))) (hq : pc + 1 = q)
    (K : Go C ws Q k n (T.setTop (mkF C.m q Ls (.int v :: st)))) : Go C ws Q k n (T.setTop (mkF C.m pc Ls (st))) := by
  obtain ⟨vm0, SS, ⟨hx, -, rfl, -⟩, ⟨_, X, -⟩, -⟩ := O; subst hq
  exact K.of fun _ kk => XS.iloadN X.here hx rfl hd hl kk
theorem lload (O : On l Z ws R own nm bytes maxL ret C T h cells slots) {i : Nat} {v : Int64} (hd : decode bytes pc = .ok (.lload i, 2)) (hl : Ls[i]? = some (.val (.long v))) (hq : pc + 2 = q)
    (K : Go C ws Q k n (T.setTop (mkF C.m q Ls (.long v :: st)))) : Go C ws Q k n (T.setTop (mkF C.m pc Ls (st))) := by
  obtain ⟨vm0, SS, ⟨hx, -, rfl, -⟩, ⟨_, X, -⟩, -⟩ := O; subst hq
  exact K.of fun _ kk => XS.lload X.here hx rfl hd hl kk
theorem lloadN (O : On l Z ws R own nm bytes maxL ret C T h cells slots) {i : Fin 4} {v : Int64} (hd : decode bytes pc = .ok (.lload_n i, 1)) (hl : Ls[i.val]? = some (.val (.long v))) (hq : pc + 1 = q)
    (K : Go C ws Q k n (T.setTop (mkF C.m q Ls (.long v :: st)))) : Go C ws Q k n (T.setTop (mkF C.m pc Ls (st))) := by
  obtain ⟨vm0, SS, ⟨hx, -, rfl, -⟩, ⟨_, X, -⟩, -⟩ := O; subst hq
  exact K.of fun _ kk => XS.lloadN X.here hx rfl hd hl kk
theorem aload (O : On l Z ws R own nm bytes maxL ret C T h cells slots) {i : Nat} {v : Value} (hd : decode bytes pc = .ok (.aload i, 2)) (hl : Ls[i]? = some (.val v)) (hv : v.isRef = true) (hq : pc + 2 = q)
    (K : Go C ws Q k n (T.setTop (mkF C.m q Ls (v :: st)))) : Go C ws Q k n (T.setTop (mkF C.m pc Ls (st))) := by
  obtain ⟨vm0, SS, ⟨hx, -, rfl, -⟩, ⟨_, X, -⟩, -⟩ := O; subst hq
  exact K.of fun _ kk => XS.aload X.here hx rfl hd hl hv kk
theorem aloadN (O : On l Z ws R own nm bytes maxL ret C T h cells slots) {i : Fin 4} {v : Value} (hd : decode bytes pc = .ok (.aload_n i, 1)) (hl : Ls[i.val]? = some (.val v)) (hv : v.isRef = true) (hq : pc + 1 = q)
    (K : Go C ws Q k n (T.setTop (mkF C.m q Ls (v :: st)))) : Go C ws Q k n (T.setTop (mkF C.m pc Ls (st))) := by
  obtain ⟨vm0, SS, ⟨hx, -, rfl, -⟩, ⟨_, X, -⟩, -⟩ := O; subst hq
  exact K.of fun _ kk => XS.aloadN X.here hx rfl hd hl hv kk
theorem istore (O : On l Z ws R own nm bytes maxL ret C T h cells slots) {i : Nat} {v : Int32} (hd : decode bytes pc = .ok (.istore i, 2)) (hl : storeLocals Ls i (.int v) = some L') (hq : pc + 2 = q)
    (K : Go C ws Q k n (T.setTop (mkF C.m q L' (st)))) : Go C ws Q k n (T.setTop (mkF C.m pc Ls (.int v :: st))) := by
  obtain ⟨vm0, SS, ⟨hx, -, rfl, -⟩, ⟨_, X, -⟩, -⟩ := O; subst hq
  exact K.of fun _ kk => XS.istore X.here hx rfl hd rfl hl kk
theorem istoreN (O : On l Z ws R own nm bytes maxL ret C T h cells slots) {i : Fin 4} {v : Int32} (hd : decode bytes pc = .ok (.istore_n i, 1)) (hl : storeLocals Ls i.val (.int v) = some L') (hq : pc + 1 = q)
    (K : Go C ws Q k n (T.setTop (mkF C.m q L' (st)))) : Go C ws Q k n (T.setTop (mkF C.m pc Ls (.int v :: st))) := by
  obtain ⟨vm0, SS, ⟨hx, -, rfl, -⟩, ⟨_, X, -⟩, -⟩ := O; subst hq
  exact K.of fun _ kk => XS.istoreN X.here hx rfl hd rfl hl kk
theorem lstore (O : On l Z ws R own nm bytes maxL ret C T h cells slots) {i : Nat} {v : Int64} (hd : decode bytes pc = .ok (.lstore i, 2)) (hl : storeLocals Ls i (.long v) = some L') (hq : pc + 2 = q)
    (K : Go C ws Q k n (T.setTop (mkF C.m q L' (st)))) : Go C ws Q k n (T.setTop (mkF C.m pc Ls (.long v :: st))) := by
  obtain ⟨vm0, SS, ⟨hx, -, rfl, -⟩, ⟨_, X, -⟩, -⟩ := O; subst hq
  exact K.of fun _ kk => XS.lstore X.here hx rfl hd rfl hl kk
theorem lstoreN (O : On l Z ws R own nm bytes maxL ret C T h cells slots) {i : Fin 4} {v : Int64} (hd : decode bytes pc = .ok (.lstore_n i, 1)) (hl : storeLocals Ls i.val (.long v) = some L') (hq : pc + 1 = q)
    (K : Go C ws Q k n (T.setTop (mkF C.m q L' (st)))) : Go C ws Q k n (T.setTop (mkF C.m pc Ls (.long v :: st))) := by
  obtain ⟨vm0, SS, ⟨hx, -, rfl, -⟩, ⟨_, X, -⟩, -⟩ := O; subst hq
  exact K.of fun _ kk => XS.lstoreN X.here hx rfl hd rfl hl kk
theorem astore (O : On l Z ws R own nm bytes maxL ret C T h cells slots) {i : Nat} {v : Value} (hd : decode bytes pc = .ok (.astore i, 2)) (hv : v.isRef = true) (hl : storeLocals Ls i v = some L') (hq : pc + 2 = q)
    (K : Go C ws Q k n (T.setTop (mkF C.m q L' (st)))) : Go C ws Q k n (T.setTop (mkF C.m pc Ls (v :: st))) := by
  obtain ⟨vm0, SS, ⟨hx, -, rfl, -⟩, ⟨_, X, -⟩, -⟩ := O; subst hq
  exact K.of fun _ kk => XS.astore X.here hx rfl hd rfl hv hl kk
theorem astoreN (O : On l Z ws R own nm bytes maxL ret C T h cells slots) {i : Fin 4} {v : Value} (hd : decode bytes pc = .ok (.astore_n i, 1)) (hv : v.isRef = true) (hl : storeLocals Ls i.val v = some L') (hq : pc + 1 = q)
    (K : Go C ws Q k n (T.setTop (mkF C.m q L' (st)))) : Go C ws Q k n (T.setTop (mkF C.m pc Ls (v :: st))) := by
  obtain ⟨vm0, SS, ⟨hx, -, rfl, -⟩, ⟨_, X, -⟩, -⟩ := O; subst hq
  exact K.of fun _ kk => XS.astoreN X.here hx rfl hd rfl hv hl kk
theorem iconst (O : On l Z ws R own nm bytes maxL ret C T h cells slots) {i : Int} {r : Int32} (hd : decode bytes pc = .ok (.iconst i, 1)) (hr : Int32.ofInt i = r) (hq : pc + 1 = q)
    (K : Go C ws Q k n (T.setTop (mkF C.m q Ls (.int r :: st)))) : Go C ws Q k n (T.setTop (mkF C.m pc Ls (st))) := by
  obtain ⟨vm0, SS, ⟨hx, -, rfl, -⟩, ⟨_, X, -⟩, -⟩ := O; subst hq hr
  exact K.of fun _ kk => XS.iconst X.here hx rfl hd kk
theorem bipush (O : On l Z ws R own nm bytes maxL ret C T h cells slots) {i : Int} {r : Int32} (hd : decode bytes pc = .ok (.bipush i, 2)) (hr : (Int8.ofInt i).toInt32 = r) (hq : pc + 2 = q)
    (K : Go C ws Q k n (T.setTop (mkF C.m q Ls (.int r :: st)))) : Go C ws Q k n (T.setTop (mkF C.m pc Ls (st))) := by
  obtain ⟨vm0, SS, ⟨hx, -, rfl, -⟩, ⟨_, X, -⟩, -⟩ := O; subst hq hr
  exact K.of fun _ kk => XS.bipush X.here hx rfl hd kk
theorem sipush (O : On l Z ws R own nm bytes maxL ret C T h cells slots) {i : Int} {r : Int32} (hd : decode bytes pc = .ok (.sipush i, 3)) (hr : (Int16.ofInt i).toInt32 = r) (hq : pc + 3 = q)
    (K : Go C ws Q k n (T.setTop (mkF C.m q Ls (.int r :: st)))) : Go C ws Q k n (T.setTop (mkF C.m pc Ls (st))) := by
  obtain ⟨vm0, SS, ⟨hx, -, rfl, -⟩, ⟨_, X, -⟩, -⟩ := O; subst hq hr
  exact K.of fun _ kk => XS.sipush X.here hx rfl hd kk
theorem lconst (O : On l Z ws R own nm bytes maxL ret C T h cells slots) {i : Fin 2} {r : Int64} (hd : decode bytes pc = .ok (.lconst i, 1)) (hr : Int64.ofNat i = r) (hq : pc + 1 = q)
    (K : Go C ws Q k n (T.setTop (mkF C.m q Ls (.long r :: st)))) : Go C ws Q k n (T.setTop (mkF C.m pc Ls (st))) := by
  obtain ⟨vm0, SS, ⟨hx, -, rfl, -⟩, ⟨_, X, -⟩, -⟩ := O; subst hq hr
  exact K.of fun _ kk => XS.lconst X.here hx rfl hd kk
theorem aconst_null (O : On l Z ws R own nm bytes maxL ret C T h cells slots)  (hd : decode bytes pc = .ok (.aconst_null, 1))  (hq : pc + 1 = q)
    (K : Go C ws Q k n (T.setTop (mkF C.m q Ls (.null :: st)))) : Go C ws Q k n (T.setTop (mkF C.m pc Ls (st))) := by
  obtain ⟨vm0, SS, ⟨hx, -, rfl, -⟩, ⟨_, X, -⟩, -⟩ := O; subst hq
  exact K.of fun _ kk => XS.aconstNull X.here hx rfl hd kk
theorem iadd (O : On l Z ws R own nm bytes maxL ret C T h cells slots) {x y r : Int32} (hd : decode bytes pc = .ok (.iadd, 1)) (hr : x + y = r) (hq : pc + 1 = q)
    (K : Go C ws Q k n (T.setTop (mkF C.m q Ls (.int r :: st)))) : Go C ws Q k n (T.setTop (mkF C.m pc Ls (.int y :: .int x :: st))) := by
  obtain ⟨vm0, SS, ⟨hx, -, rfl, -⟩, ⟨_, X, -⟩, -⟩ := O; subst hq hr
  exact K.of fun _ kk => XS.iadd X.here hx rfl hd rfl kk
theorem isub (O : On l Z ws R own nm bytes maxL ret C T h cells slots) {x y r : Int32} (hd : decode bytes pc = .ok (.isub, 1)) (hr : x - y = r) (hq : pc + 1 = q)
    (K : Go C ws Q k n (T.setTop (mkF C.m q Ls (.int r :: st)))) : Go C ws Q k n (T.setTop (mkF C.m pc Ls (.int y :: .int x :: st))) := by
  obtain ⟨vm0, SS, ⟨hx, -, rfl, -⟩, ⟨_, X, -⟩, -⟩ := O; subst hq hr
  exact K.of fun _ kk => XS.isub X.here hx rfl hd rfl kk
theorem imul (O : On l Z ws R own nm bytes maxL ret C T h cells slots) {x y r : Int32} (hd : decode bytes pc = .ok (.imul, 1)) (hr : x * y = r) (hq : pc + 1 = q)
    (K : Go C ws Q k n (T.setTop (mkF C.m q Ls (.int r :: st)))) : Go C ws Q k n (T.setTop (mkF C.m pc Ls (.int y :: .int x :: st))) := by
  obtain ⟨vm0, SS, ⟨hx, -, rfl, -⟩, ⟨_, X, -⟩, -⟩ := O; subst hq hr
  exact K.of fun _ kk => XS.imul X.here hx rfl hd rfl kk
theorem iand (O : On l Z ws R own nm bytes maxL ret C T h cells slots) {x y r : Int32} (hd : decode bytes pc = .ok (.iand, 1)) (hr : x &&& y = r) (hq : pc + 1 = q)
    (K : Go C ws Q k n (T.setTop (mkF C.m q Ls (.int r :: st)))) : Go C ws Q k n (T.setTop (mkF C.m pc Ls (.int y :: .int x :: st))) := by
  obtain ⟨vm0, SS, ⟨hx, -, rfl, -⟩, ⟨_, X, -⟩, -⟩ := O; subst hq hr
  exact K.of fun _ kk => XS.iand X.here hx rfl hd rfl kk
theorem ior (O : On l Z ws R own nm bytes maxL ret C T h cells slots) {x y r : Int32} (hd : decode bytes pc = .ok (.ior, 1)) (hr : x ||| y = r) (hq : pc + 1 = q)
    (K : Go C ws Q k n (T.setTop (mkF C.m q Ls (.int r :: st)))) : Go C ws Q k n (T.setTop (mkF C.m pc Ls (.int y :: .int x :: st))) := by
  obtain ⟨vm0, SS, ⟨hx, -, rfl, -⟩, ⟨_, X, -⟩, -⟩ := O; subst hq hr
  exact K.of fun _ kk => XS.ior X.here hx rfl hd rfl kk
theorem ixor (O : On l Z ws R own nm bytes maxL ret C T h cells slots) {x y r : Int32} (hd : decode bytes pc = .ok (.ixor, 1)) (hr : x ^^^ y = r) (hq : pc + 1 = q)
    (K : Go C ws Q k n (T.setTop (mkF C.m q Ls (.int r :: st)))) : Go C ws Q k n (T.setTop (mkF C.m pc Ls (.int y :: .int x :: st))) := by
  obtain ⟨vm0, SS, ⟨hx, -, rfl, -⟩, ⟨_, X, -⟩, -⟩ := O; subst hq hr
  exact K.of fun _ kk => XS.ixor X.here hx rfl hd rfl kk
theorem ishl (O : On l Z ws R own nm bytes maxL ret C T h cells slots) {x y r : Int32} (hd : decode bytes pc = .ok (.ishl, 1)) (hr : x <<< (y &&& 31) = r) (hq : pc + 1 = q)
    (K : Go C ws Q k n (T.setTop (mkF C.m q Ls (.int r :: st)))) : Go C ws Q k n (T.setTop (mkF C.m pc Ls (.int y :: .int x :: st))) := by
  obtain ⟨vm0, SS, ⟨hx, -, rfl, -⟩, ⟨_, X, -⟩, -⟩ := O; subst hq hr
  exact K.of fun _ kk => XS.ishl X.here hx rfl hd rfl kk
theorem ishr (O : On l Z ws R own nm bytes maxL ret C T h cells slots) {x y r : Int32} (hd : decode bytes pc = .ok (.ishr, 1)) (hr : x >>> (y &&& 31) = r) (hq : pc + 1 = q)
    (K : Go C ws Q k n (T.setTop (mkF C.m q Ls (.int r :: st)))) : Go C ws Q k n (T.setTop (mkF C.m pc Ls (.int y :: .int x :: st))) := by
  obtain ⟨vm0, SS, ⟨hx, -, rfl, -⟩, ⟨_, X, -⟩, -⟩ := O; subst hq hr
  exact K.of fun _ kk => XS.ishr X.here hx rfl hd rfl kk
theorem iushr (O : On l Z ws R own nm bytes maxL ret C T h cells slots) {x y r : Int32} (hd : decode bytes pc = .ok (.iushr, 1)) (hr : (x.toUInt32 >>> (y &&& 31).toUInt32).toInt32 = r) (hq : pc + 1 = q)
    (K : Go C ws Q k n (T.setTop (mkF C.m q Ls (.int r :: st)))) : Go C ws Q k n (T.setTop (mkF C.m pc Ls (.int y :: .int x :: st))) := by
  obtain ⟨vm0, SS, ⟨hx, -, rfl, -⟩, ⟨_, X, -⟩, -⟩ := O; subst hq hr
  exact K.of fun _ kk => XS.iushr X.here hx rfl hd rfl kk
theorem idiv (O : On l Z ws R own nm bytes maxL ret C T h cells slots) {x y r : Int32} (hd : decode bytes pc = .ok (.idiv, 1)) (hy : y ≠ 0) (hr : x / y = r) (hq : pc + 1 = q)
    (K : Go C ws Q k n (T.setTop (mkF C.m q Ls (.int r :: st)))) : Go C ws Q k n (T.setTop (mkF C.m pc Ls (.int y :: .int x :: st))) := by
  obtain ⟨vm0, SS, ⟨hx, -, rfl, -⟩, ⟨_, X, -⟩, -⟩ := O; subst hq hr
  exact K.of fun _ kk => XS.idiv X.here hx rfl hd rfl hy kk
theorem irem (O : On l Z ws R own nm bytes maxL ret C T h cells slots) {x y r : Int32} (hd : decode bytes pc = .ok (.irem, 1)) (hy : y ≠ 0) (hr : x % y = r) (hq : pc + 1 = q)
    (K : Go C ws Q k n (T.setTop (mkF C.m q Ls (.int r :: st)))) : Go C ws Q k n (T.setTop (mkF C.m pc Ls (.int y :: .int x :: st))) := by
  obtain ⟨vm0, SS, ⟨hx, -, rfl, -⟩, ⟨_, X, -⟩, -⟩ := O; subst hq hr; rw [← irem_eq_mod] at K
  exact K.of fun _ kk => XS.irem X.here hx rfl hd rfl hy kk
theorem ladd (O : On l Z ws R own nm bytes maxL ret C T h cells slots) {x y r : Int64} (hd : decode bytes pc = .ok (.ladd, 1)) (hr : x + y = r) (hq : pc + 1 = q)
    (K : Go C ws Q k n (T.setTop (mkF C.m q Ls (.long r :: st)))) : Go C ws Q k n (T.setTop (mkF C.m pc Ls (.long y :: .long x :: st))) := by
  obtain ⟨vm0, SS, ⟨hx, -, rfl, -⟩, ⟨_, X, -⟩, -⟩ := O; subst hq hr
  exact K.of fun _ kk => XS.ladd X.here hx rfl hd rfl kk
theorem lsub (O : On l Z ws R own nm bytes maxL ret C T h cells slots) {x y r : Int64} (hd : decode bytes pc = .ok (.lsub, 1)) (hr : x - y = r) (hq : pc + 1 = q)
    (K : Go C ws Q k n (T.setTop (mkF C.m q Ls (.long r :: st)))) : Go C ws Q k n (T.setTop (mkF C.m pc Ls (.long y :: .long x :: st))) := by
  obtain ⟨vm0, SS, ⟨hx, -, rfl, -⟩, ⟨_, X, -⟩, -⟩ := O; subst hq hr
  exact K.of fun _ kk => XS.lsub X.here hx rfl hd rfl kk
theorem lmul (O : On l Z ws R own nm bytes maxL ret C T h cells slots) {x y r : Int64} (hd : decode bytes pc = .ok (.lmul, 1)) (hr : x * y = r) (hq : pc + 1 = q)
    (K : Go C ws Q k n (T.setTop (mkF C.m q Ls (.long r :: st)))) : Go C ws Q k n (T.setTop (mkF C.m pc Ls (.long y :: .long x :: st))) := by
  obtain ⟨vm0, SS, ⟨hx, -, rfl, -⟩, ⟨_, X, -⟩, -⟩ := O; subst hq hr
  exact K.of fun _ kk => XS.lmul X.here hx rfl hd rfl kk
theorem land (O : On l Z ws R own nm bytes maxL ret C T h cells slots) {x y r : Int64} (hd : decode bytes pc = .ok (.land, 1)) (hr : x &&& y = r) (hq : pc + 1 = q)
    (K : Go C ws Q k n (T.setTop (mkF C.m q Ls (.long r :: st)))) : Go C ws Q k n (T.setTop (mkF C.m pc Ls (.long y :: .long x :: st))) := by
  obtain ⟨vm0, SS, ⟨hx, -, rfl, -⟩, ⟨_, X, -⟩, -⟩ := O; subst hq hr
  exact K.of fun _ kk => XS.land X.here hx rfl hd rfl kk
theorem lor (O : On l Z ws R own nm bytes maxL ret C T h cells slots) {x y r : Int64} (hd : decode bytes pc = .ok (.lor, 1)) (hr : x ||| y = r) (hq : pc + 1 = q)
    (K : Go C ws Q k n (T.setTop (mkF C.m q Ls (.long r :: st)))) : Go C ws Q k n (T.setTop (mkF C.m pc Ls (.long y :: .long x :: st))) := by
  obtain ⟨vm0, SS, ⟨hx, -, rfl, -⟩, ⟨_, X, -⟩, -⟩ := O; subst hq hr
  exact K.of fun _ kk => XS.lor X.here hx rfl hd rfl kk
theorem lxor (O : On l Z ws R own nm bytes maxL ret C T h cells slots) {x y r : Int64} (hd : decode bytes pc = .ok (.lxor, 1)) (hr : x ^^^ y = r) (hq : pc + 1 = q)
    (K : Go C ws Q k n (T.setTop (mkF C.m q Ls (.long r :: st)))) : Go C ws Q k n (T.setTop (mkF C.m pc Ls (.long y :: .long x :: st))) := by
  obtain ⟨vm0, SS, ⟨hx, -, rfl, -⟩, ⟨_, X, -⟩, -⟩ := O; subst hq hr
  exact K.of fun _ kk => XS.lxor X.here hx rfl hd rfl kk
theorem ldiv (O : On l Z ws R own nm bytes maxL ret C T h cells slots) {x y r : Int64} (hd : decode bytes pc = .ok (.ldiv, 1)) (hy : y ≠ 0) (hr : x / y = r) (hq : pc + 1 = q)
    (K : Go C ws Q k n (T.setTop (mkF C.m q Ls (.long r :: st)))) : Go C ws Q k n (T.setTop (mkF C.m pc Ls (.long y :: .long x :: st))) := by
  obtain ⟨vm0, SS, ⟨hx, -, rfl, -⟩, ⟨_, X, -⟩, -⟩ := O; subst hq hr
  exact K.of fun _ kk => XS.ldiv X.here hx rfl hd rfl hy kk
theorem lrem (O : On l Z ws R own nm bytes maxL ret C T h cells slots) {x y r : Int64} (hd : decode bytes pc = .ok (.lrem, 1)) (hy : y ≠ 0) (hr : x % y = r) (hq : pc + 1 = q)
    (K : Go C ws Q k n (T.setTop (mkF C.m q Ls (.long r :: st)))) : Go C ws Q k n (T.setTop (mkF C.m pc Ls (.long y :: .long x :: st))) := by
  obtain ⟨vm0, SS, ⟨hx, -, rfl, -⟩, ⟨_, X, -⟩, -⟩ := O; subst hq hr; rw [← lrem_mod] at K
  exact K.of fun _ kk => XS.lrem X.here hx rfl hd rfl hy kk
theorem lshl (O : On l Z ws R own nm bytes maxL ret C T h cells slots) {x r : Int64} {y : Int32} (hd : decode bytes pc = .ok (.lshl, 1)) (hr : x <<< (y &&& 0x3f).toInt64 = r) (hq : pc + 1 = q)
    (K : Go C ws Q k n (T.setTop (mkF C.m q Ls (.long r :: st)))) : Go C ws Q k n (T.setTop (mkF C.m pc Ls (.int y :: .long x :: st))) := by
  obtain ⟨vm0, SS, ⟨hx, -, rfl, -⟩, ⟨_, X, -⟩, -⟩ := O; subst hq hr
  exact K.of fun _ kk => XS.lshl X.here hx rfl hd rfl kk
theorem lshr (O : On l Z ws R own nm bytes maxL ret C T h cells slots) {x r : Int64} {y : Int32} (hd : decode bytes pc = .ok (.lshr, 1)) (hr : x >>> (y &&& 0x3f).toInt64 = r) (hq : pc + 1 = q)
    (K : Go C ws Q k n (T.setTop (mkF C.m q Ls (.long r :: st)))) : Go C ws Q k n (T.setTop (mkF C.m pc Ls (.int y :: .long x :: st))) := by
  obtain ⟨vm0, SS, ⟨hx, -, rfl, -⟩, ⟨_, X, -⟩, -⟩ := O; subst hq hr
  exact K.of fun _ kk => XS.lshr X.here hx rfl hd rfl kk
theorem lushr (O : On l Z ws R own nm bytes maxL ret C T h cells slots) {x r : Int64} {y : Int32} (hd : decode bytes pc = .ok (.lushr, 1)) (hr : (x.toUInt64 >>> (y &&& 0x3f).toInt64.toUInt64).toInt64 = r) (hq : pc + 1 = q)
    (K : Go C ws Q k n (T.setTop (mkF C.m q Ls (.long r :: st)))) : Go C ws Q k n (T.setTop (mkF C.m pc Ls (.int y :: .long x :: st))) := by
  obtain ⟨vm0, SS, ⟨hx, -, rfl, -⟩, ⟨_, X, -⟩, -⟩ := O; subst hq hr
  exact K.of fun _ kk => XS.lushr X.here hx rfl hd rfl kk
theorem ineg (O : On l Z ws R own nm bytes maxL ret C T h cells slots) {x : Int32} {r : Int32} (hd : decode bytes pc = .ok (.ineg, 1)) (hr : -x = r) (hq : pc + 1 = q)
    (K : Go C ws Q k n (T.setTop (mkF C.m q Ls (.int r :: st)))) : Go C ws Q k n (T.setTop (mkF C.m pc Ls (.int x :: st))) := by
  obtain ⟨vm0, SS, ⟨hx, -, rfl, -⟩, ⟨_, X, -⟩, -⟩ := O; subst hq hr
  exact K.of fun _ kk => XS.ineg X.here hx rfl hd rfl kk
theorem lneg (O : On l Z ws R own nm bytes maxL ret C T h cells slots) {x : Int64} {r : Int64} (hd : decode bytes pc = .ok (.lneg, 1)) (hr : -x = r) (hq : pc + 1 = q)
    (K : Go C ws Q k n (T.setTop (mkF C.m q Ls (.long r :: st)))) : Go C ws Q k n (T.setTop (mkF C.m pc Ls (.long x :: st))) := by
  obtain ⟨vm0, SS, ⟨hx, -, rfl, -⟩, ⟨_, X, -⟩, -⟩ := O; subst hq hr
  exact K.of fun _ kk => XS.lneg X.here hx rfl hd rfl kk
theorem i2l (O : On l Z ws R own nm bytes maxL ret C T h cells slots) {x : Int32} {r : Int64} (hd : decode bytes pc = .ok (.i2l, 1)) (hr : x.toInt64 = r) (hq : pc + 1 = q)
    (K : Go C ws Q k n (T.setTop (mkF C.m q Ls (.long r :: st)))) : Go C ws Q k n (T.setTop (mkF C.m pc Ls (.int x :: st))) := by
  obtain ⟨vm0, SS, ⟨hx, -, rfl, -⟩, ⟨_, X, -⟩, -⟩ := O; subst hq hr
  exact K.of fun _ kk => XS.i2l X.here hx rfl hd rfl kk
theorem l2i (O : On l Z ws R own nm bytes maxL ret C T h cells slots) {x : Int64} {r : Int32} (hd : decode bytes pc = .ok (.l2i, 1)) (hr : x.toInt32 = r) (hq : pc + 1 = q)
    (K : Go C ws Q k n (T.setTop (mkF C.m q Ls (.int r :: st)))) : Go C ws Q k n (T.setTop (mkF C.m pc Ls (.long x :: st))) := by
  obtain ⟨vm0, SS, ⟨hx, -, rfl, -⟩, ⟨_, X, -⟩, -⟩ := O; subst hq hr
  exact K.of fun _ kk => XS.l2i X.here hx rfl hd rfl kk
theorem i2b (O : On l Z ws R own nm bytes maxL ret C T h cells slots) {x : Int32} {r : Int32} (hd : decode bytes pc = .ok (.i2b, 1)) (hr : x.toInt8.toInt32 = r) (hq : pc + 1 = q)
    (K : Go C ws Q k n (T.setTop (mkF C.m q Ls (.int r :: st)))) : Go C ws Q k n (T.setTop (mkF C.m pc Ls (.int x :: st))) := by
  obtain ⟨vm0, SS, ⟨hx, -, rfl, -⟩, ⟨_, X, -⟩, -⟩ := O; subst hq hr
  exact K.of fun _ kk => XS.i2b X.here hx rfl hd rfl kk
theorem i2c (O : On l Z ws R own nm bytes maxL ret C T h cells slots) {x : Int32} {r : Int32} (hd : decode bytes pc = .ok (.i2c, 1)) (hr : x.toUInt32.toUInt16.toUInt32.toInt32 = r) (hq : pc + 1 = q)
    (K : Go C ws Q k n (T.setTop (mkF C.m q Ls (.int r :: st)))) : Go C ws Q k n (T.setTop (mkF C.m pc Ls (.int x :: st))) := by
  obtain ⟨vm0, SS, ⟨hx, -, rfl, -⟩, ⟨_, X, -⟩, -⟩ := O; subst hq hr
  exact K.of fun _ kk => XS.i2c X.here hx rfl hd rfl kk
theorem i2s (O : On l Z ws R own nm bytes maxL ret C T h cells slots) {x : Int32} {r : Int32} (hd : decode bytes pc = .ok (.i2s, 1)) (hr : x.toInt16.toInt32 = r) (hq : pc + 1 = q)
    (K : Go C ws Q k n (T.setTop (mkF C.m q Ls (.int r :: st)))) : Go C ws Q k n (T.setTop (mkF C.m pc Ls (.int x :: st))) := by
  obtain ⟨vm0, SS, ⟨hx, -, rfl, -⟩, ⟨_, X, -⟩, -⟩ := O; subst hq hr
  exact K.of fun _ kk => XS.i2s X.here hx rfl hd rfl kk
theorem lcmp (O : On l Z ws R own nm bytes maxL ret C T h cells slots) {x y : Int64} {r : Int32} (hd : decode bytes pc = .ok (.lcmp, 1)) (hr : lcmpW x y = r) (hq : pc + 1 = q)
    (K : Go C ws Q k n (T.setTop (mkF C.m q Ls (.int r :: st)))) : Go C ws Q k n (T.setTop (mkF C.m pc Ls (.long y :: .long x :: st))) := by
  obtain ⟨vm0, SS, ⟨hx, -, rfl, -⟩, ⟨_, X, -⟩, -⟩ := O; subst hq hr
  exact K.of fun _ kk => XS.lcmp X.here hx rfl hd rfl kk
theorem iinc (O : On l Z ws R own nm bytes maxL ret C T h cells slots) {i : Nat} {cst : Int} {x : Int32} (hd : decode bytes pc = .ok (.iinc i cst, 3)) (hl : Ls[i]? = some (.val (.int x))) (hl' : storeLocals Ls i (.int (x + Int32.ofInt cst)) = some L') (hq : pc + 3 = q)
    (K : Go C ws Q k n (T.setTop (mkF C.m q L' (st)))) : Go C ws Q k n (T.setTop (mkF C.m pc Ls (st))) := by
  obtain ⟨vm0, SS, ⟨hx, -, rfl, -⟩, ⟨_, X, -⟩, -⟩ := O; subst hq
  exact K.of fun _ kk => XS.iinc X.here hx rfl hd hl hl' kk
theorem dup (O : On l Z ws R own nm bytes maxL ret C T h cells slots) {v : Value} (hd : decode bytes pc = .ok (.dup, 1)) (hc : v.category = 1) (hq : pc + 1 = q)
    (K : Go C ws Q k n (T.setTop (mkF C.m q Ls (v :: v :: st)))) : Go C ws Q k n (T.setTop (mkF C.m pc Ls (v :: st))) := by
  obtain ⟨vm0, SS, ⟨hx, -, rfl, -⟩, ⟨_, X, -⟩, -⟩ := O; subst hq
  exact K.of fun _ kk => XS.dup X.here hx rfl hd rfl hc kk
theorem pop (O : On l Z ws R own nm bytes maxL ret C T h cells slots) {v : Value} (hd : decode bytes pc = .ok (.pop, 1)) (hc : v.category = 1) (hq : pc + 1 = q)
    (K : Go C ws Q k n (T.setTop (mkF C.m q Ls (st)))) : Go C ws Q k n (T.setTop (mkF C.m pc Ls (v :: st))) := by
  obtain ⟨vm0, SS, ⟨hx, -, rfl, -⟩, ⟨_, X, -⟩, -⟩ := O; subst hq
  exact K.of fun _ kk => XS.pop X.here hx rfl hd rfl hc kk
theorem dup_x1 (O : On l Z ws R own nm bytes maxL ret C T h cells slots) {v w : Value} (hd : decode bytes pc = .ok (.dup_x1, 1)) (hc : v.category = 1) (hc' : w.category = 1) (hq : pc + 1 = q)
    (K : Go C ws Q k n (T.setTop (mkF C.m q Ls (v :: w :: v :: st)))) : Go C ws Q k n (T.setTop (mkF C.m pc Ls (v :: w :: st))) := by
  obtain ⟨vm0, SS, ⟨hx, -, rfl, -⟩, ⟨_, X, -⟩, -⟩ := O; subst hq
  exact K.of fun _ kk => XS.dupX1 X.here hx rfl hd rfl hc hc' kk
theorem dup2 (O : On l Z ws R own nm bytes maxL ret C T h cells slots) {v w : Value} (hd : decode bytes pc = .ok (.dup2, 1)) (hc : v.category = 1) (hc' : w.category = 1) (hq : pc + 1 = q)
    (K : Go C ws Q k n (T.setTop (mkF C.m q Ls (v :: w :: v :: w :: st)))) : Go C ws Q k n (T.setTop (mkF C.m pc Ls (v :: w :: st))) := by
  obtain ⟨vm0, SS, ⟨hx, -, rfl, -⟩, ⟨_, X, -⟩, -⟩ := O; subst hq
  exact K.of fun _ kk => XT.dup2 X.here hx rfl hd rfl hc hc' kk
theorem dup2L (O : On l Z ws R own nm bytes maxL ret C T h cells slots) {v : Int64} (hd : decode bytes pc = .ok (.dup2, 1))  (hq : pc + 1 = q)
    (K : Go C ws Q k n (T.setTop (mkF C.m q Ls (.long v :: .long v :: st)))) : Go C ws Q k n (T.setTop (mkF C.m pc Ls (.long v :: st))) := by
  obtain ⟨vm0, SS, ⟨hx, -, rfl, -⟩, ⟨_, X, -⟩, -⟩ := O; subst hq
  exact K.of fun _ kk => XT.dup2L X.here hx rfl hd rfl kk
theorem goto (O : On l Z ws R own nm bytes maxL ret C T h cells slots)  {o : Int} (hd : decode bytes pc = .ok (.goto o, 3))  (ho : 0 ≤ (pc : Int) + o) (hq : ((pc : Int) + o).toNat = q)
    (K : Go C ws Q k n (T.setTop (mkF C.m q Ls st))) : Go C ws Q k n (T.setTop (mkF C.m pc Ls (st))) := by
  obtain ⟨vm0, SS, ⟨hx, -, rfl, -⟩, ⟨_, X, -⟩, -⟩ := O
  exact K.of fun _ kk => XS.goto X.here hx rfl (pc0 := pc) (pc' := q) rfl hd  ho hq kk
theorem ifYes (O : On l Z ws R own nm bytes maxL ret C T h cells slots) {cd : ClassFile.Cond} {x : Int32} {o : Int} (hd : decode bytes pc = .ok (.ifCond cd o, 3)) (hc : ifCond.holds cd x = true) (ho : 0 ≤ (pc : Int) + o) (hq : ((pc : Int) + o).toNat = q)
    (K : Go C ws Q k n (T.setTop (mkF C.m q Ls st))) : Go C ws Q k n (T.setTop (mkF C.m pc Ls (.int x :: st))) := by
  obtain ⟨vm0, SS, ⟨hx, -, rfl, -⟩, ⟨_, X, -⟩, -⟩ := O
  exact K.of fun _ kk => XS.ifYes X.here hx rfl (pc0 := pc) (pc' := q) rfl hd rfl hc ho hq kk
theorem icmpYes (O : On l Z ws R own nm bytes maxL ret C T h cells slots) {cd : ClassFile.Cond} {x y : Int32} {o : Int} (hd : decode bytes pc = .ok (.if_icmp cd o, 3)) (hc : if_icmp.holds cd x y = true) (ho : 0 ≤ (pc : Int) + o) (hq : ((pc : Int) + o).toNat = q)
    (K : Go C ws Q k n (T.setTop (mkF C.m q Ls st))) : Go C ws Q k n (T.setTop (mkF C.m pc Ls (.int y :: .int x :: st))) := by
  obtain ⟨vm0, SS, ⟨hx, -, rfl, -⟩, ⟨_, X, -⟩, -⟩ := O
  exact K.of fun _ kk => XS.icmpYes X.here hx rfl (pc0 := pc) (pc' := q) rfl hd rfl hc ho hq kk
theorem ifnullYes (O : On l Z ws R own nm bytes maxL ret C T h cells slots)  {o : Int} (hd : decode bytes pc = .ok (.ifnull o, 3))  (ho : 0 ≤ (pc : Int) + o) (hq : ((pc : Int) + o).toNat = q)
    (K : Go C ws Q k n (T.setTop (mkF C.m q Ls st))) : Go C ws Q k n (T.setTop (mkF C.m pc Ls (.null :: st))) := by
  obtain ⟨vm0, SS, ⟨hx, -, rfl, -⟩, ⟨_, X, -⟩, -⟩ := O
  exact K.of fun _ kk => XS.ifnullYes X.here hx rfl (pc0 := pc) (pc' := q) rfl hd rfl ho hq kk
theorem ifnonnullYes (O : On l Z ws R own nm bytes maxL ret C T h cells slots) {b : Addr} {o : Int} (hd : decode bytes pc = .ok (.ifnonnull o, 3))  (ho : 0 ≤ (pc : Int) + o) (hq : ((pc : Int) + o).toNat = q)
    (K : Go C ws Q k n (T.setTop (mkF C.m q Ls st))) : Go C ws Q k n (T.setTop (mkF C.m pc Ls (.ref b :: st))) := by
  obtain ⟨vm0, SS, ⟨hx, -, rfl, -⟩, ⟨_, X, -⟩, -⟩ := O
  exact K.of fun _ kk => XS.ifnonnullYes X.here hx rfl (pc0 := pc) (pc' := q) rfl hd rfl ho hq kk
theorem ifNo (O : On l Z ws R own nm bytes maxL ret C T h cells slots) {cd : ClassFile.Cond} {x : Int32} {o : Int} (hd : decode bytes pc = .ok (.ifCond cd o, 3)) (hc : ifCond.holds cd x = false) (hq : pc + 3 = q)
    (K : Go C ws Q k n (T.setTop (mkF C.m q Ls (st)))) : Go C ws Q k n (T.setTop (mkF C.m pc Ls (.int x :: st))) := by
  obtain ⟨vm0, SS, ⟨hx, -, rfl, -⟩, ⟨_, X, -⟩, -⟩ := O; subst hq
  exact K.of fun _ kk => XS.ifNo X.here hx rfl hd rfl hc kk
theorem icmpNo (O : On l Z ws R own nm bytes maxL ret C T h cells slots) {cd : ClassFile.Cond} {x y : Int32} {o : Int} (hd : decode bytes pc = .ok (.if_icmp cd o, 3)) (hc : if_icmp.holds cd x y = false) (hq : pc + 3 = q)
    (K : Go C ws Q k n (T.setTop (mkF C.m q Ls (st)))) : Go C ws Q k n (T.setTop (mkF C.m pc Ls (.int y :: .int x :: st))) := by
  obtain ⟨vm0, SS, ⟨hx, -, rfl, -⟩, ⟨_, X, -⟩, -⟩ := O; subst hq
  exact K.of fun _ kk => XS.icmpNo X.here hx rfl hd rfl hc kk
theorem ifnullNo (O : On l Z ws R own nm bytes maxL ret C T h cells slots) {b : Addr} {o : Int} (hd : decode bytes pc = .ok (.ifnull o, 3))  (hq : pc + 3 = q)
    (K : Go C ws Q k n (T.setTop (mkF C.m q Ls (st)))) : Go C ws Q k n (T.setTop (mkF C.m pc Ls (.ref b :: st))) := by
  obtain ⟨vm0, SS, ⟨hx, -, rfl, -⟩, ⟨_, X, -⟩, -⟩ := O; subst hq
  exact K.of fun _ kk => XS.ifnullNo X.here hx rfl hd rfl kk
theorem ifnonnullNo (O : On l Z ws R own nm bytes maxL ret C T h cells slots) {o : Int} (hd : decode bytes pc = .ok (.ifnonnull o, 3))  (hq : pc + 3 = q)
    (K : Go C ws Q k n (T.setTop (mkF C.m q Ls (st)))) : Go C ws Q k n (T.setTop (mkF C.m pc Ls (.null :: st))) := by
  obtain ⟨vm0, SS, ⟨hx, -, rfl, -⟩, ⟨_, X, -⟩, -⟩ := O; subst hq
  exact K.of fun _ kk => XS.ifnonnullNo X.here hx rfl hd rfl kk
theorem acmp (O : On l Z ws R own nm bytes maxL ret C T h cells slots) {cd : ACond} {x y : Value} {o : Int} {same : Bool} (hd : decode bytes pc = .ok (.if_acmp cd o, 3)) (h1 : x.isRef = true) (h2 : y.isRef = true) (hs : decide (x = y) = same) (ho : 0 ≤ (pc : Int) + o) (hq : q = if acV cd same = true then ((pc : Int) + o).toNat else pc + 3)
    (K : Go C ws Q k n (T.setTop (mkF C.m q Ls st))) : Go C ws Q k n (T.setTop (mkF C.m pc Ls (y :: x :: st))) := by
  obtain ⟨vm0, SS, ⟨hx, -, rfl, -⟩, ⟨_, X, -⟩, -⟩ := O
  exact K.of fun _ kk => Jvm.RoadKit.acmp (g := mkF C.m pc Ls (y :: x :: st)) X hx rfl h1 h2 (pc0 := pc) (pc' := q) rfl hd rfl hs ho hq kk
theorem ldcI (O : On l Z ws R own nm bytes maxL ret C T h cells slots) {i : Nat} {v : Int32} (hd : decode bytes pc = .ok (.ldc i, 2)) (w : (Cond.constant own i v).before a0 Z = true) (hq : pc + 2 = q)
    (K : Go C ws Q k n (T.setTop (mkF C.m q Ls (.int v :: st)))) : Go C ws Q k n (T.setTop (mkF C.m pc Ls st)) := by
  obtain ⟨vm0, SS, ⟨hx, hZ, rfl, -, hown, -⟩, ⟨_, X, -⟩, -⟩ := O; subst hq
  exact K.of fun _ kk => X.ldcInt hx hown (mvT hZ w) (g := mkF C.m pc Ls st) rfl hd _ kk
theorem ldcwI (O : On l Z ws R own nm bytes maxL ret C T h cells slots) {i : Nat} {v : Int32} (hd : decode bytes pc = .ok (.ldc_w i, 3)) (w : (Cond.constant own i v).before a0 Z = true) (hq : pc + 3 = q)
    (K : Go C ws Q k n (T.setTop (mkF C.m q Ls (.int v :: st)))) : Go C ws Q k n (T.setTop (mkF C.m pc Ls st)) := by
  obtain ⟨vm0, SS, ⟨hx, hZ, rfl, -, hown, -⟩, ⟨_, X, -⟩, -⟩ := O; subst hq
  exact K.of fun _ kk => X.ldcwInt hx hown (mvT hZ w) (g := mkF C.m pc Ls st) rfl hd _ kk
theorem ldcL (O : On l Z ws R own nm bytes maxL ret C T h cells slots) {i : Nat} {v : Int64} (hd : decode bytes pc = .ok (.ldc2_w i, 3)) (w : (Cond.constantLong own i v).before a0 Z = true) (hq : pc + 3 = q)
    (K : Go C ws Q k n (T.setTop (mkF C.m q Ls (.long v :: st)))) : Go C ws Q k n (T.setTop (mkF C.m pc Ls st)) := by
  obtain ⟨vm0, SS, ⟨hx, hZ, rfl, -, hown, -⟩, ⟨_, X, -⟩, -⟩ := O; subst hq
  exact K.of fun _ kk => X.ldc2Long hx hown (mvT hZ w) (g := mkF C.m pc Ls st) rfl hd _ kk
theorem getF (O : On l Z ws R own nm bytes maxL ret C T h cells slots) {i : Nat} {R0 D f d host : String} {a : Addr} {v : Value} (hd : decode bytes pc = .ok (.getfield i, 3)) (w : (Cond.fieldLink own i R0 f d).before a0 Z = true ∨ (Cond.fieldLinkNest own i R0 f d host).before a0 Z = true) (via : Via Z R0 D f d) (F : Fld Z h a D f d v) (hq : pc + 3 = q)
    (K : ∀ T', On l Z ws R own nm bytes maxL ret C T' h cells slots → Go C ws Q k n (T'.setTop (mkF C.m q Ls (v :: st)))) : Go C ws Q k n (T.setTop (mkF C.m pc Ls (.ref a :: st))) := by
  obtain ⟨vm0, SS, ⟨hx, hZ, rfl, r1, hown, r2⟩, ⟨_, X, N⟩, eT⟩ := O; subst hq
  obtain ⟨T', X', e', stp⟩ := Jvm.RoadKit.getF X hx hZ hown w via eT F (g := mkF C.m pc Ls (.ref a :: st)) rfl rfl hd
  exact (K T' ⟨vm0, SS, ⟨hx, hZ, rfl, r1, hown, r2⟩, ⟨_, X', N⟩, e'⟩).of fun _ kk => stp _ kk
theorem getS (O : On l Z ws R own nm bytes maxL ret C T h cells slots) {i : Nat} {D f d : String} {v : Value} (hd : decode bytes pc = .ok (.getstatic i, 3)) (w : (Cond.fieldLink own i D f d).before a0 Z = true) (F : Sta Z h D f d v) (hq : pc + 3 = q)
    (K : ∀ T', On l Z ws R own nm bytes maxL ret C T' h cells slots → Go C ws Q k n (T'.setTop (mkF C.m q Ls (v :: st)))) : Go C ws Q k n (T.setTop (mkF C.m pc Ls st)) := by
  obtain ⟨vm0, SS, ⟨hx, hZ, rfl, r1, hown, r2⟩, ⟨_, X, N⟩, eT⟩ := O; subst hq
  obtain ⟨T', X', e', stp⟩ := Jvm.RoadKit.getS (host := "") X hx hZ hown w Via.refl eT F (g := mkF C.m pc Ls st) rfl hd
  exact (K T' ⟨vm0, SS, ⟨hx, hZ, rfl, r1, hown, r2⟩, ⟨_, X', N⟩, e'⟩).of fun _ kk => stp _ kk
theorem putF (O : On l Z ws R own nm bytes maxL ret C T h cells slots) {i kk : Nat} {R0 D f d host K0 : String} {ty : FieldType} {a : Addr} {v old : Value} (hd : decode bytes pc = .ok (.putfield i, 3)) (w : (Cond.fieldLink own i R0 f d).before a0 Z = true ∨ (Cond.fieldLinkNest own i R0 f d host).before a0 Z = true) (via : Via Z R0 D f d)
    (F : Fld Z h a D f d old) (E : Exa Z h a K0) (L : (Cond.lays K0 D f d).before a0 Z = true ∨ ((Cond.laysFinal K0 D f d).before a0 Z = true ∧ own = D ∧ nm = "<init>")) (wi : (Cond.instantiable K0 kk).before a0 Z = true) (hty : parseFieldDescriptor d = some ty) (hn : narrow ty v = v) (hf : fits ty v = true) (ha : a ∈ ws ∨ C.s.heap.size ≤ a) (hq : pc + 3 = q)
    (K : ∀ T' h', On l Z ws R own nm bytes maxL ret C T' h' cells slots → Wr h h' a (Jvm.RoadKit.slotOf Z D f d) v → Go C ws Q k n (T'.setTop (mkF C.m q Ls st))) : Go C ws Q k n (T.setTop (mkF C.m pc Ls (v :: .ref a :: st))) := by
  obtain ⟨vm0, SS, ⟨hx, hZ, rfl, r1, hown, hnm, r2⟩, ⟨_, X, N⟩, eT⟩ := O; subst hq
  obtain ⟨T', h', X', e', W, stp⟩ := Jvm.RoadKit.putF X hx hZ hown w via eT F E (L.imp id fun q => ⟨q.1, q.2.1, hnm.trans q.2.2⟩) wi hty hn hf (g := mkF C.m pc Ls (v :: .ref a :: st)) rfl rfl hd
  exact (K T' h' ⟨vm0, (grow SS (wr_le W)), ⟨hx, hZ, rfl, r1, hown, hnm, r2⟩, ⟨_, X', N.snoc ha⟩, e'⟩ W).of fun _ kk => stp _ kk
theorem newO (O : On l Z ws R own nm bytes maxL ret C T h cells slots) {i ns c2 s2 : Nat} {K0 : String} (hd : decode bytes pc = .ok (.new i, 3)) (w : (Cond.classLink own i K0).before a0 Z = true) (wi : (Cond.instantiable K0 ns).before a0 Z = true) (wz : (Cond.initialized K0).before a0 Z = true) (hc2 : cells + 1 = c2) (hs2 : slots + ns = s2) (hc : c2 ≤ R.cells) (hl : s2 ≤ R.slots) (hq : pc + 3 = q)
    (K : ∀ a T' h', a = h.size → C.s.heap.size ≤ a → On l Z ws R own nm bytes maxL ret C T' h' c2 s2 → Ext h h' → Exa Z h' a K0 → (∀ {O nm d : String} {ty : FieldType}, Laid Z a0 K0 O nm d → parseFieldDescriptor d = some ty → Fld Z h' a O nm d (defaultValue ty)) → Go C ws Q k n (T'.setTop (mkF C.m q Ls (.ref a :: st)))) : Go C ws Q k n (T.setTop (mkF C.m pc Ls st)) := by
  obtain ⟨vm0, SS, ⟨hx, hZ, rfl, r1, hown, r2⟩, ⟨_, X, N⟩, eT⟩ := O; subst hq hc2 hs2
  obtain ⟨T', h', X', e', E, A, D, -, stp⟩ := Jvm.RoadKit.newO X hx hZ hown w wi wz eT (g := mkF C.m pc Ls st) rfl hd hc hl
  exact (K _ T' h' rfl (by rw [← eT]; exact X.same.2.1) ⟨vm0, (grow SS E.1), ⟨hx, hZ, rfl, r1, hown, r2⟩, ⟨_, X', N⟩, e'⟩ E A D).of fun _ kk => stp _ kk
theorem newP (O : On l Z ws R own nm bytes maxL ret C T h cells slots) {aty : ArrayType} {c2 s2 : Nat} (hd : decode bytes pc = .ok (.newarray aty, 2)) (w : (Cond.arrayClass (newarray.typeOf aty)).before a0 Z = true) {z : Int32} (hn : ¬ z < 0) {cap : Nat} (hcap : z.toNatClampNeg ≤ cap) (hb : cap * 8 ≤ 536870912) (hc2 : cells + 1 = c2) (hs2 : slots + cap = s2) (hc : c2 ≤ R.cells) (hl : s2 ≤ R.slots) (hq : pc + 2 = q)
    (K : ∀ a T' h' cA, a = h.size → C.s.heap.size ≤ a → On l Z ws R own nm bytes maxL ret C T' h' c2 s2 → Ext h h' → Arr Z h' a (newA cA (newarray.typeOf aty) z) (newarray.typeOf aty) → Go C ws Q k n (T'.setTop (mkF C.m q Ls (.ref a :: st)))) : Go C ws Q k n (T.setTop (mkF C.m pc Ls (.int z :: st))) := by
  obtain ⟨vm0, SS, ⟨hx, hZ, rfl, r1, hown, r2⟩, ⟨_, X, N⟩, eT⟩ := O; subst hq hc2 hs2
  obtain ⟨T', h', cA, X', e', E, A, stp⟩ := Jvm.RoadKit.newP X hx hZ w eT (g := mkF C.m pc Ls (.int z :: st)) rfl hd rfl hn hcap hb hc hl
  exact (K _ T' h' cA rfl (by rw [← eT]; exact X.same.2.1) ⟨vm0, (grow SS E.1), ⟨hx, hZ, rfl, r1, hown, r2⟩, ⟨_, X', N⟩, e'⟩ E A).of fun _ kk => stp _ kk
theorem initO (O : On l Z ws R own nm bytes maxL ret C T h cells slots) {i : Nat} {a : Addr} (hd : decode bytes pc = .ok (.invokespecial i, 3)) (w1 : (Cond.methodLink own i Lib.objectInit).before a0 Z = true) (w2 : (Cond.instanceMethod Lib.objectInit).before a0 Z = true) (w3 : (Cond.code Lib.objectInit ⟨#[0xb1]⟩ 1 none).before a0 Z = true) (hsz : Ls.size = maxL) (hf : 1 ≤ R.frames) {W : Nat} (hW : (st.map fun v => v.category).sum ≤ W) (hl : W + 12 ≤ R.locals) (hq : pc + 3 = q)
    (K : ∀ T', On l Z ws R own nm bytes maxL ret C T' h cells slots → Go C ws Q k n (T'.setTop (mkF C.m q Ls st))) : Go C ws Q k n (T.setTop (mkF C.m pc Ls (.ref a :: st))) := by
  obtain ⟨vm0, SS, ⟨hx, hZ, rfl, r1, hown, r2⟩, ⟨_, X, N⟩, eT⟩ := O; subst hq
  obtain ⟨T', X', e', stp⟩ := Jvm.RoadKit.initO X hx hZ hown w1 w2 w3 eT (g := mkF C.m pc Ls (.ref a :: st)) rfl (hsz.trans r1.symm) rfl hd hf (W := W) (by show 2 * 0 + _ ≤ _; rw [Nat.mul_zero, Nat.zero_add]; exact hW) hl
  exact (K T' ⟨vm0, SS, ⟨hx, hZ, rfl, r1, hown, r2⟩, ⟨_, X', N⟩, e'⟩).of fun _ kk => stp _ kk
theorem iaload (O : On l Z ws R own nm bytes maxL ret C T h cells slots) {a : Addr} {cl : Cell} {j : Int32} {v : Value} (hd : decode bytes pc = .ok (.iaload, 1)) (A : Arr Z h a cl .int) (hin : ¬ (j < 0 ∨ cl.slots.size ≤ j.toNatClampNeg)) (hv : cl.slots[j.toNatClampNeg]? = some v) (hq : pc + 1 = q)
    (K : Go C ws Q k n (T.setTop (mkF C.m q Ls (v :: st)))) : Go C ws Q k n (T.setTop (mkF C.m pc Ls (.int j :: .ref a :: st))) := by
  obtain ⟨vm0, SS, ⟨hx, hZ, rfl, -⟩, ⟨_, X, N⟩, eT⟩ := O; subst hq
  exact K.of fun _ kk => X.iaload hx (by rw [eT]; exact A.1) (State.isArrayOf_alike hZ.alike A.2.1) A.2.2 hin hv (g := mkF C.m pc Ls (.int j :: .ref a :: st)) rfl rfl hd _ kk
theorem laload (O : On l Z ws R own nm bytes maxL ret C T h cells slots) {a : Addr} {cl : Cell} {j : Int32} {v : Value} (hd : decode bytes pc = .ok (.laload, 1)) (A : Arr Z h a cl .long) (hin : ¬ (j < 0 ∨ cl.slots.size ≤ j.toNatClampNeg)) (hv : cl.slots[j.toNatClampNeg]? = some v) (hq : pc + 1 = q)
    (K : Go C ws Q k n (T.setTop (mkF C.m q Ls (v :: st)))) : Go C ws Q k n (T.setTop (mkF C.m pc Ls (.int j :: .ref a :: st))) := by
  obtain ⟨vm0, SS, ⟨hx, hZ, rfl, -⟩, ⟨_, X, N⟩, eT⟩ := O; subst hq
  exact K.of fun _ kk => X.laload hx (by rw [eT]; exact A.1) (State.isArrayOf_alike hZ.alike A.2.1) A.2.2 hin hv (g := mkF C.m pc Ls (.int j :: .ref a :: st)) rfl rfl hd _ kk
theorem baload (O : On l Z ws R own nm bytes maxL ret C T h cells slots) {a : Addr} {cl : Cell} {j : Int32} {v : Value} (hd : decode bytes pc = .ok (.baload, 1)) (A : Arr Z h a cl .byte) (hin : ¬ (j < 0 ∨ cl.slots.size ≤ j.toNatClampNeg)) (hv : cl.slots[j.toNatClampNeg]? = some v) (hq : pc + 1 = q)
    (K : Go C ws Q k n (T.setTop (mkF C.m q Ls (v :: st)))) : Go C ws Q k n (T.setTop (mkF C.m pc Ls (.int j :: .ref a :: st))) := by
  obtain ⟨vm0, SS, ⟨hx, hZ, rfl, -⟩, ⟨_, X, N⟩, eT⟩ := O; subst hq
  exact K.of fun _ kk => X.baloadBytes hx (by rw [eT]; exact A.1) (State.isArrayOf_alike hZ.alike A.2.1) A.2.2 hin hv (g := mkF C.m pc Ls (.int j :: .ref a :: st)) rfl rfl hd _ kk
theorem aaload (O : On l Z ws R own nm bytes maxL ret C T h cells slots) {a : Addr} {cl : Cell} {ty : FieldType} {j : Int32} {v : Value} (hd : decode bytes pc = .ok (.aaload, 1)) (A : Arr Z h a cl ty) (hty : ty.isReference = true) (hin : ¬ (j < 0 ∨ cl.slots.size ≤ j.toNatClampNeg)) (hv : cl.slots[j.toNatClampNeg]? = some v) (hq : pc + 1 = q)
    (K : Go C ws Q k n (T.setTop (mkF C.m q Ls (v :: st)))) : Go C ws Q k n (T.setTop (mkF C.m pc Ls (.int j :: .ref a :: st))) := by
  obtain ⟨vm0, SS, ⟨hx, hZ, rfl, -⟩, ⟨_, X, N⟩, eT⟩ := O; subst hq
  exact K.of fun _ kk => X.aaload hx (by rw [eT]; exact A.1) (State.isArrayOf_alike hZ.alike A.2.1) hty A.2.2 hin hv (g := mkF C.m pc Ls (.int j :: .ref a :: st)) rfl rfl hd _ kk
theorem arraylength (O : On l Z ws R own nm bytes maxL ret C T h cells slots) {a : Addr} {cl : Cell} {ty : FieldType} {z : Int32} (hd : decode bytes pc = .ok (.arraylength, 1)) (A : Arr Z h a cl ty) (hz : cl.slots.size.toInt32 = z) (hq : pc + 1 = q)
    (K : Go C ws Q k n (T.setTop (mkF C.m q Ls (.int z :: st)))) : Go C ws Q k n (T.setTop (mkF C.m pc Ls (.ref a :: st))) := by
  obtain ⟨vm0, SS, ⟨hx, hZ, rfl, -⟩, ⟨_, X, N⟩, eT⟩ := O; subst hq hz
  exact K.of fun _ kk => X.arraylength hx (by rw [eT]; exact A.1) (State.isArrayOf_alike hZ.alike A.2.1) (g := mkF C.m pc Ls (.ref a :: st)) rfl rfl hd _ kk
theorem iastore (O : On l Z ws R own nm bytes maxL ret C T h cells slots) {a : Addr} {cl : Cell} {j : Int32} {x : Int32} (hd : decode bytes pc = .ok (.iastore, 1)) (A : Arr Z h a cl .int) (hin : ¬ (j < 0 ∨ cl.slots.size ≤ j.toNatClampNeg)) (ha : a ∈ ws ∨ C.s.heap.size ≤ a) (hq : pc + 1 = q)
    (K : ∀ T' h', On l Z ws R own nm bytes maxL ret C T' h' cells slots → Wr h h' a j.toNatClampNeg (.int x) → Go C ws Q k n (T'.setTop (mkF C.m q Ls st))) : Go C ws Q k n (T.setTop (mkF C.m pc Ls (.int x :: .int j :: .ref a :: st))) := by
  obtain ⟨vm0, SS, ⟨hx, hZ, rfl, r1, hown, r2⟩, ⟨_, X, N⟩, eT⟩ := O; subst hq
  obtain ⟨T', h', X', e', W, stp⟩ := Jvm.RoadKit.stI X hx hZ eT A hin (g := mkF C.m pc Ls (.int x :: .int j :: .ref a :: st)) rfl rfl hd
  exact (K T' h' ⟨vm0, (grow SS (wr_le W)), ⟨hx, hZ, rfl, r1, hown, r2⟩, ⟨_, X', N.snoc ha⟩, e'⟩ W).of fun _ kk => stp _ kk
theorem lastore (O : On l Z ws R own nm bytes maxL ret C T h cells slots) {a : Addr} {cl : Cell} {j : Int32} {x : Int64} (hd : decode bytes pc = .ok (.lastore, 1)) (A : Arr Z h a cl .long) (hin : ¬ (j < 0 ∨ cl.slots.size ≤ j.toNatClampNeg)) (ha : a ∈ ws ∨ C.s.heap.size ≤ a) (hq : pc + 1 = q)
    (K : ∀ T' h', On l Z ws R own nm bytes maxL ret C T' h' cells slots → Wr h h' a j.toNatClampNeg (.long x) → Go C ws Q k n (T'.setTop (mkF C.m q Ls st))) : Go C ws Q k n (T.setTop (mkF C.m pc Ls (.long x :: .int j :: .ref a :: st))) := by
  obtain ⟨vm0, SS, ⟨hx, hZ, rfl, r1, hown, r2⟩, ⟨_, X, N⟩, eT⟩ := O; subst hq
  obtain ⟨T', h', X', e', W, stp⟩ := Jvm.RoadKit.stJ X hx hZ eT A hin (g := mkF C.m pc Ls (.long x :: .int j :: .ref a :: st)) rfl rfl hd
  exact (K T' h' ⟨vm0, (grow SS (wr_le W)), ⟨hx, hZ, rfl, r1, hown, r2⟩, ⟨_, X', N.snoc ha⟩, e'⟩ W).of fun _ kk => stp _ kk
theorem bastore (O : On l Z ws R own nm bytes maxL ret C T h cells slots) {a : Addr} {cl : Cell} {j : Int32} {x : Int32} (hd : decode bytes pc = .ok (.bastore, 1)) (A : Arr Z h a cl .byte) (hin : ¬ (j < 0 ∨ cl.slots.size ≤ j.toNatClampNeg)) (ha : a ∈ ws ∨ C.s.heap.size ≤ a) (hq : pc + 1 = q)
    (K : ∀ T' h', On l Z ws R own nm bytes maxL ret C T' h' cells slots → Wr h h' a j.toNatClampNeg (.int (nar .byte x)) → Go C ws Q k n (T'.setTop (mkF C.m q Ls st))) : Go C ws Q k n (T.setTop (mkF C.m pc Ls (.int x :: .int j :: .ref a :: st))) := by
  obtain ⟨vm0, SS, ⟨hx, hZ, rfl, r1, hown, r2⟩, ⟨_, X, N⟩, eT⟩ := O; subst hq
  obtain ⟨T', h', X', e', W, stp⟩ := Jvm.RoadKit.stB X hx hZ eT A hin (g := mkF C.m pc Ls (.int x :: .int j :: .ref a :: st)) rfl rfl hd
  exact (K T' h' ⟨vm0, (grow SS (wr_le W)), ⟨hx, hZ, rfl, r1, hown, r2⟩, ⟨_, X', N.snoc ha⟩, e'⟩ W).of fun _ kk => stp _ kk
theorem callS (O : On l Z ws R own nm bytes maxL ret C T h cells slots) {i : Nat} {y : MethodName} {yb : ByteArray} {yl : Nat} {yr : Option FieldType} {rm : Room} {argsL rest : List Value} {wsc : List Addr} {Qc : Option Value → Heap → Prop} {ps : List FieldType} {rr : Option FieldType} {W c2 s2 : Nat}
    (hd : decode bytes pc = .ok (.invokestatic i, 3)) (w1 : (Cond.methodLink own i y).before a0 Z = true) (w2 : (Cond.static y).before a0 Z = true) (w3 : (Cond.initialized y.cls).before a0 Z = true) (w4 : (Cond.code y yb yl yr).before a0 Z = true) (hy : y.cls ≠ "java/lang/invoke/MethodHandle" ∧ y.cls ≠ "java/lang/invoke/VarHandle")
    (hM : Met l Z y yb yl yr [] rm (argsL).toArray wsc h Qc) (hsz : Ls.size = maxL) (hpd : parseMethodDescriptor y.desc = some ⟨ps, rr⟩) (hlen : argsL.length = ps.length) (hst : st = argsL.reverse ++ rest) (hW : (rest.map fun v => v.category).sum ≤ W)
    (hf : rm.frames + 1 ≤ R.frames) (hl : W + (yl + 11) + rm.locals ≤ R.locals) (hc2 : cells + rm.cells = c2) (hs2 : slots + rm.slots = s2) (hcl : c2 ≤ R.cells) (hsl : s2 ≤ R.slots) (hws : ∀ x ∈ wsc, x ∈ ws ∨ C.s.heap.size ≤ x) (hq : pc + 3 = q)
    (K : ∀ v T' h', On l Z ws R own nm bytes maxL ret C T' h' c2 s2 → Keep h h' wsc → Qc v h' → Go C ws Q k n (T'.setTop (mkF C.m q Ls (v.toList ++ rest)))) : Go C ws Q k n (T.setTop (mkF C.m pc Ls st)) := by
  obtain ⟨vm0, SS, ⟨hx, hZ, rfl, r1, hown, r2⟩, ⟨locs, X, N⟩, eT⟩ := O; subst hq hc2 hs2
  obtain ⟨v, _, ⟨T', L', k', n'⟩, -, X', h2, hgr, ⟨Lc, hQ, l', y', z'⟩, stp⟩ := Jvm.RoadKit.callSS X hx (y := y) hown (mvT hZ w1) (mvT hZ w2) (mvT hZ w3) (mvT hZ w4) hy (backOfS (W := W) (Q := Post wsc rm.cells h Qc) hM hZ w4 w3 hf hl) (g := mkF C.m pc Ls st) rfl (hsz.trans r1.symm) (argsL := argsL) (rest := rest) (lenOf hpd hlen) hst (by show 2 * 0 + _ ≤ _; rw [Nat.mul_zero, Nat.zero_add]; exact hW) hd (fun _ _ => ⟨rfl, eT, hcl, hsl⟩)
  dsimp only [Pt.U, Pt.locs, Pt.cells, Pt.slots] at X' h2 hgr l' y' z' stp hQ
  subst l' y' z'
  obtain ⟨hF, hK, hE, hQ⟩ := hQ
  obtain ⟨k0, hS, hk0⟩ := SS
  obtain ⟨X', hS', hZ', hown'⟩ := rebS hS hk0 X' h2 (eT ▸ hgr) hZ hown
  have hb : C.s.heap.size ≤ h.size := by rw [← eT]; exact X.same.2.1
  exact (K v T' T'.heap ⟨T'.vm, ⟨_, hS', Nat.le_refl _⟩, ⟨hx, hZ', rfl, r1, hown', r2⟩, ⟨_, X', N.app fun y hy => (hF y hy).elim (hws _) fun z => Or.inr (Nat.le_trans hb z)⟩, rfl⟩ hK hQ).via stp
theorem callS0 (O : On l Z ws R own nm bytes maxL ret C T h cells slots) {i : Nat} {y : MethodName} {yb : ByteArray} {yl : Nat} {yr : Option FieldType} {rm : Room} {argsL rest : List Value} {wsc : List Addr} {Qc : Option Value → Heap → Prop} {ps : List FieldType} {rr : Option FieldType} {W c2 s2 : Nat}
    (hd : decode bytes pc = .ok (.invokestatic i, 3)) (w1 : (Cond.methodLink own i y).before a0 Z = true) (w2 : (Cond.static y).before a0 Z = true) (w3 : (Cond.initialized y.cls).before a0 Z = true) (w4 : (Cond.code y yb yl yr).before a0 Z = true) (hy : y.cls ≠ "java/lang/invoke/MethodHandle" ∧ y.cls ≠ "java/lang/invoke/VarHandle")
    (hM : Met l Z y yb yl yr [] rm (argsL).toArray wsc h Qc) (hsz : Ls.size = maxL) (hpd : parseMethodDescriptor y.desc = some ⟨ps, rr⟩) (hlen : argsL.length = ps.length) (hst : st = argsL.reverse ++ rest) (hW : (rest.map fun v => v.category).sum ≤ W)
    (hf : rm.frames + 1 ≤ R.frames) (hl : W + (yl + 11) + rm.locals ≤ R.locals) (hc2 : cells + rm.cells = c2) (hs2 : slots + rm.slots = s2) (hcl : c2 ≤ R.cells) (hsl : s2 ≤ R.slots) (hrc : rm.cells = 0) (hwc : wsc = []) (hq : pc + 3 = q)
    (K : ∀ v T', On l Z ws R own nm bytes maxL ret C T' h c2 s2 → Qc v h → Go C ws Q k n (T'.setTop (mkF C.m q Ls (v.toList ++ rest)))) : Go C ws Q k n (T.setTop (mkF C.m pc Ls st)) := by
  obtain ⟨vm0, SS, ⟨hx, hZ, rfl, r1, hown, r2⟩, ⟨locs, X, N⟩, eT⟩ := O; subst hq hc2 hs2
  obtain ⟨v, _, ⟨T', L', k', n'⟩, -, X', h2, hgr, ⟨Lc, hQ, l', y', z'⟩, stp⟩ := Jvm.RoadKit.callSS X hx (y := y) hown (mvT hZ w1) (mvT hZ w2) (mvT hZ w3) (mvT hZ w4) hy (backOfS (W := W) (Q := Post wsc rm.cells h Qc) hM hZ w4 w3 hf hl) (g := mkF C.m pc Ls st) rfl (hsz.trans r1.symm) (argsL := argsL) (rest := rest) (lenOf hpd hlen) hst (by show 2 * 0 + _ ≤ _; rw [Nat.mul_zero, Nat.zero_add]; exact hW) hd (fun _ _ => ⟨rfl, eT, hcl, hsl⟩)
  dsimp only [Pt.U, Pt.locs, Pt.cells, Pt.slots] at X' h2 hgr l' y' z' stp hQ
  subst l' y' z'
  obtain ⟨hF, hK, hE, hQ⟩ := hQ
  obtain ⟨k0, hS, hk0⟩ := SS
  obtain ⟨X', hS', hZ', hown'⟩ := rebS hS hk0 X' h2 (eT ▸ hgr) hZ hown
  have hb : C.s.heap.size ≤ h.size := by rw [← eT]; exact X.same.2.1
  have he : T'.heap = h := hE hrc hwc
  refine (K v T' ⟨T'.vm, ⟨_, hS', Nat.le_of_eq (congrArg Array.size he)⟩, ⟨hx, hZ', rfl, r1, hown', r2⟩, ⟨_, X', N.app fun y hy => (hF y hy).elim (fun z => by rw [hwc] at z; cases z) fun z => Or.inr (Nat.le_trans hb z)⟩, he⟩ (he ▸ hQ)).via stp
theorem callI (O : On l Z ws R own nm bytes maxL ret C T h cells slots) {i : Nat} {y : MethodName} {yb : ByteArray} {yl : Nat} {rm : Room} {argsL rest : List Value} {wsc : List Addr} {Qc : Option Value → Heap → Prop} {ps : List FieldType} {rr : Option FieldType} {W c2 s2 : Nat} {a : Addr}
    (hd : decode bytes pc = .ok (.invokespecial i, 3)) (hy1 : y.name = "<init>") (w1 : (Cond.methodLink own i y).before a0 Z = true) (w2 : (Cond.instanceMethod y).before a0 Z = true) (w3 : (Cond.initialized y.cls).before a0 Z = true) (w4 : (Cond.code y yb yl none).before a0 Z = true) (hy : y.cls ≠ "java/lang/invoke/MethodHandle" ∧ y.cls ≠ "java/lang/invoke/VarHandle")
    (hM : Met l Z y yb yl none [] rm (Value.ref a :: argsL).toArray wsc h Qc) (hsz : Ls.size = maxL) (hpd : parseMethodDescriptor y.desc = some ⟨ps, rr⟩) (hlen : argsL.length = ps.length) (hst : st = argsL.reverse ++ .ref a :: rest) (hW : (rest.map fun v => v.category).sum ≤ W)
    (hf : rm.frames + 1 ≤ R.frames) (hl : W + (yl + 11) + rm.locals ≤ R.locals) (hc2 : cells + rm.cells = c2) (hs2 : slots + rm.slots = s2) (hcl : c2 ≤ R.cells) (hsl : s2 ≤ R.slots) (hws : ∀ x ∈ wsc, x ∈ ws ∨ C.s.heap.size ≤ x) (hq : pc + 3 = q)
    (K : ∀ v T' h', On l Z ws R own nm bytes maxL ret C T' h' c2 s2 → Keep h h' wsc → Qc v h' → Go C ws Q k n (T'.setTop (mkF C.m q Ls (v.toList ++ rest)))) : Go C ws Q k n (T.setTop (mkF C.m pc Ls st)) := by
  obtain ⟨vm0, SS, ⟨hx, hZ, rfl, r1, hown, r2⟩, ⟨locs, X, N⟩, eT⟩ := O; subst hq hc2 hs2
  obtain ⟨v, _, ⟨T', L', k', n'⟩, -, X', h2, hgr, ⟨Lc, hQ, l', y', z'⟩, stp⟩ := X.specialBackS hx (y := y) hy1 hown (mvT hZ w1) (mvT hZ w2) (mvT hZ w4) hy (backOfS (W := W) (Q := Post wsc rm.cells h Qc) hM hZ w4 w3 hf hl) (g := mkF C.m pc Ls st) rfl (hsz.trans r1.symm) (Steps.refl _) (a := a) (argsL := argsL) (rest := rest) (lenOf hpd hlen) hst (by show 2 * 0 + _ ≤ _; rw [Nat.mul_zero, Nat.zero_add]; exact hW) hd (fun _ _ => ⟨rfl, eT, hcl, hsl⟩)
  dsimp only [Pt.U, Pt.locs, Pt.cells, Pt.slots] at X' h2 hgr l' y' z' stp hQ
  subst l' y' z'
  obtain ⟨hF, hK, hE, hQ⟩ := hQ
  obtain ⟨k0, hS, hk0⟩ := SS
  obtain ⟨X', hS', hZ', hown'⟩ := rebS hS hk0 X' h2 (eT ▸ hgr) hZ hown
  have hb : C.s.heap.size ≤ h.size := by rw [← eT]; exact X.same.2.1
  exact (K v T' T'.heap ⟨T'.vm, ⟨_, hS', Nat.le_refl _⟩, ⟨hx, hZ', rfl, r1, hown', r2⟩, ⟨_, X', N.app fun y hy => (hF y hy).elim (hws _) fun z => Or.inr (Nat.le_trans hb z)⟩, rfl⟩ hK hQ).via (stp)
theorem callI0 (O : On l Z ws R own nm bytes maxL ret C T h cells slots) {i : Nat} {y : MethodName} {yb : ByteArray} {yl : Nat} {rm : Room} {argsL rest : List Value} {wsc : List Addr} {Qc : Option Value → Heap → Prop} {ps : List FieldType} {rr : Option FieldType} {W c2 s2 : Nat} {a : Addr}
    (hd : decode bytes pc = .ok (.invokespecial i, 3)) (hy1 : y.name = "<init>") (w1 : (Cond.methodLink own i y).before a0 Z = true) (w2 : (Cond.instanceMethod y).before a0 Z = true) (w3 : (Cond.initialized y.cls).before a0 Z = true) (w4 : (Cond.code y yb yl none).before a0 Z = true) (hy : y.cls ≠ "java/lang/invoke/MethodHandle" ∧ y.cls ≠ "java/lang/invoke/VarHandle")
    (hM : Met l Z y yb yl none [] rm (Value.ref a :: argsL).toArray wsc h Qc) (hsz : Ls.size = maxL) (hpd : parseMethodDescriptor y.desc = some ⟨ps, rr⟩) (hlen : argsL.length = ps.length) (hst : st = argsL.reverse ++ .ref a :: rest) (hW : (rest.map fun v => v.category).sum ≤ W)
    (hf : rm.frames + 1 ≤ R.frames) (hl : W + (yl + 11) + rm.locals ≤ R.locals) (hc2 : cells + rm.cells = c2) (hs2 : slots + rm.slots = s2) (hcl : c2 ≤ R.cells) (hsl : s2 ≤ R.slots) (hrc : rm.cells = 0) (hwc : wsc = []) (hq : pc + 3 = q)
    (K : ∀ v T', On l Z ws R own nm bytes maxL ret C T' h c2 s2 → Qc v h → Go C ws Q k n (T'.setTop (mkF C.m q Ls (v.toList ++ rest)))) : Go C ws Q k n (T.setTop (mkF C.m pc Ls st)) := by
  obtain ⟨vm0, SS, ⟨hx, hZ, rfl, r1, hown, r2⟩, ⟨locs, X, N⟩, eT⟩ := O; subst hq hc2 hs2
  obtain ⟨v, _, ⟨T', L', k', n'⟩, -, X', h2, hgr, ⟨Lc, hQ, l', y', z'⟩, stp⟩ := X.specialBackS hx (y := y) hy1 hown (mvT hZ w1) (mvT hZ w2) (mvT hZ w4) hy (backOfS (W := W) (Q := Post wsc rm.cells h Qc) hM hZ w4 w3 hf hl) (g := mkF C.m pc Ls st) rfl (hsz.trans r1.symm) (Steps.refl _) (a := a) (argsL := argsL) (rest := rest) (lenOf hpd hlen) hst (by show 2 * 0 + _ ≤ _; rw [Nat.mul_zero, Nat.zero_add]; exact hW) hd (fun _ _ => ⟨rfl, eT, hcl, hsl⟩)
  dsimp only [Pt.U, Pt.locs, Pt.cells, Pt.slots] at X' h2 hgr l' y' z' stp hQ
  subst l' y' z'
  obtain ⟨hF, hK, hE, hQ⟩ := hQ
  obtain ⟨k0, hS, hk0⟩ := SS
  obtain ⟨X', hS', hZ', hown'⟩ := rebS hS hk0 X' h2 (eT ▸ hgr) hZ hown
  have hb : C.s.heap.size ≤ h.size := by rw [← eT]; exact X.same.2.1
  have he : T'.heap = h := hE hrc hwc
  refine (K v T' ⟨T'.vm, ⟨_, hS', Nat.le_of_eq (congrArg Array.size he)⟩, ⟨hx, hZ', rfl, r1, hown', r2⟩, ⟨_, X', N.app fun y hy => (hF y hy).elim (fun z => by rw [hwc] at z; cases z) fun z => Or.inr (Nat.le_trans hb z)⟩, he⟩ (he ▸ hQ)).via (stp)
theorem callV (O : On l Z ws R own nm bytes maxL ret C T h cells slots) {i : Nat} {y z : MethodName} {yb : ByteArray} {yl : Nat} {yr : Option FieldType} {rm : Room} {argsL rest : List Value} {wsc : List Addr} {Qc : Option Value → Heap → Prop} {ps : List FieldType} {rr : Option FieldType} {W c2 s2 : Nat} {a : Addr} {K0 : String}
    (hd : decode bytes pc = .ok (.invokevirtual i, 3)) (w1 : (Cond.methodLink own i y).before a0 Z = true) (wd : (Cond.declares y).before a0 Z = true) (ws1 : (Cond.selects K0 y z).before a0 Z = true) (hyz : y = z) (w2 : (Cond.instanceMethod z).before a0 Z = true) (w3 : (Cond.initialized z.cls).before a0 Z = true) (w4 : (Cond.code z yb yl yr).before a0 Z = true) (hy : y.cls ≠ "java/lang/invoke/MethodHandle" ∧ y.cls ≠ "java/lang/invoke/VarHandle")
    (hM : Met l Z z yb yl yr [] rm (Value.ref a :: argsL).toArray wsc h Qc) (E : Exa Z h a K0) (hsz : Ls.size = maxL) (hpd : parseMethodDescriptor y.desc = some ⟨ps, rr⟩) (hlen : argsL.length = ps.length) (hst : st = argsL.reverse ++ .ref a :: rest) (hW : (rest.map fun v => v.category).sum ≤ W)
    (hf : rm.frames + 1 ≤ R.frames) (hl : W + (yl + 11) + rm.locals ≤ R.locals) (hc2 : cells + rm.cells = c2) (hs2 : slots + rm.slots = s2) (hcl : c2 ≤ R.cells) (hsl : s2 ≤ R.slots) (hws : ∀ x ∈ wsc, x ∈ ws ∨ C.s.heap.size ≤ x) (hq : pc + 3 = q)
    (K : ∀ v T' h', On l Z ws R own nm bytes maxL ret C T' h' c2 s2 → Keep h h' wsc → Qc v h' → Go C ws Q k n (T'.setTop (mkF C.m q Ls (v.toList ++ rest)))) : Go C ws Q k n (T.setTop (mkF C.m pc Ls st)) := by
  obtain ⟨vm0, SS, ⟨hx, hZ, rfl, r1, hown, r2⟩, ⟨locs, X, N⟩, eT⟩ := O; subst hq hc2 hs2
  subst hyz
  obtain ⟨_, _, q1, -, q3⟩ := isOf hZ eT E
  obtain ⟨v, _, ⟨T', L', k', n'⟩, -, X', h2, hgr, ⟨Lc, hQ, l', y', z'⟩, stp⟩ := X.virtualBackS hx (y := y) (z := y) hown (mvT hZ w1) (mvT hZ wd) (notFace_of_selects (args := #[]) (mvT hZ ws1)) (mvT hZ ws1) (mvT hZ w2) hy (backOfS (W := W) (Q := Post wsc rm.cells h Qc) hM hZ w4 w3 hf hl) q1 q3 (g := mkF C.m pc Ls st) rfl (hsz.trans r1.symm) (Steps.refl _) (argsL := argsL) (rest := rest) (lenOf hpd hlen) hst (by show 2 * 0 + _ ≤ _; rw [Nat.mul_zero, Nat.zero_add]; exact hW) hd (fun _ _ => ⟨rfl, eT, hcl, hsl⟩)
  dsimp only [Pt.U, Pt.locs, Pt.cells, Pt.slots] at X' h2 hgr l' y' z' stp hQ
  subst l' y' z'
  obtain ⟨hF, hK, hE, hQ⟩ := hQ
  obtain ⟨k0, hS, hk0⟩ := SS
  obtain ⟨X', hS', hZ', hown'⟩ := rebS hS hk0 X' h2 (eT ▸ hgr) hZ hown
  have hb : C.s.heap.size ≤ h.size := by rw [← eT]; exact X.same.2.1
  exact (K v T' T'.heap ⟨T'.vm, ⟨_, hS', Nat.le_refl _⟩, ⟨hx, hZ', rfl, r1, hown', r2⟩, ⟨_, X', N.app fun y hy => (hF y hy).elim (hws _) fun z => Or.inr (Nat.le_trans hb z)⟩, rfl⟩ hK hQ).via (stp)
theorem callV0 (O : On l Z ws R own nm bytes maxL ret C T h cells slots) {i : Nat} {y z : MethodName} {yb : ByteArray} {yl : Nat} {yr : Option FieldType} {rm : Room} {argsL rest : List Value} {wsc : List Addr} {Qc : Option Value → Heap → Prop} {ps : List FieldType} {rr : Option FieldType} {W c2 s2 : Nat} {a : Addr} {K0 : String}
    (hd : decode bytes pc = .ok (.invokevirtual i, 3)) (w1 : (Cond.methodLink own i y).before a0 Z = true) (wd : (Cond.declares y).before a0 Z = true) (ws1 : (Cond.selects K0 y z).before a0 Z = true) (hyz : y = z) (w2 : (Cond.instanceMethod z).before a0 Z = true) (w3 : (Cond.initialized z.cls).before a0 Z = true) (w4 : (Cond.code z yb yl yr).before a0 Z = true) (hy : y.cls ≠ "java/lang/invoke/MethodHandle" ∧ y.cls ≠ "java/lang/invoke/VarHandle")
    (hM : Met l Z z yb yl yr [] rm (Value.ref a :: argsL).toArray wsc h Qc) (E : Exa Z h a K0) (hsz : Ls.size = maxL) (hpd : parseMethodDescriptor y.desc = some ⟨ps, rr⟩) (hlen : argsL.length = ps.length) (hst : st = argsL.reverse ++ .ref a :: rest) (hW : (rest.map fun v => v.category).sum ≤ W)
    (hf : rm.frames + 1 ≤ R.frames) (hl : W + (yl + 11) + rm.locals ≤ R.locals) (hc2 : cells + rm.cells = c2) (hs2 : slots + rm.slots = s2) (hcl : c2 ≤ R.cells) (hsl : s2 ≤ R.slots) (hrc : rm.cells = 0) (hwc : wsc = []) (hq : pc + 3 = q)
    (K : ∀ v T', On l Z ws R own nm bytes maxL ret C T' h c2 s2 → Qc v h → Go C ws Q k n (T'.setTop (mkF C.m q Ls (v.toList ++ rest)))) : Go C ws Q k n (T.setTop (mkF C.m pc Ls st)) := by
  obtain ⟨vm0, SS, ⟨hx, hZ, rfl, r1, hown, r2⟩, ⟨locs, X, N⟩, eT⟩ := O; subst hq hc2 hs2
  subst hyz
  obtain ⟨_, _, q1, -, q3⟩ := isOf hZ eT E
  obtain ⟨v, _, ⟨T', L', k', n'⟩, -, X', h2, hgr, ⟨Lc, hQ, l', y', z'⟩, stp⟩ := X.virtualBackS hx (y := y) (z := y) hown (mvT hZ w1) (mvT hZ wd) (notFace_of_selects (args := #[]) (mvT hZ ws1)) (mvT hZ ws1) (mvT hZ w2) hy (backOfS (W := W) (Q := Post wsc rm.cells h Qc) hM hZ w4 w3 hf hl) q1 q3 (g := mkF C.m pc Ls st) rfl (hsz.trans r1.symm) (Steps.refl _) (argsL := argsL) (rest := rest) (lenOf hpd hlen) hst (by show 2 * 0 + _ ≤ _; rw [Nat.mul_zero, Nat.zero_add]; exact hW) hd (fun _ _ => ⟨rfl, eT, hcl, hsl⟩)
  dsimp only [Pt.U, Pt.locs, Pt.cells, Pt.slots] at X' h2 hgr l' y' z' stp hQ
  subst l' y' z'
  obtain ⟨hF, hK, hE, hQ⟩ := hQ
  obtain ⟨k0, hS, hk0⟩ := SS
  obtain ⟨X', hS', hZ', hown'⟩ := rebS hS hk0 X' h2 (eT ▸ hgr) hZ hown
  have hb : C.s.heap.size ≤ h.size := by rw [← eT]; exact X.same.2.1
  have he : T'.heap = h := hE hrc hwc
  refine (K v T' ⟨T'.vm, ⟨_, hS', Nat.le_of_eq (congrArg Array.size he)⟩, ⟨hx, hZ', rfl, r1, hown', r2⟩, ⟨_, X', N.app fun y hy => (hF y hy).elim (fun z => by rw [hwc] at z; cases z) fun z => Or.inr (Nat.le_trans hb z)⟩, he⟩ (he ▸ hQ)).via (stp)
theorem callP (O : On l Z ws R own nm bytes maxL ret C T h cells slots) {i : Nat} {y : MethodName} {yb : ByteArray} {yl : Nat} {yr : Option FieldType} {rm : Room} {argsL rest : List Value} {wsc : List Addr} {Qc : Option Value → Heap → Prop} {ps : List FieldType} {rr : Option FieldType} {W c2 s2 : Nat} {a : Addr} {K0 : String} {ik : Nat}
    (hd : decode bytes pc = .ok (.invokevirtual i, 3)) (w1 : (Cond.methodLink own i y).before a0 Z = true) (w2 : (Cond.instanceMethod y).before a0 Z = true) (wp : (Cond.privateMethod y).before a0 Z = true) (wi : (Cond.instantiable y.cls ik).before a0 Z = true) (w3 : (Cond.initialized y.cls).before a0 Z = true) (w4 : (Cond.code y yb yl yr).before a0 Z = true) (hy : y.cls ≠ "java/lang/invoke/MethodHandle" ∧ y.cls ≠ "java/lang/invoke/VarHandle")
    (hM : Met l Z y yb yl yr [] rm (Value.ref a :: argsL).toArray wsc h Qc) (E : Exa Z h a K0) (hsz : Ls.size = maxL) (hpd : parseMethodDescriptor y.desc = some ⟨ps, rr⟩) (hlen : argsL.length = ps.length) (hst : st = argsL.reverse ++ .ref a :: rest) (hW : (rest.map fun v => v.category).sum ≤ W)
    (hf : rm.frames + 1 ≤ R.frames) (hl : W + (yl + 11) + rm.locals ≤ R.locals) (hc2 : cells + rm.cells = c2) (hs2 : slots + rm.slots = s2) (hcl : c2 ≤ R.cells) (hsl : s2 ≤ R.slots) (hws : ∀ x ∈ wsc, x ∈ ws ∨ C.s.heap.size ≤ x) (hq : pc + 3 = q)
    (K : ∀ v T' h', On l Z ws R own nm bytes maxL ret C T' h' c2 s2 → Keep h h' wsc → Qc v h' → Go C ws Q k n (T'.setTop (mkF C.m q Ls (v.toList ++ rest)))) : Go C ws Q k n (T.setTop (mkF C.m pc Ls st)) := by
  obtain ⟨vm0, SS, ⟨hx, hZ, rfl, r1, hown, r2⟩, ⟨locs, X, N⟩, eT⟩ := O; subst hq hc2 hs2
  obtain ⟨cI, kI, i1, i2, -, i4, -⟩ := Cond.instantiable_spec (mvT (args := C.args) hZ wi)
  have hpv : (C.s.setVm vm0).PrivateAt y := Cond.privateMethod_at (mvP (args := #[]) hZ wp)
  have hsel := selects_self_of_private i1 i2 (Bool.or_eq_false_iff.mp i4).1 hpv (mvT (args := C.args) hZ w2) hy
  obtain ⟨cq, q1, q2⟩ := E.cell
  obtain ⟨v, _, ⟨T', L', k', n'⟩, -, X', h2, hgr, ⟨Lc, hQ, l', y', z'⟩, stp⟩ := X.privateBackS hx (y := y) hown (mvT hZ w1) (mvT hZ w2) hsel hpv (mvT hZ w4) hy (backOfS (W := W) (Q := Post wsc rm.cells h Qc) hM hZ w4 w3 hf hl) (g := mkF C.m pc Ls st) rfl (hsz.trans r1.symm) (Steps.refl _) (a := a) (by rw [eT]; exact q1) q2 (argsL := argsL) (rest := rest) (lenOf hpd hlen) hst (by show 2 * 0 + _ ≤ _; rw [Nat.mul_zero, Nat.zero_add]; exact hW) hd (fun _ _ => ⟨rfl, eT, hcl, hsl⟩)
  dsimp only [Pt.U, Pt.locs, Pt.cells, Pt.slots] at X' h2 hgr l' y' z' stp hQ
  subst l' y' z'
  obtain ⟨hF, hK, hE, hQ⟩ := hQ
  obtain ⟨k0, hS, hk0⟩ := SS
  obtain ⟨X', hS', hZ', hown'⟩ := rebS hS hk0 X' h2 (eT ▸ hgr) hZ hown
  have hb : C.s.heap.size ≤ h.size := by rw [← eT]; exact X.same.2.1
  exact (K v T' T'.heap ⟨T'.vm, ⟨_, hS', Nat.le_refl _⟩, ⟨hx, hZ', rfl, r1, hown', r2⟩, ⟨_, X', N.app fun y hy => (hF y hy).elim (hws _) fun z => Or.inr (Nat.le_trans hb z)⟩, rfl⟩ hK hQ).via (stp)
theorem callP0 (O : On l Z ws R own nm bytes maxL ret C T h cells slots) {i : Nat} {y : MethodName} {yb : ByteArray} {yl : Nat} {yr : Option FieldType} {rm : Room} {argsL rest : List Value} {wsc : List Addr} {Qc : Option Value → Heap → Prop} {ps : List FieldType} {rr : Option FieldType} {W c2 s2 : Nat} {a : Addr} {K0 : String} {ik : Nat}
    (hd : decode bytes pc = .ok (.invokevirtual i, 3)) (w1 : (Cond.methodLink own i y).before a0 Z = true) (w2 : (Cond.instanceMethod y).before a0 Z = true) (wp : (Cond.privateMethod y).before a0 Z = true) (wi : (Cond.instantiable y.cls ik).before a0 Z = true) (w3 : (Cond.initialized y.cls).before a0 Z = true) (w4 : (Cond.code y yb yl yr).before a0 Z = true) (hy : y.cls ≠ "java/lang/invoke/MethodHandle" ∧ y.cls ≠ "java/lang/invoke/VarHandle")
    (hM : Met l Z y yb yl yr [] rm (Value.ref a :: argsL).toArray wsc h Qc) (E : Exa Z h a K0) (hsz : Ls.size = maxL) (hpd : parseMethodDescriptor y.desc = some ⟨ps, rr⟩) (hlen : argsL.length = ps.length) (hst : st = argsL.reverse ++ .ref a :: rest) (hW : (rest.map fun v => v.category).sum ≤ W)
    (hf : rm.frames + 1 ≤ R.frames) (hl : W + (yl + 11) + rm.locals ≤ R.locals) (hc2 : cells + rm.cells = c2) (hs2 : slots + rm.slots = s2) (hcl : c2 ≤ R.cells) (hsl : s2 ≤ R.slots) (hrc : rm.cells = 0) (hwc : wsc = []) (hq : pc + 3 = q)
    (K : ∀ v T', On l Z ws R own nm bytes maxL ret C T' h c2 s2 → Qc v h → Go C ws Q k n (T'.setTop (mkF C.m q Ls (v.toList ++ rest)))) : Go C ws Q k n (T.setTop (mkF C.m pc Ls st)) := by
  obtain ⟨vm0, SS, ⟨hx, hZ, rfl, r1, hown, r2⟩, ⟨locs, X, N⟩, eT⟩ := O; subst hq hc2 hs2
  obtain ⟨cI, kI, i1, i2, -, i4, -⟩ := Cond.instantiable_spec (mvT (args := C.args) hZ wi)
  have hpv : (C.s.setVm vm0).PrivateAt y := Cond.privateMethod_at (mvP (args := #[]) hZ wp)
  have hsel := selects_self_of_private i1 i2 (Bool.or_eq_false_iff.mp i4).1 hpv (mvT (args := C.args) hZ w2) hy
  obtain ⟨cq, q1, q2⟩ := E.cell
  obtain ⟨v, _, ⟨T', L', k', n'⟩, -, X', h2, hgr, ⟨Lc, hQ, l', y', z'⟩, stp⟩ := X.privateBackS hx (y := y) hown (mvT hZ w1) (mvT hZ w2) hsel hpv (mvT hZ w4) hy (backOfS (W := W) (Q := Post wsc rm.cells h Qc) hM hZ w4 w3 hf hl) (g := mkF C.m pc Ls st) rfl (hsz.trans r1.symm) (Steps.refl _) (a := a) (by rw [eT]; exact q1) q2 (argsL := argsL) (rest := rest) (lenOf hpd hlen) hst (by show 2 * 0 + _ ≤ _; rw [Nat.mul_zero, Nat.zero_add]; exact hW) hd (fun _ _ => ⟨rfl, eT, hcl, hsl⟩)
  dsimp only [Pt.U, Pt.locs, Pt.cells, Pt.slots] at X' h2 hgr l' y' z' stp hQ
  subst l' y' z'
  obtain ⟨hF, hK, hE, hQ⟩ := hQ
  obtain ⟨k0, hS, hk0⟩ := SS
  obtain ⟨X', hS', hZ', hown'⟩ := rebS hS hk0 X' h2 (eT ▸ hgr) hZ hown
  have hb : C.s.heap.size ≤ h.size := by rw [← eT]; exact X.same.2.1
  have he : T'.heap = h := hE hrc hwc
  refine (K v T' ⟨T'.vm, ⟨_, hS', Nat.le_of_eq (congrArg Array.size he)⟩, ⟨hx, hZ', rfl, r1, hown', r2⟩, ⟨_, X', N.app fun y hy => (hF y hy).elim (fun z => by rw [hwc] at z; cases z) fun z => Or.inr (Nat.le_trans hb z)⟩, he⟩ (he ▸ hQ)).via (stp)
theorem ldcStr (O : On l Z ws R own nm bytes maxL ret C T h cells slots) {i : Nat} {text : String} {cap c2 s2 : Nat} (hd : decode bytes pc = .ok (.ldc i, 2)) (w : (Cond.stringLink own i text).before a0 Z = true) (wS : ∀ a ∈ Bundle.stringAtoms, a.before a0 Z = true) (hcap : 4 * text.toList.length ≤ cap) (hb : cap ≤ 536870912) (hc2 : cells + 2 = c2) (hs2 : slots + (cap + 4) = s2) (hc : c2 ≤ R.cells) (hl : s2 ≤ R.slots) (hq : pc + 2 = q)
    (K : ∀ a T' h', On l Z ws R own nm bytes maxL ret C T' h' c2 s2 → Ext h h' → Go C ws Q k n (T'.setTop (mkF C.m q Ls (.ref a :: st)))) : Go C ws Q k n (T.setTop (mkF C.m pc Ls st)) := by
  obtain ⟨vm0, ⟨k0, hS, hk0⟩, ⟨hx, hZ, rfl, r1, hown, r2⟩, ⟨_, X, N⟩, eT⟩ := O; subst hq hc2 hs2
  obtain ⟨a, T', h', k1, X', e', E, hS', hk1, hZ', hown', stp⟩ := Jvm.RoadKit.ldcS X hx hZ hown w wS eT hS hk0 (g := mkF C.m pc Ls st) rfl hd hcap hb hc hl
  exact (K a T' h' ⟨T'.vm, ⟨k1, hS', hk1⟩, ⟨hx, hZ', rfl, r1, hown', r2⟩, ⟨_, X', N⟩, e'⟩ E).of fun _ kk => stp _ kk
theorem tltL {x y : Int64} (h : x < y) : ifCond.holds .lt (lcmpW x y) = true ∧ ifCond.holds .ge (lcmpW x y) = false ∧ ifCond.holds .gt (lcmpW y x) = true ∧ ifCond.holds .le (lcmpW y x) = false := by
  rw [if0, if0, if0, if0]
  exact ⟨(tlt ((lw_lt x y).mpr h)).1, (tlt ((lw_lt x y).mpr h)).2.1, (tlt ((lw_gt y x).mpr h)).2.2.1, (tlt ((lw_gt y x).mpr h)).2.2.2⟩
theorem fltL {x y : Int64} (h : ¬ x < y) : ifCond.holds .lt (lcmpW x y) = false ∧ ifCond.holds .ge (lcmpW x y) = true ∧ ifCond.holds .gt (lcmpW y x) = false ∧ ifCond.holds .le (lcmpW y x) = true := by
  rw [if0, if0, if0, if0]
  have h1 : ¬ lcmpW x y < 0 := fun q => h ((lw_lt x y).mp q)
  have h2 : ¬ 0 < lcmpW y x := fun q => h ((lw_gt y x).mp q)
  exact ⟨(flt h1).1, (flt h1).2.1, (flt h2).2.2.1, (flt h2).2.2.2⟩
theorem teqL {x y : Int64} (h : x = y) : ifCond.holds .eq (lcmpW x y) = true ∧ ifCond.holds .ne (lcmpW x y) = false := by
  rw [if0, if0]; exact teq ((lw_eq x y).mpr h)
theorem feqL {x y : Int64} (h : ¬ x = y) : ifCond.holds .eq (lcmpW x y) = false ∧ ifCond.holds .ne (lcmpW x y) = true := by
  rw [if0, if0]; exact feq fun q => h ((lw_eq x y).mp q)
theorem tlt0 {x : Int32} (h : x < 0) : ifCond.holds .lt x = true ∧ ifCond.holds .ge x = false := by rw [if0, if0]; exact ⟨(tlt h).1, (tlt h).2.1⟩
theorem flt0 {x : Int32} (h : ¬ x < 0) : ifCond.holds .lt x = false ∧ ifCond.holds .ge x = true := by rw [if0, if0]; exact ⟨(flt h).1, (flt h).2.1⟩
theorem tgt0 {x : Int32} (h : 0 < x) : ifCond.holds .gt x = true ∧ ifCond.holds .le x = false := by rw [if0, if0]; exact ⟨(tlt h).2.2.1, (tlt h).2.2.2⟩
theorem fgt0 {x : Int32} (h : ¬ 0 < x) : ifCond.holds .gt x = false ∧ ifCond.holds .le x = true := by rw [if0, if0]; exact ⟨(flt h).2.2.1, (flt h).2.2.2⟩
theorem teq0 {x : Int32} (h : x = 0) : ifCond.holds .eq x = true ∧ ifCond.holds .ne x = false := by rw [if0, if0]; exact teq h
theorem feq0 {x : Int32} (h : ¬ x = 0) : ifCond.holds .eq x = false ∧ ifCond.holds .ne x = true := by rw [if0, if0]; exact feq h
end Steps
end Jvm.OwnW

namespace Jvm.OwnW
open Sem ClassFile Op Lib Jvm.Free Jvm.Stand Jvm.LawKit Jvm.RoadKit
/-- an array of n places of the kind ty; place j holds f j -/
def Ar (Z : State) (h : Heap) (a : Addr) (ty : FieldType) (n : Nat) (f : Nat → Value) : Prop := ∃ cl : Cell, Arr Z h a cl ty ∧ cl.slots.size = n ∧ n < 2147483648 ∧ ∀ j, j < n → cl.slots[j]? = some (f j)
/-- the values of a list by their places -/
def lf (vs : List Value) : Nat → Value := fun j => vs.getD j .null
def updV (f : Nat → Value) (i : Nat) (v : Value) : Nat → Value := fun j => if j = i then v else f j
section Arrs
variable {Z : State} {h h' : Heap} {a b : Addr} {ty : FieldType} {n i sl : Nat} {f g : Nat → Value} {v : Value} {ws : List Addr} {vs : List Value}
theorem Ar.lt (F : Ar Z h a ty n f) : a < h.size := by obtain ⟨_, A, -⟩ := F; exact A.lt
theorem Ar.ext (F : Ar Z h a ty n f) (E : Ext h h') : Ar Z h' a ty n f := by obtain ⟨c, A, r⟩ := F; exact ⟨c, A.ext E, r⟩
theorem Ar.keep (F : Ar Z h a ty n f) (K : Keep h h' ws) (q : a ∉ ws) : Ar Z h' a ty n f := by obtain ⟨c, A, r⟩ := F; exact ⟨c, ⟨K.2.1 a c A.1 q, A.2⟩, r⟩
theorem Ar.other (F : Ar Z h b ty n f) (W : Wr h h' a sl v) (q : b ≠ a) : Ar Z h' b ty n f := by obtain ⟨c, A, r⟩ := F; exact ⟨c, A.other W q, r⟩
theorem Ar.congr (F : Ar Z h a ty n f) (q : ∀ j, j < n → f j = g j) : Ar Z h a ty n g := by obtain ⟨c, A, r1, r2, r3⟩ := F; exact ⟨c, A, r1, r2, fun j hj => by rw [r3 j hj, q j hj]⟩
theorem Ar.small (F : Ar Z h a ty n f) : n < 2147483648 := by obtain ⟨c, A, r1, r2, r3⟩ := F; exact r2
theorem toNat_of {z : Int32} {n : Nat} (hz : z.toInt = n) : z.toNatClampNeg = n := by simp only [Int32.toNatClampNeg, hz, Int.toNat_natCast]
theorem Ar.new {k : ClassId} {z : Int32} (A : Arr Z h a (newA k ty z) ty) (hz : z.toInt = n) : Ar Z h a ty n (fun _ => defaultValue ty) := by
  have q := toNat_of hz
  refine ⟨_, A, by rw [sz_new, q], ?_, fun j hj => ?_⟩
  · have := z.toInt_lt; omega
  · simp [newA, q, hj]
theorem Ar.set (F : Ar Z h a ty n f) (W : Wr h h' a i v) (hi : i < n) : Ar Z h' a ty n (updV f i v) := by
  obtain ⟨c, A, r1, r2, r3⟩ := F
  refine ⟨_, A.same W, by rw [sz_set]; exact r1, r2, fun j hj => ?_⟩
  by_cases e : j = i
  · subst e; simp [Cell.setSlot, updV, r1, hi]
  · simp only [Cell.setSlot, updV, if_neg e]; rw [Array.getElem?_setIfInBounds_ne (Ne.symm e)]; exact r3 j hj
theorem Ar.setL (F : Ar Z h a ty n (lf vs)) (W : Wr h h' a i v) (hi : i < n) (hl : i < vs.length) : Ar Z h' a ty n (lf (vs.set i v)) := (F.set W hi).congr fun j _ => by
  simp only [updV, lf, List.getD_eq_getElem?_getD]
  by_cases e : j = i
  · subst e; simp [hl]
  · rw [if_neg e, List.getElem?_set_ne (Ne.symm e)]
theorem lf_rep (n : Nat) (d : Value) (j : Nat) (hj : j < n) : d = lf (List.replicate n d) j := by simp [lf, hj]
theorem updV_lf (L : List Value) (hi : i < L.length) : updV (lf L) i v = lf (L.set i v) := by
  funext j
  simp only [updV, lf, List.getD_eq_getElem?_getD]
  by_cases e : j = i
  · subst e; simp [hi]
  · rw [if_neg e, List.getElem?_set_ne (Ne.symm e)]
theorem fill_step (N : Nat → Value) (d : Value) (i j : Nat) : updV (fun j => if j < i then N j else d) i (N i) j = if j < i + 1 then N j else d := by
  simp only [updV]
  by_cases e : j = i
  · subst e; rw [if_pos rfl, if_pos (Nat.lt_succ_self j)]
  · rw [if_neg e]
    by_cases q : j < i
    · rw [if_pos q, if_pos (by omega)]
    · rw [if_neg q, if_neg (by omega)]
theorem Ar.of_arr' {cl : Cell} (A : Arr Z h a cl ty) (hn : cl.slots.size = n) (h31 : n < 2147483648) : Ar Z h a ty n (fun j => (cl.slots[j]?).getD .null) :=
  ⟨cl, A, hn, h31, fun j hj => by simp [hn, hj]⟩
theorem staKeep1 {D n d K0 : String} (F : Sta Z h D n d v) (K : Keep h h' [a]) (E : Exa Z h a K0) : Sta Z h' D n d v := by
  obtain ⟨cf, i, k, f, st, cell, h1, h2, h3, h4, h5, h6, r⟩ := F
  refine ⟨cf, i, k, f, st, cell, h1, h2, h3, h4, K.2.1 _ _ h5 (fun q => ?_), h6, r⟩
  obtain ⟨c, _, e1, -, -, e4, -⟩ := E
  cases List.mem_singleton.mp q
  cases h5.symm.trans e1
  rw [e4] at h6; cases h6
theorem Ar.of_arr {cl : Cell} (A : Arr Z h a cl ty) (hn : cl.slots.size = n) (h31 : n < 2147483648) : ∃ f, Ar Z h a ty n f :=
  ⟨fun j => cl.slots.getD j .null, cl, A, hn, h31, fun j hj => by simp [Array.getD, hn, hj]⟩
theorem staKeep {D n d : String} (F : Sta Z h D n d v) (K : Keep h h' []) : Sta Z h' D n d v := by
  obtain ⟨cf, i, k, f, st, cell, h1, h2, h3, h4, h5, r⟩ := F
  exact ⟨cf, i, k, f, st, cell, h1, h2, h3, h4, K.2.1 _ _ h5 (fun q => nomatch q), r⟩
theorem lenEq {t : Term} {args : Array Value} {s : State} {cl : Cell} {z : Int32} (et : t.eval args s none [] s = some (.ref a)) (ha : s.arrayAt? a = some cl) (hc : (Cond.eq (.length t) (.int z)).value args s none s [] = some true) : cl.slots.size.toInt32 = z ∧ cl.slots.size < 2147483648 := by
  by_cases hb : cl.slots.size < 2 ^ 31
  · exact ⟨gotT (Cond.eq_ints (len_f et ha hb) (Term.int_eval z)) hc, hb⟩
  · obtain ⟨x, y, q1, -⟩ := cmp_v (Or.inl hc)
    simp [Term.eval, et, ha, hb] at q1
theorem inb {z : Int32} {m : Nat} (hz : z.toInt = (i : Int)) (hm : m = n) (hi : i < n) : ¬ (z < 0 ∨ m ≤ z.toNatClampNeg) := by
  rw [toNat_of hz, Int32.lt_iff_toInt_lt, hz, hm]
  have : (0 : Int32).toInt = 0 := rfl
  rw [this]; omega
theorem len32 {m : Nat} {z : Int32} (hm : m = n) (hn : n < 2147483648) (hz : z.toInt = n) : m.toInt32 = z := by
  apply Int32.toInt_inj.mp; rw [hz, hm]; exact len_toInt hn
end Arrs
section ArrSteps
variable {l : Launch} {Z : State} {a0 : Array Value} {ws : List Addr} {R : Room} {own nm : String} {bytes : ByteArray} {maxL : Nat} {ret : Option FieldType} {C : Ctx} {T : State} {h : Heap} {cells slots k n : Nat} {Q : Option Value → Heap → Prop} {pc q : Nat} {Ls L' : Array Slot} {st : List Value}
  {a : Addr} {j : Int32} {i N : Nat} {f : Nat → Value} {v : Value} {ty : FieldType}
theorem ialA (O : On l Z ws R own nm bytes maxL ret C T h cells slots) (hd : decode bytes pc = .ok (.iaload, 1)) (V : Ar Z h a .int N f) (hj : j.toInt = (i : Int)) (hi : i < N) (hv : f i = v) (hq : pc + 1 = q)
    (K : Go C ws Q k n (T.setTop (mkF C.m q Ls (v :: st)))) : Go C ws Q k n (T.setTop (mkF C.m pc Ls (.int j :: .ref a :: st))) := by
  obtain ⟨c, A, r1, r2, r3⟩ := V
  exact iaload O hd A (inb hj r1 hi) (by rw [toNat_of hj, ← hv]; exact r3 i hi) hq K
theorem lalA (O : On l Z ws R own nm bytes maxL ret C T h cells slots) (hd : decode bytes pc = .ok (.laload, 1)) (V : Ar Z h a .long N f) (hj : j.toInt = (i : Int)) (hi : i < N) (hv : f i = v) (hq : pc + 1 = q)
    (K : Go C ws Q k n (T.setTop (mkF C.m q Ls (v :: st)))) : Go C ws Q k n (T.setTop (mkF C.m pc Ls (.int j :: .ref a :: st))) := by
  obtain ⟨c, A, r1, r2, r3⟩ := V
  exact laload O hd A (inb hj r1 hi) (by rw [toNat_of hj, ← hv]; exact r3 i hi) hq K
theorem balA (O : On l Z ws R own nm bytes maxL ret C T h cells slots) (hd : decode bytes pc = .ok (.baload, 1)) (V : Ar Z h a .byte N f) (hj : j.toInt = (i : Int)) (hi : i < N) (hv : f i = v) (hq : pc + 1 = q)
    (K : Go C ws Q k n (T.setTop (mkF C.m q Ls (v :: st)))) : Go C ws Q k n (T.setTop (mkF C.m pc Ls (.int j :: .ref a :: st))) := by
  obtain ⟨c, A, r1, r2, r3⟩ := V
  exact baload O hd A (inb hj r1 hi) (by rw [toNat_of hj, ← hv]; exact r3 i hi) hq K
theorem aalA (O : On l Z ws R own nm bytes maxL ret C T h cells slots) (hd : decode bytes pc = .ok (.aaload, 1)) (V : Ar Z h a ty N f) (hty : ty.isReference = true) (hj : j.toInt = (i : Int)) (hi : i < N) (hv : f i = v) (hq : pc + 1 = q)
    (K : Go C ws Q k n (T.setTop (mkF C.m q Ls (v :: st)))) : Go C ws Q k n (T.setTop (mkF C.m pc Ls (.int j :: .ref a :: st))) := by
  obtain ⟨c, A, r1, r2, r3⟩ := V
  exact aaload O hd A hty (inb hj r1 hi) (by rw [toNat_of hj, ← hv]; exact r3 i hi) hq K
theorem lenA (O : On l Z ws R own nm bytes maxL ret C T h cells slots) (hd : decode bytes pc = .ok (.arraylength, 1)) (V : Ar Z h a ty N f) {z : Int32} (hz : z.toInt = N) (hq : pc + 1 = q)
    (K : Go C ws Q k n (T.setTop (mkF C.m q Ls (.int z :: st)))) : Go C ws Q k n (T.setTop (mkF C.m pc Ls (.ref a :: st))) := by
  obtain ⟨c, A, r1, r2, r3⟩ := V
  exact arraylength O hd A (len32 r1 r2 hz) hq K
theorem iasA (O : On l Z ws R own nm bytes maxL ret C T h cells slots) {x : Int32} (hd : decode bytes pc = .ok (.iastore, 1)) (V : Ar Z h a .int N f) (hj : j.toInt = (i : Int)) (hi : i < N) (ha : a ∈ ws ∨ C.s.heap.size ≤ a) (hq : pc + 1 = q)
    (K : ∀ T' h', On l Z ws R own nm bytes maxL ret C T' h' cells slots → Wr h h' a i (.int x) → Go C ws Q k n (T'.setTop (mkF C.m q Ls st))) : Go C ws Q k n (T.setTop (mkF C.m pc Ls (.int x :: .int j :: .ref a :: st))) := by
  obtain ⟨c, A, r1, r2, r3⟩ := V
  exact iastore O hd A (inb hj r1 hi) ha hq fun T' h' O' W => K T' h' O' (toNat_of hj ▸ W)
theorem lasA (O : On l Z ws R own nm bytes maxL ret C T h cells slots) {x : Int64} (hd : decode bytes pc = .ok (.lastore, 1)) (V : Ar Z h a .long N f) (hj : j.toInt = (i : Int)) (hi : i < N) (ha : a ∈ ws ∨ C.s.heap.size ≤ a) (hq : pc + 1 = q)
    (K : ∀ T' h', On l Z ws R own nm bytes maxL ret C T' h' cells slots → Wr h h' a i (.long x) → Go C ws Q k n (T'.setTop (mkF C.m q Ls st))) : Go C ws Q k n (T.setTop (mkF C.m pc Ls (.long x :: .int j :: .ref a :: st))) := by
  obtain ⟨c, A, r1, r2, r3⟩ := V
  exact lastore O hd A (inb hj r1 hi) ha hq fun T' h' O' W => K T' h' O' (toNat_of hj ▸ W)
theorem basA (O : On l Z ws R own nm bytes maxL ret C T h cells slots) {x y : Int32} (hd : decode bytes pc = .ok (.bastore, 1)) (V : Ar Z h a .byte N f) (hj : j.toInt = (i : Int)) (hi : i < N) (ha : a ∈ ws ∨ C.s.heap.size ≤ a) (hy : x.toInt8.toInt32 = y) (hq : pc + 1 = q)
    (K : ∀ T' h', On l Z ws R own nm bytes maxL ret C T' h' cells slots → Wr h h' a i (.int y) → Go C ws Q k n (T'.setTop (mkF C.m q Ls st))) : Go C ws Q k n (T.setTop (mkF C.m pc Ls (.int x :: .int j :: .ref a :: st))) := by
  obtain ⟨c, A, r1, r2, r3⟩ := V
  subst hy
  exact bastore O hd A (inb hj r1 hi) ha hq fun T' h' O' W => K T' h' O' (toNat_of hj ▸ W)
theorem newA' (O : On l Z ws R own nm bytes maxL ret C T h cells slots) {aty : ArrayType} {c2 s2 : Nat} (hd : decode bytes pc = .ok (.newarray aty, 2)) (ht : newarray.typeOf aty = ty) (w : (Cond.arrayClass ty).before a0 Z = true) {z : Int32} (hz : z.toInt = N) {cap : Nat} (hcap : N ≤ cap) (hb : cap * 8 ≤ 536870912) (hc2 : cells + 1 = c2) (hs2 : slots + cap = s2) (hc : c2 ≤ R.cells) (hl : s2 ≤ R.slots) (hq : pc + 2 = q)
    (K : ∀ a T' h', a = h.size → C.s.heap.size ≤ a → On l Z ws R own nm bytes maxL ret C T' h' c2 s2 → Ext h h' → Ar Z h' a ty N (fun _ => defaultValue ty) → Go C ws Q k n (T'.setTop (mkF C.m q Ls (.ref a :: st)))) : Go C ws Q k n (T.setTop (mkF C.m pc Ls (.int z :: st))) := by
  subst ht
  refine newP O hd w ?_ (by rw [toNat_of hz]; exact hcap) hb hc2 hs2 hc hl hq fun a T' h' cA e1 e2 O' E A => K a T' h' e1 e2 O' E (Ar.new A hz)
  rw [Int32.lt_iff_toInt_lt, hz]
  have : (0 : Int32).toInt = 0 := rfl
  rw [this]; omega
end ArrSteps
end Jvm.OwnW

namespace Jvm.OwnW
open Jvm.RoadKit
theorem add32 {x y : Int32} (h1 : -2147483648 ≤ x.toInt + y.toInt) (h2 : x.toInt + y.toInt < 2147483648) : (x + y).toInt = x.toInt + y.toInt := by
  have := c_iadd x y; have := rng32 (x + y); omega
theorem sub32 {x y : Int32} (h1 : -2147483648 ≤ x.toInt - y.toInt) (h2 : x.toInt - y.toInt < 2147483648) : (x - y).toInt = x.toInt - y.toInt := by
  have := c_isub x y; have := rng32 (x - y); omega
theorem mul32 {x y : Int32} (h1 : -2147483648 ≤ x.toInt * y.toInt) (h2 : x.toInt * y.toInt < 2147483648) : (x * y).toInt = x.toInt * y.toInt := by
  have := c_imul x y; have := rng32 (x * y); omega
theorem add64 {x y : Int64} (h1 : -9223372036854775808 ≤ x.toInt + y.toInt) (h2 : x.toInt + y.toInt < 9223372036854775808) : (x + y).toInt = x.toInt + y.toInt := by
  have := c_ladd x y; have := rng64 (x + y); omega
theorem sub64 {x y : Int64} (h1 : -9223372036854775808 ≤ x.toInt - y.toInt) (h2 : x.toInt - y.toInt < 9223372036854775808) : (x - y).toInt = x.toInt - y.toInt := by
  have := c_lsub x y; have := rng64 (x - y); omega
theorem mul64 {x y : Int64} (h1 : -9223372036854775808 ≤ x.toInt * y.toInt) (h2 : x.toInt * y.toInt < 9223372036854775808) : (x * y).toInt = x.toInt * y.toInt := by
  have := c_lmul x y; have := rng64 (x * y); omega
theorem ne0_32 {z : Int32} (h : 0 < z.toInt) : z ≠ 0 := fun e => by subst e; exact absurd h (by decide)
theorem ne0_64 {z : Int64} (h : 0 < z.toInt) : z ≠ 0 := fun e => by subst e; exact absurd h (by decide)
theorem lt32 {x y : Int32} (h : x.toInt < y.toInt) : x < y := Int32.lt_iff_toInt_lt.mpr h
theorem nlt32 {x y : Int32} (h : y.toInt ≤ x.toInt) : ¬ x < y := fun q => by rw [Int32.lt_iff_toInt_lt] at q; omega
theorem lt64 {x y : Int64} (h : x.toInt < y.toInt) : x < y := Int64.lt_iff_toInt_lt.mpr h
theorem nlt64 {x y : Int64} (h : y.toInt ≤ x.toInt) : ¬ x < y := fun q => by rw [Int64.lt_iff_toInt_lt] at q; omega
theorem eq32 {x y : Int32} (h : x.toInt = y.toInt) : x = y := Int32.toInt_inj.mp h
theorem ne32 {x y : Int32} (h : x.toInt ≠ y.toInt) : ¬ x = y := fun e => h (congrArg _ e)
theorem ne64 {x y : Int64} (h : x.toInt ≠ y.toInt) : ¬ x = y := fun e => h (congrArg _ e)
theorem inc32 {z : Int32} {i : Nat} (hi : z.toInt = (i : Int)) (hb : i < 2147483647) : (z + 1).toInt = ((i + 1 : Nat) : Int) := by
  have h1 : (1 : Int32).toInt = 1 := rfl
  rw [add32 (by omega) (by omega)]; omega
theorem dec32 {z : Int32} {i : Nat} (hi : z.toInt = (i : Int)) (hb : 1 ≤ i) : (z - 1).toInt = ((i - 1 : Nat) : Int) := by
  have h1 : (1 : Int32).toInt = 1 := rfl
  have := rng32 z
  rw [sub32 (by omega) (by omega)]; omega
theorem rem64 {x y : Int64} {d : Int} (hy : y.toInt = d) (hx : 0 ≤ x.toInt) : (x % y).toInt = x.toInt % d := by rw [Int64.toInt_mod, hy]; exact (tr _ _).1 hx
theorem rem32 {x y : Int32} {d : Int} (hy : y.toInt = d) (hx : 0 ≤ x.toInt) : (x % y).toInt = x.toInt % d := by rw [Int32.toInt_mod, hy]; exact (tr _ _).1 hx
theorem eq64 {x y : Int64} (h : x.toInt = y.toInt) : x = y := Int64.toInt_inj.mp h
/-- (s & 0x7fffffff) % z for a z above 0 -/
theorem rem_in (s z : Int32) (hz : 0 < z.toInt) : ∃ i : Nat, ((s &&& 2147483647) % z).toInt = (i : Int) ∧ (i : Int) < z.toInt := by
  have h1 := c_mask s 2147483647 31 (by decide) (by decide)
  have h2 := (c_iremV (s &&& 2147483647) z).1 (by omega) hz
  exact ⟨((s &&& 2147483647) % z).toInt.toNat, by omega, by omega⟩
theorem b8 (x : Int32) : x.toInt8.toInt32.toInt8.toInt32 = x.toInt8.toInt32 := by
  have h := c_i2b x; have h2 := c_i2b x.toInt8.toInt32
  apply Int32.toInt_inj.mp; omega
theorem lf_int (L : List Int32) (j : Nat) (hj : j < L.length) : lf (L.map Value.int) j = .int (L.getD j 0) := by
  simp [lf, List.getD_eq_getElem?_getD, hj]
theorem lf_long (L : List Int64) (j : Nat) (hj : j < L.length) : lf (L.map Value.long) j = .long (L.getD j 0) := by
  simp [lf, List.getD_eq_getElem?_getD, hj]
end Jvm.OwnW

namespace Jvm.OwnW
open Sem ClassFile Op Lib Jvm.Free Jvm.Stand Jvm.LawKit Jvm.RoadKit
/-- the Class object of the class K0 has been made: it is a -/
def MirO (Z : State) (K0 : String) (a : Addr) : Prop := ∃ c k, Z.vm.findClass K0 = some c ∧ Z.vm.classes[c]? = some k ∧ k.mirror = some a
theorem catR {v : Value} (h : v.isRef = true) : v.category = 1 := by cases v <;> first | rfl | cases h
theorem isRef_ite {c : Prop} [Decidable c] {a b : Value} (ha : a.isRef = true) (hb : b.isRef = true) : (if c then a else b).isRef = true := by split <;> assumption
theorem ite_val {α : Type} {c : Prop} [Decidable c] {a b v : α} (h1 : c → a = v) (h2 : ¬ c → b = v) : (if c then a else b) = v := by
  by_cases h : c
  · rw [if_pos h]; exact h1 h
  · rw [if_neg h]; exact h2 h
section StepsR
variable {l : Launch} {Z : State} {a0 : Array Value} {ws : List Addr} {R : Room} {own nm : String} {bytes : ByteArray} {maxL : Nat} {ret : Option FieldType} {C : Ctx} {T : State} {h : Heap} {cells slots k n : Nat} {Q : Option Value → Heap → Prop} {pc q : Nat} {Ls L' : Array Slot} {st : List Value}
theorem lswIn (O : On l Z ws R own nm bytes maxL ret C T h cells slots) {df v : Int} {prs : Array (Int × Int)} {ln : Nat} {x : Int32} {o : Int} (hd : decode bytes pc = .ok (.lookupswitch df prs, ln)) (hs : (prs.toList.zip (prs.toList.drop 1)).all (fun (a, next) => a.1 < next.1) = true) (hf : prs.find? (·.1 == x.toInt) = some (v, o)) (h0 : 0 ≤ (pc : Int) + o) (hq : ((pc : Int) + o).toNat = q)
    (K : Go C ws Q k n (T.setTop (mkF C.m q Ls st))) : Go C ws Q k n (T.setTop (mkF C.m pc Ls (.int x :: st))) := by
  obtain ⟨vm0, SS, ⟨hx, -, rfl, -⟩, ⟨_, X, -⟩, -⟩ := O; subst hq
  refine K.of fun _ kk => ?_
  jvm_step X.here [X.here.top, hx, hd, lookupswitch.wp_whole, hf, h0]
  refine ⟨by simpa using hs, kk⟩
theorem lswOut (O : On l Z ws R own nm bytes maxL ret C T h cells slots) {o : Int} {prs : Array (Int × Int)} {ln : Nat} {x : Int32} (hd : decode bytes pc = .ok (.lookupswitch o prs, ln)) (hs : (prs.toList.zip (prs.toList.drop 1)).all (fun (a, next) => a.1 < next.1) = true) (hf : prs.find? (·.1 == x.toInt) = none) (h0 : 0 ≤ (pc : Int) + o) (hq : ((pc : Int) + o).toNat = q)
    (K : Go C ws Q k n (T.setTop (mkF C.m q Ls st))) : Go C ws Q k n (T.setTop (mkF C.m pc Ls (.int x :: st))) := by
  obtain ⟨vm0, SS, ⟨hx, -, rfl, -⟩, ⟨_, X, -⟩, -⟩ := O; subst hq
  refine K.of fun _ kk => ?_
  jvm_step X.here [X.here.top, hx, hd, lookupswitch.wp_whole, hf, h0]
  refine ⟨by simpa using hs, kk⟩
theorem castY (O : On l Z ws R own nm bytes maxL ret C T h cells slots) {i : Nat} {K0 : String} {a : Addr} (hd : decode bytes pc = .ok (.checkcast i, 3)) (w : (Cond.classLink own i K0).before a0 Z = true) (F : Ins Z h a K0 true) (hq : pc + 3 = q)
    (K : ∀ T', On l Z ws R own nm bytes maxL ret C T' h cells slots → Go C ws Q k n (T'.setTop (mkF C.m q Ls (.ref a :: st)))) : Go C ws Q k n (T.setTop (mkF C.m pc Ls (.ref a :: st))) := by
  obtain ⟨vm0, SS, ⟨hx, hZ, rfl, r1, hown, r2⟩, ⟨_, X, N⟩, eT⟩ := O; subst hq
  obtain ⟨T', X', e', stp⟩ := Jvm.RoadKit.castY X hx hZ hown w eT F (g := mkF C.m pc Ls (.ref a :: st)) rfl rfl hd
  exact (K T' ⟨vm0, SS, ⟨hx, hZ, rfl, r1, hown, r2⟩, ⟨_, X', N⟩, e'⟩).of fun _ kk => stp _ kk
end StepsR
end Jvm.OwnW
namespace Jvm.OwnW
open Sem ClassFile Op Lib Jvm.Free Jvm.Stand Jvm.LawKit Jvm.RoadKit
/-- an array whose own class is known too -/
def ArC (Z : State) (h : Heap) (a : Addr) (ty : FieldType) (n : Nat) (f : Nat → Value) (cA : ClassId) : Prop := ∃ cl : Cell, Arr Z h a cl ty ∧ cl.cls = cA ∧ cl.slots.size = n ∧ n < 2147483648 ∧ ∀ j, j < n → cl.slots[j]? = some (f j)
section ArrsC
variable {Z : State} {h h' : Heap} {a b : Addr} {ty : FieldType} {n i sl : Nat} {f g : Nat → Value} {v : Value} {ws : List Addr} {cA : ClassId}
theorem ArC.ar (F : ArC Z h a ty n f cA) : Ar Z h a ty n f := by obtain ⟨c, A, -, r⟩ := F; exact ⟨c, A, r⟩
theorem ArC.lt (F : ArC Z h a ty n f cA) : a < h.size := F.ar.lt
theorem ArC.ext (F : ArC Z h a ty n f cA) (E : Ext h h') : ArC Z h' a ty n f cA := by obtain ⟨c, A, r⟩ := F; exact ⟨c, A.ext E, r⟩
theorem ArC.keep (F : ArC Z h a ty n f cA) (K : Keep h h' ws) (q : a ∉ ws) : ArC Z h' a ty n f cA := by obtain ⟨c, A, r⟩ := F; exact ⟨c, ⟨K.2.1 a c A.1 q, A.2⟩, r⟩
theorem ArC.other (F : ArC Z h b ty n f cA) (W : Wr h h' a sl v) (q : b ≠ a) : ArC Z h' b ty n f cA := by obtain ⟨c, A, r⟩ := F; exact ⟨c, A.other W q, r⟩
theorem ArC.new {z : Int32} (A : Arr Z h a (newA cA ty z) ty) (hz : z.toInt = n) : ArC Z h a ty n (fun _ => defaultValue ty) cA := by
  have q := toNat_of hz
  refine ⟨_, A, rfl, by rw [sz_new, q], ?_, fun j hj => ?_⟩
  · have := z.toInt_lt; omega
  · simp [newA, q, hj]
theorem ArC.set (F : ArC Z h a ty n f cA) (W : Wr h h' a i v) (hi : i < n) : ArC Z h' a ty n (updV f i v) cA := by
  obtain ⟨c, A, rc, r1, r2, r3⟩ := F
  refine ⟨_, A.same W, rc, by rw [sz_set]; exact r1, r2, fun j hj => ?_⟩
  by_cases e : j = i
  · subst e; simp [Cell.setSlot, updV, r1, hi]
  · simp only [Cell.setSlot, updV, if_neg e]; rw [Array.getElem?_setIfInBounds_ne (Ne.symm e)]; exact r3 j hj
end ArrsC
section StepsC
variable {l : Launch} {Z : State} {a0 : Array Value} {ws : List Addr} {R : Room} {own nm : String} {bytes : ByteArray} {maxL : Nat} {ret : Option FieldType} {C : Ctx} {T : State} {h : Heap} {cells slots k n : Nat} {Q : Option Value → Heap → Prop} {pc q : Nat} {Ls L' : Array Slot} {st : List Value}
  {a : Addr} {j : Int32} {i N : Nat} {f : Nat → Value} {v : Value} {ty : FieldType}
theorem nneg {z : Int32} (hz : z.toInt = (N : Int)) : ¬ z < 0 := by
  rw [Int32.lt_iff_toInt_lt, hz]
  have : (0 : Int32).toInt = 0 := rfl
  rw [this]; omega
theorem newAE (O : On l Z ws R own nm bytes maxL ret C T h cells slots) {aty : ArrayType} {c2 s2 : Nat} {ad : String} (hd : decode bytes pc = .ok (.newarray aty, 2)) (ht : newarray.typeOf aty = ty) (had : "[" ++ ty.toString = ad) (w : (Cond.arrayClass ty).before a0 Z = true) {z : Int32} (hz : z.toInt = N) {cap : Nat} (hcap : N ≤ cap) (hb : cap * 8 ≤ 536870912) (hc2 : cells + 1 = c2) (hs2 : slots + cap = s2) (hc : c2 ≤ R.cells) (hl : s2 ≤ R.slots) (hq : pc + 2 = q)
    (K : ∀ a T' h', a = h.size → C.s.heap.size ≤ a → On l Z ws R own nm bytes maxL ret C T' h' c2 s2 → Ext h h' → Ar Z h' a ty N (fun _ => defaultValue ty) → Exa Z h' a ad → Go C ws Q k n (T'.setTop (mkF C.m q Ls (.ref a :: st)))) : Go C ws Q k n (T.setTop (mkF C.m pc Ls (.int z :: st))) := by
  subst ht
  obtain ⟨vm0, SS, ⟨hx, hZ, rfl, r1, hown, r2⟩, ⟨_, X, N'⟩, eT⟩ := O; subst hq hc2 hs2
  obtain ⟨T', h', cA, X', e', E, A, Ex, stp⟩ := Jvm.RoadKit.newPE X hx hZ w eT (g := mkF C.m pc Ls (.int z :: st)) rfl hd rfl (nneg hz) (by rw [toNat_of hz]; exact hcap) hb hc hl had
  exact (K _ T' h' rfl (by rw [← eT]; exact X.same.2.1) ⟨vm0, (grow SS E.1), ⟨hx, hZ, rfl, r1, hown, r2⟩, ⟨_, X', N'⟩, e'⟩ E (Ar.new A hz) Ex).of fun _ kk => stp _ kk
theorem newRO (O : On l Z ws R own nm bytes maxL ret C T h cells slots) {K0 : String} {ix c2 s2 : Nat} (hd : decode bytes pc = .ok (.anewarray ix, 3)) (w1 : (Cond.classLink own ix K0).before a0 Z = true) (w2 : (Cond.arrayOver (.object K0)).before a0 Z = true) {z : Int32} (hz : z.toInt = N) {cap : Nat} (hcap : N ≤ cap) (hb : cap * 8 ≤ 536870912) (hc2 : cells + 1 = c2) (hs2 : slots + cap = s2) (hc : c2 ≤ R.cells) (hl : s2 ≤ R.slots) (hq : pc + 3 = q)
    (K : ∀ a T' h' cA, a = h.size → C.s.heap.size ≤ a → On l Z ws R own nm bytes maxL ret C T' h' c2 s2 → Ext h h' → ArC Z h' a (.object K0) N (fun _ => .null) cA → Ovr Z cA K0 → Go C ws Q k n (T'.setTop (mkF C.m q Ls (.ref a :: st)))) : Go C ws Q k n (T.setTop (mkF C.m pc Ls (.int z :: st))) := by
  obtain ⟨vm0, SS, ⟨hx, hZ, rfl, r1, hown, r2⟩, ⟨_, X, N'⟩, eT⟩ := O; subst hq hc2 hs2
  obtain ⟨T', h', cA, X', e', E, A, Ov, stp⟩ := Jvm.RoadKit.newR X hx hZ hown w1 w2 eT (g := mkF C.m pc Ls (.int z :: st)) rfl hd rfl (nneg hz) (by rw [toNat_of hz]; exact hcap) hb hc hl
  exact (K _ T' h' cA rfl (by rw [← eT]; exact X.same.2.1) ⟨vm0, (grow SS E.1), ⟨hx, hZ, rfl, r1, hown, r2⟩, ⟨_, X', N'⟩, e'⟩ E (ArC.new A hz) Ov).of fun _ kk => stp _ kk
theorem newRR (O : On l Z ws R own nm bytes maxL ret C T h cells slots) {K0 ad : String} {ix c2 s2 : Nat} (hd : decode bytes pc = .ok (.anewarray ix, 3)) (hC : (FieldType.array ty).toString = K0) (had : "[" ++ K0 = ad) (w1 : (Cond.classLink own ix K0).before a0 Z = true) (w2 : (Cond.arrayOver (.array ty)).before a0 Z = true) {z : Int32} (hz : z.toInt = N) {cap : Nat} (hcap : N ≤ cap) (hb : cap * 8 ≤ 536870912) (hc2 : cells + 1 = c2) (hs2 : slots + cap = s2) (hc : c2 ≤ R.cells) (hl : s2 ≤ R.slots) (hq : pc + 3 = q)
    (K : ∀ a T' h' cA, a = h.size → C.s.heap.size ≤ a → On l Z ws R own nm bytes maxL ret C T' h' c2 s2 → Ext h h' → ArC Z h' a (.array ty) N (fun _ => .null) cA → OvrA Z cA ty K0 → Go C ws Q k n (T'.setTop (mkF C.m q Ls (.ref a :: st)))) : Go C ws Q k n (T.setTop (mkF C.m pc Ls (.int z :: st))) := by
  obtain ⟨vm0, SS, ⟨hx, hZ, rfl, r1, hown, r2⟩, ⟨_, X, N'⟩, eT⟩ := O; subst hq hc2 hs2
  obtain ⟨T', h', cA, X', e', E, A, -, Ov, stp⟩ := Jvm.RoadKit.newRA X hx hZ hown hC w1 w2 eT (g := mkF C.m pc Ls (.int z :: st)) rfl hd rfl (nneg hz) (by rw [toNat_of hz]; exact hcap) hb hc hl had
  exact (K _ T' h' cA rfl (by rw [← eT]; exact X.same.2.1) ⟨vm0, (grow SS E.1), ⟨hx, hZ, rfl, r1, hown, r2⟩, ⟨_, X', N'⟩, e'⟩ E (ArC.new A hz) Ov).of fun _ kk => stp _ kk
theorem aasRR (O : On l Z ws R own nm bytes maxL ret C T h cells slots) {K0 : String} {y : Addr} {cA : ClassId} (hd : decode bytes pc = .ok (.aastore, 1)) (V : ArC Z h a (.array ty) N f cA) (Ov : OvrA Z cA ty K0) (I : Ins Z h y K0 true) (hj : j.toInt = (i : Int)) (hi : i < N) (ha : a ∈ ws ∨ C.s.heap.size ≤ a) (hq : pc + 1 = q)
    (K : ∀ T' h', On l Z ws R own nm bytes maxL ret C T' h' cells slots → Wr h h' a i (.ref y) → Go C ws Q k n (T'.setTop (mkF C.m q Ls st))) : Go C ws Q k n (T.setTop (mkF C.m pc Ls (.ref y :: .int j :: .ref a :: st))) := by
  obtain ⟨vm0, SS, ⟨hx, hZ, rfl, r1, hown, r2⟩, ⟨_, X, N'⟩, eT⟩ := O; subst hq
  obtain ⟨cl, A, rc, s1, s2, s3⟩ := V
  obtain ⟨T', h', X', e', W, stp⟩ := Jvm.RoadKit.stR X hx hZ eT A (inb hj s1 hi) rfl (Sto.ofVA A rc Ov I) (g := mkF C.m pc Ls (.ref y :: .int j :: .ref a :: st)) rfl rfl hd
  exact (K T' h' ⟨vm0, (grow SS (wr_le W)), ⟨hx, hZ, rfl, r1, hown, r2⟩, ⟨_, X', N'.snoc ha⟩, e'⟩ (toNat_of hj ▸ W)).of fun _ kk => stp _ kk
end StepsC
end Jvm.OwnW

namespace Jvm.Pilot.@@N@@
open Jvm Jvm.ClassFile Sem Op Lib Jvm.Free Jvm.Stand Jvm.LawKit Jvm.RoadKit Bundle Jvm.OwnW Jvm.Pilot.@@N@@.Jvm.D

theorem own_str {Z : State} {a0 : Array Value} (hw : ∀ d ∈ tables_1, d.before a0 Z = true) : ∀ a ∈ Bundle.stringAtoms, a.before a0 Z = true := by
  intro a ha
  simp only [Bundle.stringAtoms, List.mem_cons, List.not_mem_nil, or_false] at ha
  rcases ha with rfl | rfl | rfl | rfl | rfl | rfl | rfl
  · exact hw _ (List.mem_of_getElem? (i := 27) rfl)
  · exact hw _ (List.mem_of_getElem? (i := 28) rfl)
  · exact hw _ (List.mem_of_getElem? (i := 29) rfl)
  · exact hw _ (List.mem_of_getElem? (i := 30) rfl)
  · exact hw _ (List.mem_of_getElem? (i := 31) rfl)
  · exact hw _ (List.mem_of_getElem? (i := 32) rfl)
  · exact hw _ (List.mem_of_getElem? (i := 33) rfl)
theorem dr_0 : decode prog_32_method_1_code 0 = .ok (.aload_n 0, 1) := by decide +kernel
theorem dr_1 : decode prog_32_method_1_code 1 = .ok (.invokespecial 1, 3) := by decide +kernel
theorem dr_4 : decode prog_32_method_1_code 4 = .ok (.lload_n 1, 1) := by decide +kernel
theorem dr_5 : decode prog_32_method_1_code 5 = .ok (.lconst 1, 1) := by decide +kernel
theorem dr_6 : decode prog_32_method_1_code 6 = .ok (.lcmp, 1) := by decide +kernel
theorem dr_7 : decode prog_32_method_1_code 7 = .ok (.ifCond .ge 17, 3) := by decide +kernel
theorem dr_24 : decode prog_32_method_1_code 24 = .ok (.aload_n 0, 1) := by decide +kernel
theorem dr_25 : decode prog_32_method_1_code 25 = .ok (.lload_n 1, 1) := by decide +kernel
theorem dr_26 : decode prog_32_method_1_code 26 = .ok (.putfield 16, 3) := by decide +kernel
theorem dr_29 : decode prog_32_method_1_code 29 = .ok (.aload_n 0, 1) := by decide +kernel
theorem dr_30 : decode prog_32_method_1_code 30 = .ok (.lload_n 1, 1) := by decide +kernel
theorem dr_31 : decode prog_32_method_1_code 31 = .ok (.ldc2_w 22, 3) := by decide +kernel
theorem dr_34 : decode prog_32_method_1_code 34 = .ok (.lcmp, 1) := by decide +kernel
theorem dr_35 : decode prog_32_method_1_code 35 = .ok (.ifCond .lt 11, 3) := by decide +kernel
theorem dr_46 : decode prog_32_method_1_code 46 = .ok (.iconst 1, 1) := by decide +kernel
theorem dr_47 : decode prog_32_method_1_code 47 = .ok (.goto 4, 3) := by decide +kernel
theorem dr_51 : decode prog_32_method_1_code 51 = .ok (.putfield 26, 3) := by decide +kernel
theorem dr_54 : decode prog_32_method_1_code 54 = .ok (.aload_n 0, 1) := by decide +kernel
theorem dr_55 : decode prog_32_method_1_code 55 = .ok (.getfield 26, 3) := by decide +kernel
theorem dr_58 : decode prog_32_method_1_code 58 = .ok (.ifCond .eq 16, 3) := by decide +kernel
theorem dr_61 : decode prog_32_method_1_code 61 = .ok (.aload_n 0, 1) := by decide +kernel
theorem dr_62 : decode prog_32_method_1_code 62 = .ok (.lconst 0, 1) := by decide +kernel
theorem dr_63 : decode prog_32_method_1_code 63 = .ok (.putfield 30, 3) := by decide +kernel
theorem dr_66 : decode prog_32_method_1_code 66 = .ok (.aload_n 0, 1) := by decide +kernel
theorem dr_67 : decode prog_32_method_1_code 67 = .ok (.iconst 0, 1) := by decide +kernel
theorem dr_68 : decode prog_32_method_1_code 68 = .ok (.putfield 33, 3) := by decide +kernel
theorem dr_71 : decode prog_32_method_1_code 71 = .ok (.goto 33, 3) := by decide +kernel
theorem dr_104 : decode prog_32_method_1_code 104 = .ok (.return_, 1) := by decide +kernel
theorem ef_r (a1 : Addr) (m : MethodId) : entryFrame m #[(.ref a1), (.long (1 : Int64))] 4 = mkF m 0 #[.val (.ref a1), .val (.long (1 : Int64)), .second, .unset] [] := by first | (simp [entryFrame, mkF, argsToLocals, Value.category, maxLocals]; done) | rfl
theorem pn_r : plainFor (⟨"com/example/occupancy/occupancy/hash/internal/CellRule", "<init>", "(J)V"⟩ : MethodName) = true := by first | exact plainFor_of_name (by first | (simp [plainName, overriddenIn]; done) | decide +kernel) | decide +kernel
set_option maxRecDepth 65536 in
set_option maxHeartbeats 40000000 in
theorem rm_r (l : Launch) (Z : State) (a0 : Array Value) (hw : ∀ d ∈ tables_1, d.before a0 Z = true) (a1 : Addr) (h0 : Heap) (E_a1 : Exa Z h0 a1 "com/example/occupancy/occupancy/hash/internal/CellRule") (F_cellCount_a1 : Fld Z h0 a1 "com/example/occupancy/occupancy/hash/internal/CellRule" "cellCount" "J" (.long (0 : Int64))) (F_dividesOutright_a1 : Fld Z h0 a1 "com/example/occupancy/occupancy/hash/internal/CellRule" "dividesOutright" "Z" (.int (0 : Int32))) (F_reciprocal_a1 : Fld Z h0 a1 "com/example/occupancy/occupancy/hash/internal/CellRule" "reciprocal" "J" (.long (0 : Int64))) (F_shift_a1 : Fld Z h0 a1 "com/example/occupancy/occupancy/hash/internal/CellRule" "shift" "I" (.int (0 : Int32))) :
    Met l Z (⟨"com/example/occupancy/occupancy/hash/internal/CellRule", "<init>", "(J)V"⟩ : MethodName) prog_32_method_1_code 4 none [] ({ frames := 1, cells := 0, slots := 0, locals := 12 } : Room) #[(.ref a1), (.long (1 : Int64))] [a1] h0 (fun v h => v = none ∧ Fld Z h a1 "com/example/occupancy/occupancy/hash/internal/CellRule" "cellCount" "J" (.long (1 : Int64)) ∧ Fld Z h a1 "com/example/occupancy/occupancy/hash/internal/CellRule" "dividesOutright" "Z" (.int (1 : Int32))) := by
  refine Met.mk pn_r (ef_r a1) ?_
  intro C T hs0 O
  show Go C [a1] (fun v h => v = none ∧ Fld Z h a1 "com/example/occupancy/occupancy/hash/internal/CellRule" "cellCount" "J" (.long (1 : Int64)) ∧ Fld Z h a1 "com/example/occupancy/occupancy/hash/internal/CellRule" "dividesOutright" "Z" (.int (1 : Int32))) 0 0 (T.setTop (mkF C.m 0 #[.val (.ref a1), .val (.long (1 : Int64)), .second, .unset] []))
  refine Jvm.OwnW.aloadN O dr_0 rfl rfl (q := 1) rfl ?_
  refine Jvm.OwnW.initO O dr_1 (hw _ (List.mem_of_getElem? (i := 7) rfl)) (hw _ (List.mem_of_getElem? (i := 8) rfl)) (hw _ (List.mem_of_getElem? (i := 9) rfl)) rfl (by decide) (W := 0) (Nat.le_of_eq rfl) (by decide) (q := 4) rfl ?_
  intro T1 O1
  refine Jvm.OwnW.lloadN O1 dr_4 rfl (q := 5) rfl ?_
  refine Jvm.OwnW.lconst O1 dr_5 (r := (1 : Int64)) rfl (q := 6) rfl ?_
  refine Jvm.OwnW.lcmp O1 dr_6 rfl (q := 7) rfl ?_
  refine Jvm.OwnW.ifYes O1 dr_7 (fltL (show ¬ ((1 : Int64) < (1 : Int64)) from (by decide))).2.1 (by decide) (q := 24) rfl ?_
  refine Jvm.OwnW.aloadN O1 dr_24 rfl rfl (q := 25) rfl ?_
  refine Jvm.OwnW.lloadN O1 dr_25 rfl (q := 26) rfl ?_
  refine Jvm.OwnW.putF O1 dr_26 (host := "") (Or.inl (hw _ (List.mem_of_getElem? (i := 10) rfl))) Via.refl F_cellCount_a1 E_a1 (Or.inr ⟨hw _ (List.mem_of_getElem? (i := 11) rfl), rfl, rfl⟩) (hw _ (List.mem_of_getElem? (i := 2) rfl)) (ty := .long) (by decide) rfl rfl (Or.inl (List.mem_cons_self ..)) (q := 29) rfl ?_
  intro T2 h2 O2 W2
  have E_a1 := E_a1.wr W2
  have F_cellCount_a1 := F_cellCount_a1.same W2
  have F_dividesOutright_a1 := F_dividesOutright_a1.other W2 (Or.inr (slot_ne (Or.inr (hw _ (List.mem_of_getElem? (i := 14) rfl))) (Or.inr (hw _ (List.mem_of_getElem? (i := 11) rfl))) (by decide) (t := .boolean) (t' := .long) (by decide) (by decide)))
  have F_reciprocal_a1 := F_reciprocal_a1.other W2 (Or.inr (slot_ne (Or.inr (hw _ (List.mem_of_getElem? (i := 16) rfl))) (Or.inr (hw _ (List.mem_of_getElem? (i := 11) rfl))) (by decide) (t := .long) (t' := .long) (by decide) (by decide)))
  have F_shift_a1 := F_shift_a1.other W2 (Or.inr (slot_ne (Or.inr (hw _ (List.mem_of_getElem? (i := 18) rfl))) (Or.inr (hw _ (List.mem_of_getElem? (i := 11) rfl))) (by decide) (t := .int) (t' := .long) (by decide) (by decide)))
  refine Jvm.OwnW.aloadN O2 dr_29 rfl rfl (q := 30) rfl ?_
  refine Jvm.OwnW.lloadN O2 dr_30 rfl (q := 31) rfl ?_
  refine Jvm.OwnW.ldcL O2 dr_31 (hw _ (List.mem_of_getElem? (i := 12) rfl)) (q := 34) rfl ?_
  refine Jvm.OwnW.lcmp O2 dr_34 rfl (q := 35) rfl ?_
  refine Jvm.OwnW.ifYes O2 dr_35 (tltL (show (1 : Int64) < (4 : Int64) from (by decide))).1 (by decide) (q := 46) rfl ?_
  refine Jvm.OwnW.iconst O2 dr_46 (r := (1 : Int32)) rfl (q := 47) rfl ?_
  refine Jvm.OwnW.goto O2 dr_47 (by decide) (q := 51) rfl ?_
  refine Jvm.OwnW.putF O2 dr_51 (host := "") (Or.inl (hw _ (List.mem_of_getElem? (i := 13) rfl))) Via.refl F_dividesOutright_a1 E_a1 (Or.inr ⟨hw _ (List.mem_of_getElem? (i := 14) rfl), rfl, rfl⟩) (hw _ (List.mem_of_getElem? (i := 2) rfl)) (ty := .boolean) (by decide) rfl rfl (Or.inl (List.mem_cons_self ..)) (q := 54) rfl ?_
  intro T3 h3 O3 W3
  have E_a1 := E_a1.wr W3
  have F_cellCount_a1 := F_cellCount_a1.other W3 (Or.inr (slot_ne (Or.inr (hw _ (List.mem_of_getElem? (i := 11) rfl))) (Or.inr (hw _ (List.mem_of_getElem? (i := 14) rfl))) (by decide) (t := .long) (t' := .boolean) (by decide) (by decide)))
  have F_dividesOutright_a1 := F_dividesOutright_a1.same W3
  have F_reciprocal_a1 := F_reciprocal_a1.other W3 (Or.inr (slot_ne (Or.inr (hw _ (List.mem_of_getElem? (i := 16) rfl))) (Or.inr (hw _ (List.mem_of_getElem? (i := 14) rfl))) (by decide) (t := .long) (t' := .boolean) (by decide) (by decide)))
  have F_shift_a1 := F_shift_a1.other W3 (Or.inr (slot_ne (Or.inr (hw _ (List.mem_of_getElem? (i := 18) rfl))) (Or.inr (hw _ (List.mem_of_getElem? (i := 14) rfl))) (by decide) (t := .int) (t' := .boolean) (by decide) (by decide)))
  refine Jvm.OwnW.aloadN O3 dr_54 rfl rfl (q := 55) rfl ?_
  refine Jvm.OwnW.getF O3 dr_55 (host := "") (Or.inl (hw _ (List.mem_of_getElem? (i := 13) rfl))) Via.refl F_dividesOutright_a1 (q := 58) rfl ?_
  intro T4 O4
  refine Jvm.OwnW.ifNo O4 dr_58 (feq0 (show ¬ ((1 : Int32) = (0 : Int32)) from (by decide))).1 (q := 61) rfl ?_
  refine Jvm.OwnW.aloadN O4 dr_61 rfl rfl (q := 62) rfl ?_
  refine Jvm.OwnW.lconst O4 dr_62 (r := (0 : Int64)) rfl (q := 63) rfl ?_
  refine Jvm.OwnW.putF O4 dr_63 (host := "") (Or.inl (hw _ (List.mem_of_getElem? (i := 15) rfl))) Via.refl F_reciprocal_a1 E_a1 (Or.inr ⟨hw _ (List.mem_of_getElem? (i := 16) rfl), rfl, rfl⟩) (hw _ (List.mem_of_getElem? (i := 2) rfl)) (ty := .long) (by decide) rfl rfl (Or.inl (List.mem_cons_self ..)) (q := 66) rfl ?_
  intro T5 h5 O5 W5
  have E_a1 := E_a1.wr W5
  have F_cellCount_a1 := F_cellCount_a1.other W5 (Or.inr (slot_ne (Or.inr (hw _ (List.mem_of_getElem? (i := 11) rfl))) (Or.inr (hw _ (List.mem_of_getElem? (i := 16) rfl))) (by decide) (t := .long) (t' := .long) (by decide) (by decide)))
  have F_dividesOutright_a1 := F_dividesOutright_a1.other W5 (Or.inr (slot_ne (Or.inr (hw _ (List.mem_of_getElem? (i := 14) rfl))) (Or.inr (hw _ (List.mem_of_getElem? (i := 16) rfl))) (by decide) (t := .boolean) (t' := .long) (by decide) (by decide)))
  have F_reciprocal_a1 := F_reciprocal_a1.same W5
  have F_shift_a1 := F_shift_a1.other W5 (Or.inr (slot_ne (Or.inr (hw _ (List.mem_of_getElem? (i := 18) rfl))) (Or.inr (hw _ (List.mem_of_getElem? (i := 16) rfl))) (by decide) (t := .int) (t' := .long) (by decide) (by decide)))
  refine Jvm.OwnW.aloadN O5 dr_66 rfl rfl (q := 67) rfl ?_
  refine Jvm.OwnW.iconst O5 dr_67 (r := (0 : Int32)) rfl (q := 68) rfl ?_
  refine Jvm.OwnW.putF O5 dr_68 (host := "") (Or.inl (hw _ (List.mem_of_getElem? (i := 17) rfl))) Via.refl F_shift_a1 E_a1 (Or.inr ⟨hw _ (List.mem_of_getElem? (i := 18) rfl), rfl, rfl⟩) (hw _ (List.mem_of_getElem? (i := 2) rfl)) (ty := .int) (by decide) rfl rfl (Or.inl (List.mem_cons_self ..)) (q := 71) rfl ?_
  intro T6 h6 O6 W6
  have E_a1 := E_a1.wr W6
  have F_cellCount_a1 := F_cellCount_a1.other W6 (Or.inr (slot_ne (Or.inr (hw _ (List.mem_of_getElem? (i := 11) rfl))) (Or.inr (hw _ (List.mem_of_getElem? (i := 18) rfl))) (by decide) (t := .long) (t' := .int) (by decide) (by decide)))
  have F_dividesOutright_a1 := F_dividesOutright_a1.other W6 (Or.inr (slot_ne (Or.inr (hw _ (List.mem_of_getElem? (i := 14) rfl))) (Or.inr (hw _ (List.mem_of_getElem? (i := 18) rfl))) (by decide) (t := .boolean) (t' := .int) (by decide) (by decide)))
  have F_reciprocal_a1 := F_reciprocal_a1.other W6 (Or.inr (slot_ne (Or.inr (hw _ (List.mem_of_getElem? (i := 16) rfl))) (Or.inr (hw _ (List.mem_of_getElem? (i := 18) rfl))) (by decide) (t := .long) (t' := .int) (by decide) (by decide)))
  have F_shift_a1 := F_shift_a1.same W6
  refine Jvm.OwnW.goto O6 dr_71 (by decide) (q := 104) rfl ?_
  exact Jvm.OwnW.ret0 O6 dr_104 (by decide) (by decide) ⟨rfl, F_cellCount_a1, F_dividesOutright_a1⟩
theorem dq_0 : decode jdk_31_method_11_code 0 = .ok (.aload_n 0, 1) := by decide +kernel
theorem dq_1 : decode jdk_31_method_11_code 1 = .ok (.ifnonnull 12, 3) := by decide +kernel
theorem dq_13 : decode jdk_31_method_11_code 13 = .ok (.aload_n 0, 1) := by decide +kernel
theorem dq_14 : decode jdk_31_method_11_code 14 = .ok (.areturn, 1) := by decide +kernel
theorem ef_q (a1 : Addr) (a2 : Addr) (m : MethodId) : entryFrame m #[(.ref a1), (.ref a2)] 2 = mkF m 0 #[.val (.ref a1), .val (.ref a2)] [] := by first | (simp [entryFrame, mkF, argsToLocals, Value.category, maxLocals]; done) | rfl
theorem pn_q : plainFor (⟨"java/util/Objects", "requireNonNull", "(Ljava/lang/Object;Ljava/lang/String;)Ljava/lang/Object;"⟩ : MethodName) = true := by first | exact plainFor_of_name (by first | (simp [plainName, overriddenIn]; done) | decide +kernel) | decide +kernel
set_option maxRecDepth 65536 in
set_option maxHeartbeats 40000000 in
theorem rm_q (l : Launch) (Z : State) (a0 : Array Value) (hw : ∀ d ∈ tables_1, d.before a0 Z = true) (a1 : Addr) (a2 : Addr) (h0 : Heap)  :
    Met l Z (⟨"java/util/Objects", "requireNonNull", "(Ljava/lang/Object;Ljava/lang/String;)Ljava/lang/Object;"⟩ : MethodName) jdk_31_method_11_code 2 (some (.object "java/lang/Object")) [] ({ frames := 0, cells := 0, slots := 0, locals := 0 } : Room) #[(.ref a1), (.ref a2)] [] h0 (fun v h => v = some (.ref a1)) := by
  refine Met.mk pn_q (ef_q a1 a2) ?_
  intro C T hs0 O
  show Go C [] (fun v h => v = some (.ref a1)) 0 0 (T.setTop (mkF C.m 0 #[.val (.ref a1), .val (.ref a2)] []))
  refine Jvm.OwnW.aloadN O dq_0 rfl rfl (q := 1) rfl ?_
  refine Jvm.OwnW.ifnonnullYes O dq_1 (by decide) (q := 13) rfl ?_
  refine Jvm.OwnW.aloadN O dq_13 rfl rfl (q := 14) rfl ?_
  exact Jvm.OwnW.retA O dq_14 rfl rfl (by first | rfl | (cases ((.ref a1)) <;> rfl)) (by decide) (by decide) rfl
theorem dm_0 : decode jdk_35_method_45_code 0 = .ok (.lload_n 2, 1) := by decide +kernel
theorem dm_1 : decode jdk_35_method_45_code 1 = .ok (.lconst 0, 1) := by decide +kernel
theorem dm_2 : decode jdk_35_method_45_code 2 = .ok (.lcmp, 1) := by decide +kernel
theorem dm_3 : decode jdk_35_method_45_code 3 = .ok (.ifCond .lt 37, 3) := by decide +kernel
theorem dm_6 : decode jdk_35_method_45_code 6 = .ok (.lload_n 0, 1) := by decide +kernel
theorem dm_7 : decode jdk_35_method_45_code 7 = .ok (.iconst 1, 1) := by decide +kernel
theorem dm_8 : decode jdk_35_method_45_code 8 = .ok (.lushr, 1) := by decide +kernel
theorem dm_9 : decode jdk_35_method_45_code 9 = .ok (.lload_n 2, 1) := by decide +kernel
theorem dm_10 : decode jdk_35_method_45_code 10 = .ok (.ldiv, 1) := by decide +kernel
theorem dm_11 : decode jdk_35_method_45_code 11 = .ok (.iconst 1, 1) := by decide +kernel
theorem dm_12 : decode jdk_35_method_45_code 12 = .ok (.lshl, 1) := by decide +kernel
theorem dm_13 : decode jdk_35_method_45_code 13 = .ok (.lstore 4, 2) := by decide +kernel
theorem dm_15 : decode jdk_35_method_45_code 15 = .ok (.lload_n 0, 1) := by decide +kernel
theorem dm_16 : decode jdk_35_method_45_code 16 = .ok (.lload 4, 2) := by decide +kernel
theorem dm_18 : decode jdk_35_method_45_code 18 = .ok (.lload_n 2, 1) := by decide +kernel
theorem dm_19 : decode jdk_35_method_45_code 19 = .ok (.lmul, 1) := by decide +kernel
theorem dm_20 : decode jdk_35_method_45_code 20 = .ok (.lsub, 1) := by decide +kernel
theorem dm_21 : decode jdk_35_method_45_code 21 = .ok (.lstore 6, 2) := by decide +kernel
theorem dm_23 : decode jdk_35_method_45_code 23 = .ok (.lload 6, 2) := by decide +kernel
theorem dm_25 : decode jdk_35_method_45_code 25 = .ok (.lload 6, 2) := by decide +kernel
theorem dm_27 : decode jdk_35_method_45_code 27 = .ok (.lload_n 2, 1) := by decide +kernel
theorem dm_28 : decode jdk_35_method_45_code 28 = .ok (.lsub, 1) := by decide +kernel
theorem dm_29 : decode jdk_35_method_45_code 29 = .ok (.ldc2_w 306, 3) := by decide +kernel
theorem dm_32 : decode jdk_35_method_45_code 32 = .ok (.lxor, 1) := by decide +kernel
theorem dm_33 : decode jdk_35_method_45_code 33 = .ok (.bipush 63, 2) := by decide +kernel
theorem dm_35 : decode jdk_35_method_45_code 35 = .ok (.lshr, 1) := by decide +kernel
theorem dm_36 : decode jdk_35_method_45_code 36 = .ok (.lload_n 2, 1) := by decide +kernel
theorem dm_37 : decode jdk_35_method_45_code 37 = .ok (.land, 1) := by decide +kernel
theorem dm_38 : decode jdk_35_method_45_code 38 = .ok (.lsub, 1) := by decide +kernel
theorem dm_39 : decode jdk_35_method_45_code 39 = .ok (.lreturn, 1) := by decide +kernel
theorem ef_m (p0 : Int64) (m : MethodId) : entryFrame m #[(.long p0), (.long (1 : Int64))] 8 = mkF m 0 #[.val (.long p0), .second, .val (.long (1 : Int64)), .second, .unset, .unset, .unset, .unset] [] := by first | (simp [entryFrame, mkF, argsToLocals, Value.category, maxLocals]; done) | rfl
theorem pn_m : plainFor (⟨"java/lang/Long", "remainderUnsigned", "(JJ)J"⟩ : MethodName) = true := by first | exact plainFor_of_name (by first | (simp [plainName, overriddenIn]; done) | decide +kernel) | decide +kernel
set_option maxRecDepth 65536 in
set_option maxHeartbeats 40000000 in
theorem rm_m (l : Launch) (Z : State) (a0 : Array Value) (hw : ∀ d ∈ tables_1, d.before a0 Z = true) (p0 : Int64) (h0 : Heap)  :
    Met l Z (⟨"java/lang/Long", "remainderUnsigned", "(JJ)J"⟩ : MethodName) jdk_35_method_45_code 8 (some .long) [] ({ frames := 0, cells := 0, slots := 0, locals := 0 } : Room) #[(.long p0), (.long (1 : Int64))] [] h0 (fun v h => ∃ z, v = some (.long z)) := by
  refine Met.mk pn_m (ef_m p0) ?_
  intro C T hs0 O
  show Go C [] (fun v h => ∃ z, v = some (.long z)) 0 0 (T.setTop (mkF C.m 0 #[.val (.long p0), .second, .val (.long (1 : Int64)), .second, .unset, .unset, .unset, .unset] []))
  refine Jvm.OwnW.lloadN O dm_0 rfl (q := 1) rfl ?_
  refine Jvm.OwnW.lconst O dm_1 (r := (0 : Int64)) rfl (q := 2) rfl ?_
  refine Jvm.OwnW.lcmp O dm_2 rfl (q := 3) rfl ?_
  refine Jvm.OwnW.ifNo O dm_3 (fltL (show ¬ ((1 : Int64) < (0 : Int64)) from (by decide))).1 (q := 6) rfl ?_
  refine Jvm.OwnW.lloadN O dm_6 rfl (q := 7) rfl ?_
  refine Jvm.OwnW.iconst O dm_7 (r := (1 : Int32)) rfl (q := 8) rfl ?_
  refine Jvm.OwnW.lushr O dm_8 rfl (q := 9) rfl ?_
  refine Jvm.OwnW.lloadN O dm_9 rfl (q := 10) rfl ?_
  refine Jvm.OwnW.ldiv O dm_10 (by decide) rfl (q := 11) rfl ?_
  refine Jvm.OwnW.iconst O dm_11 (r := (1 : Int32)) rfl (q := 12) rfl ?_
  refine Jvm.OwnW.lshl O dm_12 rfl (q := 13) rfl ?_
  refine Jvm.OwnW.lstore O dm_13 (L' := #[.val (.long p0), .second, .val (.long (1 : Int64)), .second, .val (.long ((((p0.toUInt64 >>> ((1 : Int32) &&& 0x3f).toInt64.toUInt64).toInt64) / (1 : Int64)) <<< ((1 : Int32) &&& 0x3f).toInt64)), .second, .unset, .unset]) rfl (q := 15) rfl ?_
  refine Jvm.OwnW.lloadN O dm_15 rfl (q := 16) rfl ?_
  refine Jvm.OwnW.lload O dm_16 rfl (q := 18) rfl ?_
  refine Jvm.OwnW.lloadN O dm_18 rfl (q := 19) rfl ?_
  refine Jvm.OwnW.lmul O dm_19 rfl (q := 20) rfl ?_
  refine Jvm.OwnW.lsub O dm_20 rfl (q := 21) rfl ?_
  refine Jvm.OwnW.lstore O dm_21 (L' := #[.val (.long p0), .second, .val (.long (1 : Int64)), .second, .val (.long ((((p0.toUInt64 >>> ((1 : Int32) &&& 0x3f).toInt64.toUInt64).toInt64) / (1 : Int64)) <<< ((1 : Int32) &&& 0x3f).toInt64)), .second, .val (.long (p0 - (((((p0.toUInt64 >>> ((1 : Int32) &&& 0x3f).toInt64.toUInt64).toInt64) / (1 : Int64)) <<< ((1 : Int32) &&& 0x3f).toInt64) * (1 : Int64)))), .second]) rfl (q := 23) rfl ?_
  refine Jvm.OwnW.lload O dm_23 rfl (q := 25) rfl ?_
  refine Jvm.OwnW.lload O dm_25 rfl (q := 27) rfl ?_
  refine Jvm.OwnW.lloadN O dm_27 rfl (q := 28) rfl ?_
  refine Jvm.OwnW.lsub O dm_28 rfl (q := 29) rfl ?_
  refine Jvm.OwnW.ldcL O dm_29 (hw _ (List.mem_of_getElem? (i := 59) rfl)) (q := 32) rfl ?_
  refine Jvm.OwnW.lxor O dm_32 rfl (q := 33) rfl ?_
  refine Jvm.OwnW.bipush O dm_33 (r := (63 : Int32)) rfl (q := 35) rfl ?_
  refine Jvm.OwnW.lshr O dm_35 rfl (q := 36) rfl ?_
  refine Jvm.OwnW.lloadN O dm_36 rfl (q := 37) rfl ?_
  refine Jvm.OwnW.land O dm_37 rfl (q := 38) rfl ?_
  refine Jvm.OwnW.lsub O dm_38 rfl (q := 39) rfl ?_
  exact Jvm.OwnW.retL O dm_39 rfl (by decide) (by decide) ⟨_, rfl⟩
theorem dc_0 : decode prog_32_method_2_code 0 = .ok (.aload_n 0, 1) := by decide +kernel
theorem dc_1 : decode prog_32_method_2_code 1 = .ok (.getfield 16, 3) := by decide +kernel
theorem dc_4 : decode prog_32_method_2_code 4 = .ok (.lreturn, 1) := by decide +kernel
theorem ef_c (a1 : Addr) (m : MethodId) : entryFrame m #[(.ref a1)] 1 = mkF m 0 #[.val (.ref a1)] [] := by first | (simp [entryFrame, mkF, argsToLocals, Value.category, maxLocals]; done) | rfl
theorem pn_c : plainFor (⟨"com/example/occupancy/occupancy/hash/internal/CellRule", "cellCount", "()J"⟩ : MethodName) = true := by first | exact plainFor_of_name (by first | (simp [plainName, overriddenIn]; done) | decide +kernel) | decide +kernel
set_option maxRecDepth 65536 in
set_option maxHeartbeats 40000000 in
theorem rm_c (l : Launch) (Z : State) (a0 : Array Value) (hw : ∀ d ∈ tables_1, d.before a0 Z = true) (a1 : Addr) (h0 : Heap) (E_a1 : Exa Z h0 a1 "com/example/occupancy/occupancy/hash/internal/CellRule") (F_cellCount_a1 : Fld Z h0 a1 "com/example/occupancy/occupancy/hash/internal/CellRule" "cellCount" "J" (.long (1 : Int64))) :
    Met l Z (⟨"com/example/occupancy/occupancy/hash/internal/CellRule", "cellCount", "()J"⟩ : MethodName) prog_32_method_2_code 1 (some .long) [] ({ frames := 0, cells := 0, slots := 0, locals := 0 } : Room) #[(.ref a1)] [] h0 (fun v h => v = some (.long 1)) := by
  refine Met.mk pn_c (ef_c a1) ?_
  intro C T hs0 O
  show Go C [] (fun v h => v = some (.long 1)) 0 0 (T.setTop (mkF C.m 0 #[.val (.ref a1)] []))
  refine Jvm.OwnW.aloadN O dc_0 rfl rfl (q := 1) rfl ?_
  refine Jvm.OwnW.getF O dc_1 (host := "") (Or.inl (hw _ (List.mem_of_getElem? (i := 10) rfl))) Via.refl F_cellCount_a1 (q := 4) rfl ?_
  intro T1 O1
  exact Jvm.OwnW.retL O1 dc_4 rfl (by decide) (by decide) rfl
theorem pd_0 : parseMethodDescriptor "(JJ)J" = some ⟨[.long, .long], some .long⟩ := by decide +kernel
theorem do_0 : decode prog_32_method_7_code 0 = .ok (.aload_n 0, 1) := by decide +kernel
theorem do_1 : decode prog_32_method_7_code 1 = .ok (.getfield 26, 3) := by decide +kernel
theorem do_4 : decode prog_32_method_7_code 4 = .ok (.ifCond .eq 15, 3) := by decide +kernel
theorem do_7 : decode prog_32_method_7_code 7 = .ok (.lload_n 1, 1) := by decide +kernel
theorem do_8 : decode prog_32_method_7_code 8 = .ok (.aload_n 0, 1) := by decide +kernel
theorem do_9 : decode prog_32_method_7_code 9 = .ok (.getfield 16, 3) := by decide +kernel
theorem do_12 : decode prog_32_method_7_code 12 = .ok (.invokestatic 70, 3) := by decide +kernel
theorem do_15 : decode prog_32_method_7_code 15 = .ok (.lstore_n 3, 1) := by decide +kernel
theorem do_16 : decode prog_32_method_7_code 16 = .ok (.goto 54, 3) := by decide +kernel
theorem do_70 : decode prog_32_method_7_code 70 = .ok (.lload_n 3, 1) := by decide +kernel
theorem do_71 : decode prog_32_method_7_code 71 = .ok (.lreturn, 1) := by decide +kernel
theorem ef_o (a1 : Addr) (p2 : Int64) (m : MethodId) : entryFrame m #[(.ref a1), (.long p2)] 9 = mkF m 0 #[.val (.ref a1), .val (.long p2), .second, .unset, .unset, .unset, .unset, .unset, .unset] [] := by first | (simp [entryFrame, mkF, argsToLocals, Value.category, maxLocals]; done) | rfl
theorem pn_o : plainFor (⟨"com/example/occupancy/occupancy/hash/internal/CellRule", "cellOf", "(J)J"⟩ : MethodName) = true := by first | exact plainFor_of_name (by first | (simp [plainName, overriddenIn]; done) | decide +kernel) | decide +kernel
set_option maxRecDepth 65536 in
set_option maxHeartbeats 40000000 in
theorem rm_o (l : Launch) (Z : State) (a0 : Array Value) (hw : ∀ d ∈ tables_1, d.before a0 Z = true) (a1 : Addr) (p2 : Int64) (h0 : Heap) (E_a1 : Exa Z h0 a1 "com/example/occupancy/occupancy/hash/internal/CellRule") (F_cellCount_a1 : Fld Z h0 a1 "com/example/occupancy/occupancy/hash/internal/CellRule" "cellCount" "J" (.long (1 : Int64))) (F_dividesOutright_a1 : Fld Z h0 a1 "com/example/occupancy/occupancy/hash/internal/CellRule" "dividesOutright" "Z" (.int (1 : Int32))) :
    Met l Z (⟨"com/example/occupancy/occupancy/hash/internal/CellRule", "cellOf", "(J)J"⟩ : MethodName) prog_32_method_7_code 9 (some .long) [] ({ frames := 1, cells := 0, slots := 0, locals := 19 } : Room) #[(.ref a1), (.long p2)] [] h0 (fun v h => ∃ z, v = some (.long z)) := by
  refine Met.mk pn_o (ef_o a1 p2) ?_
  intro C T hs0 O
  show Go C [] (fun v h => ∃ z, v = some (.long z)) 0 0 (T.setTop (mkF C.m 0 #[.val (.ref a1), .val (.long p2), .second, .unset, .unset, .unset, .unset, .unset, .unset] []))
  refine Jvm.OwnW.aloadN O do_0 rfl rfl (q := 1) rfl ?_
  refine Jvm.OwnW.getF O do_1 (host := "") (Or.inl (hw _ (List.mem_of_getElem? (i := 13) rfl))) Via.refl F_dividesOutright_a1 (q := 4) rfl ?_
  intro T1 O1
  refine Jvm.OwnW.ifNo O1 do_4 (feq0 (show ¬ ((1 : Int32) = (0 : Int32)) from (by decide))).1 (q := 7) rfl ?_
  refine Jvm.OwnW.lloadN O1 do_7 rfl (q := 8) rfl ?_
  refine Jvm.OwnW.aloadN O1 do_8 rfl rfl (q := 9) rfl ?_
  refine Jvm.OwnW.getF O1 do_9 (host := "") (Or.inl (hw _ (List.mem_of_getElem? (i := 10) rfl))) Via.refl F_cellCount_a1 (q := 12) rfl ?_
  intro T2 O2
  refine Jvm.OwnW.callS0 O2 (y := (⟨"java/lang/Long", "remainderUnsigned", "(JJ)J"⟩ : MethodName)) (argsL := [(.long p2), (.long (1 : Int64))]) (rest := []) do_12 (hw _ (List.mem_of_getElem? (i := 55) rfl)) (hw _ (List.mem_of_getElem? (i := 56) rfl)) (hw _ (List.mem_of_getElem? (i := 57) rfl)) (hw _ (List.mem_of_getElem? (i := 58) rfl)) (by decide) (rm_m l Z a0 hw p2 h0) rfl pd_0 rfl (hst := rfl) (W := 0) (Nat.le_of_eq rfl) (by decide) (by decide) (c2 := 0) (s2 := 0) rfl rfl (by decide) (by decide) rfl rfl (q := 15) rfl ?_
  intro v3 T3 O3 q3
  obtain ⟨zz3, rfl⟩ := q3
  show Go C _ _ _ _ (T3.setTop (mkF C.m 15 #[.val (.ref a1), .val (.long p2), .second, .unset, .unset, .unset, .unset, .unset, .unset] [(.long zz3)]))
  refine Jvm.OwnW.lstoreN O3 do_15 (L' := #[.val (.ref a1), .val (.long p2), .second, .val (.long zz3), .second, .unset, .unset, .unset, .unset]) rfl (q := 16) rfl ?_
  refine Jvm.OwnW.goto O3 do_16 (by decide) (q := 70) rfl ?_
  refine Jvm.OwnW.lloadN O3 do_70 rfl (q := 71) rfl ?_
  exact Jvm.OwnW.retL O3 do_71 rfl (by decide) (by decide) ⟨_, rfl⟩
theorem pd_1 : parseMethodDescriptor "(Ljava/lang/Object;Ljava/lang/String;)Ljava/lang/Object;" = some ⟨[(.object "java/lang/Object"), (.object "java/lang/String")], some (.object "java/lang/Object")⟩ := by decide +kernel
theorem pd_2 : parseMethodDescriptor "()J" = some ⟨[], some .long⟩ := by decide +kernel
theorem pd_3 : parseMethodDescriptor "(J)J" = some ⟨[.long], some .long⟩ := by decide +kernel
theorem db_0 : decode prog_29_method_1_code 0 = .ok (.aload_n 0, 1) := by decide +kernel
theorem db_1 : decode prog_29_method_1_code 1 = .ok (.invokespecial 1, 3) := by decide +kernel
theorem db_4 : decode prog_29_method_1_code 4 = .ok (.iload_n 2, 1) := by decide +kernel
theorem db_5 : decode prog_29_method_1_code 5 = .ok (.iconst 1, 1) := by decide +kernel
theorem db_6 : decode prog_29_method_1_code 6 = .ok (.if_icmp .ge 17, 3) := by decide +kernel
theorem db_23 : decode prog_29_method_1_code 23 = .ok (.aload_n 0, 1) := by decide +kernel
theorem db_24 : decode prog_29_method_1_code 24 = .ok (.aload_n 1, 1) := by decide +kernel
theorem db_25 : decode prog_29_method_1_code 25 = .ok (.ldc 16, 2) := by decide +kernel
theorem db_27 : decode prog_29_method_1_code 27 = .ok (.invokestatic 18, 3) := by decide +kernel
theorem db_30 : decode prog_29_method_1_code 30 = .ok (.checkcast 24, 3) := by decide +kernel
theorem db_33 : decode prog_29_method_1_code 33 = .ok (.putfield 26, 3) := by decide +kernel
theorem db_36 : decode prog_29_method_1_code 36 = .ok (.aload_n 0, 1) := by decide +kernel
theorem db_37 : decode prog_29_method_1_code 37 = .ok (.aload_n 1, 1) := by decide +kernel
theorem db_38 : decode prog_29_method_1_code 38 = .ok (.invokevirtual 31, 3) := by decide +kernel
theorem db_41 : decode prog_29_method_1_code 41 = .ok (.putfield 35, 3) := by decide +kernel
theorem db_44 : decode prog_29_method_1_code 44 = .ok (.aload_n 0, 1) := by decide +kernel
theorem db_45 : decode prog_29_method_1_code 45 = .ok (.aload_n 1, 1) := by decide +kernel
theorem db_46 : decode prog_29_method_1_code 46 = .ok (.ldc2_w 38, 3) := by decide +kernel
theorem db_49 : decode prog_29_method_1_code 49 = .ok (.invokevirtual 40, 3) := by decide +kernel
theorem db_52 : decode prog_29_method_1_code 52 = .ok (.lconst 1, 1) := by decide +kernel
theorem db_53 : decode prog_29_method_1_code 53 = .ok (.ladd, 1) := by decide +kernel
theorem db_54 : decode prog_29_method_1_code 54 = .ok (.putfield 44, 3) := by decide +kernel
theorem db_57 : decode prog_29_method_1_code 57 = .ok (.aload_n 0, 1) := by decide +kernel
theorem db_58 : decode prog_29_method_1_code 58 = .ok (.iload_n 2, 1) := by decide +kernel
theorem db_59 : decode prog_29_method_1_code 59 = .ok (.newarray .long, 2) := by decide +kernel
theorem db_61 : decode prog_29_method_1_code 61 = .ok (.putfield 47, 3) := by decide +kernel
theorem db_64 : decode prog_29_method_1_code 64 = .ok (.aload_n 0, 1) := by decide +kernel
theorem db_65 : decode prog_29_method_1_code 65 = .ok (.iload_n 2, 1) := by decide +kernel
theorem db_66 : decode prog_29_method_1_code 66 = .ok (.newarray .long, 2) := by decide +kernel
theorem db_68 : decode prog_29_method_1_code 68 = .ok (.putfield 51, 3) := by decide +kernel
theorem db_71 : decode prog_29_method_1_code 71 = .ok (.aload_n 0, 1) := by decide +kernel
theorem db_72 : decode prog_29_method_1_code 72 = .ok (.iload_n 2, 1) := by decide +kernel
theorem db_73 : decode prog_29_method_1_code 73 = .ok (.newarray .long, 2) := by decide +kernel
theorem db_75 : decode prog_29_method_1_code 75 = .ok (.putfield 54, 3) := by decide +kernel
theorem db_78 : decode prog_29_method_1_code 78 = .ok (.aload_n 0, 1) := by decide +kernel
theorem db_79 : decode prog_29_method_1_code 79 = .ok (.iload_n 2, 1) := by decide +kernel
theorem db_80 : decode prog_29_method_1_code 80 = .ok (.newarray .long, 2) := by decide +kernel
theorem db_82 : decode prog_29_method_1_code 82 = .ok (.putfield 57, 3) := by decide +kernel
theorem db_85 : decode prog_29_method_1_code 85 = .ok (.aload_n 0, 1) := by decide +kernel
theorem db_86 : decode prog_29_method_1_code 86 = .ok (.iload_n 2, 1) := by decide +kernel
theorem db_87 : decode prog_29_method_1_code 87 = .ok (.newarray .long, 2) := by decide +kernel
theorem db_89 : decode prog_29_method_1_code 89 = .ok (.putfield 60, 3) := by decide +kernel
theorem db_92 : decode prog_29_method_1_code 92 = .ok (.return_, 1) := by decide +kernel
theorem ef_b (a1 : Addr) (a2 : Addr) (p3 : Int32) (m : MethodId) : entryFrame m #[(.ref a1), (.ref a2), (.int p3)] 3 = mkF m 0 #[.val (.ref a1), .val (.ref a2), .val (.int p3)] [] := by first | (simp [entryFrame, mkF, argsToLocals, Value.category, maxLocals]; done) | rfl
theorem pn_b : plainFor (⟨"com/example/occupancy/occupancy/hash/internal/CellBatch", "<init>", "(Lcom/example/occupancy/occupancy/hash/internal/CellRule;I)V"⟩ : MethodName) = true := by first | exact plainFor_of_name (by first | (simp [plainName, overriddenIn]; done) | decide +kernel) | decide +kernel
set_option maxRecDepth 65536 in
set_option maxHeartbeats 40000000 in
theorem rm_b (l : Launch) (Z : State) (a0 : Array Value) (hw : ∀ d ∈ tables_1, d.before a0 Z = true) (a1 : Addr) (a2 : Addr) (p3 : Int32) (nn : Nat) (h0 : Heap) (E_a1 : Exa Z h0 a1 "com/example/occupancy/occupancy/hash/internal/CellBatch") (F_rule_a1 : Fld Z h0 a1 "com/example/occupancy/occupancy/hash/internal/CellBatch" "rule" "Lcom/example/occupancy/occupancy/hash/internal/CellRule;" .null) (F_cellCount_a1 : Fld Z h0 a1 "com/example/occupancy/occupancy/hash/internal/CellBatch" "cellCount" "J" (.long (0 : Int64))) (F_wrapLoss_a1 : Fld Z h0 a1 "com/example/occupancy/occupancy/hash/internal/CellBatch" "wrapLoss" "J" (.long (0 : Int64))) (F_sums_a1 : Fld Z h0 a1 "com/example/occupancy/occupancy/hash/internal/CellBatch" "sums" "[J" .null) (F_steps_a1 : Fld Z h0 a1 "com/example/occupancy/occupancy/hash/internal/CellBatch" "steps" "[J" .null) (F_cells_a1 : Fld Z h0 a1 "com/example/occupancy/occupancy/hash/internal/CellBatch" "cells" "[J" .null) (F_plainSteps_a1 : Fld Z h0 a1 "com/example/occupancy/occupancy/hash/internal/CellBatch" "plainSteps" "[J" .null) (F_wrapFlips_a1 : Fld Z h0 a1 "com/example/occupancy/occupancy/hash/internal/CellBatch" "wrapFlips" "[J" .null) (F_size_a1 : Fld Z h0 a1 "com/example/occupancy/occupancy/hash/internal/CellBatch" "size" "I" (.int (0 : Int32))) (E_a2 : Exa Z h0 a2 "com/example/occupancy/occupancy/hash/internal/CellRule") (F_cellCount_a2 : Fld Z h0 a2 "com/example/occupancy/occupancy/hash/internal/CellRule" "cellCount" "J" (.long (1 : Int64))) (F_dividesOutright_a2 : Fld Z h0 a2 "com/example/occupancy/occupancy/hash/internal/CellRule" "dividesOutright" "Z" (.int (1 : Int32))) (n12 : a1 ≠ a2) (hn : p3.toInt = (nn : Int)) (hn1 : 1 ≤ nn) (hn4 : nn ≤ 4) :
    Met l Z (⟨"com/example/occupancy/occupancy/hash/internal/CellBatch", "<init>", "(Lcom/example/occupancy/occupancy/hash/internal/CellRule;I)V"⟩ : MethodName) prog_29_method_1_code 3 none [] ({ frames := 2, cells := 7, slots := 40, locals := 40 } : Room) #[(.ref a1), (.ref a2), (.int p3)] [a1] h0 (fun v h => v = none ∧ ∃ sa ta : Addr, h0.size ≤ sa ∧ h0.size ≤ ta ∧ sa ≠ ta ∧ Fld Z h a1 "com/example/occupancy/occupancy/hash/internal/CellBatch" "sums" "[J" (.ref sa) ∧ Fld Z h a1 "com/example/occupancy/occupancy/hash/internal/CellBatch" "steps" "[J" (.ref ta) ∧ Fld Z h a1 "com/example/occupancy/occupancy/hash/internal/CellBatch" "size" "I" (.int (0 : Int32)) ∧ Ar Z h sa .long nn (fun _ => .long (0 : Int64)) ∧ Ar Z h ta .long nn (fun _ => .long (0 : Int64))) := by
  refine Met.mk pn_b (ef_b a1 a2 p3) ?_
  intro C T hs0 O
  show Go C [a1] (fun v h => v = none ∧ ∃ sa ta : Addr, h0.size ≤ sa ∧ h0.size ≤ ta ∧ sa ≠ ta ∧ Fld Z h a1 "com/example/occupancy/occupancy/hash/internal/CellBatch" "sums" "[J" (.ref sa) ∧ Fld Z h a1 "com/example/occupancy/occupancy/hash/internal/CellBatch" "steps" "[J" (.ref ta) ∧ Fld Z h a1 "com/example/occupancy/occupancy/hash/internal/CellBatch" "size" "I" (.int (0 : Int32)) ∧ Ar Z h sa .long nn (fun _ => .long (0 : Int64)) ∧ Ar Z h ta .long nn (fun _ => .long (0 : Int64))) 7 40 (T.setTop (mkF C.m 0 #[.val (.ref a1), .val (.ref a2), .val (.int p3)] []))
  refine Jvm.OwnW.aloadN O db_0 rfl rfl (q := 1) rfl ?_
  refine Jvm.OwnW.initO O db_1 (hw _ (List.mem_of_getElem? (i := 25) rfl)) (hw _ (List.mem_of_getElem? (i := 8) rfl)) (hw _ (List.mem_of_getElem? (i := 9) rfl)) rfl (by decide) (W := 0) (Nat.le_of_eq rfl) (by decide) (q := 4) rfl ?_
  intro T1 O1
  refine Jvm.OwnW.iloadN O1 db_4 rfl (q := 5) rfl ?_
  refine Jvm.OwnW.iconst O1 db_5 (r := (1 : Int32)) rfl (q := 6) rfl ?_
  refine Jvm.OwnW.icmpYes O1 db_6 (flt (show ¬ (p3 < (1 : Int32)) from nlt32 (by rw [hn]; show (1 : Int) ≤ _; omega))).2.1 (by decide) (q := 23) rfl ?_
  refine Jvm.OwnW.aloadN O1 db_23 rfl rfl (q := 24) rfl ?_
  refine Jvm.OwnW.aloadN O1 db_24 rfl rfl (q := 25) rfl ?_
  refine Jvm.OwnW.ldcStr O1 db_25 (hw _ (List.mem_of_getElem? (i := 26) rfl)) (own_str hw) (cap := 16) (by decide +kernel) (by decide) (c2 := 2) (s2 := 20) rfl rfl (by decide) (by decide) (q := 27) rfl ?_
  intro nb2 T2 h2 O2 X2
  have E_a1 := E_a1.ext X2
  have F_rule_a1 := F_rule_a1.ext X2
  have F_cellCount_a1 := F_cellCount_a1.ext X2
  have F_wrapLoss_a1 := F_wrapLoss_a1.ext X2
  have F_sums_a1 := F_sums_a1.ext X2
  have F_steps_a1 := F_steps_a1.ext X2
  have F_cells_a1 := F_cells_a1.ext X2
  have F_plainSteps_a1 := F_plainSteps_a1.ext X2
  have F_wrapFlips_a1 := F_wrapFlips_a1.ext X2
  have F_size_a1 := F_size_a1.ext X2
  have E_a2 := E_a2.ext X2
  have F_cellCount_a2 := F_cellCount_a2.ext X2
  have F_dividesOutright_a2 := F_dividesOutright_a2.ext X2
  refine Jvm.OwnW.callS0 O2 (y := (⟨"java/util/Objects", "requireNonNull", "(Ljava/lang/Object;Ljava/lang/String;)Ljava/lang/Object;"⟩ : MethodName)) (argsL := [(.ref a2), (.ref nb2)]) (rest := [(.ref a1)]) db_27 (hw _ (List.mem_of_getElem? (i := 34) rfl)) (hw _ (List.mem_of_getElem? (i := 35) rfl)) (hw _ (List.mem_of_getElem? (i := 36) rfl)) (hw _ (List.mem_of_getElem? (i := 37) rfl)) (by decide) (rm_q l Z a0 hw a2 nb2 h2) rfl pd_1 rfl (hst := rfl) (W := 1) (Nat.le_of_eq rfl) (by decide) (by decide) (c2 := 2) (s2 := 20) rfl rfl (by decide) (by decide) rfl rfl (q := 30) rfl ?_
  intro v3 T3 O3 q3
  obtain rfl := q3
  show Go C _ _ _ _ (T3.setTop (mkF C.m 30 #[.val (.ref a1), .val (.ref a2), .val (.int p3)] [(.ref a2), (.ref a1)]))
  refine Jvm.OwnW.castY O3 db_30 (hw _ (List.mem_of_getElem? (i := 38) rfl)) (Ins.self E_a2) (q := 33) rfl ?_
  intro T4 O4
  refine Jvm.OwnW.putF O4 db_33 (host := "") (Or.inl (hw _ (List.mem_of_getElem? (i := 40) rfl))) Via.refl F_rule_a1 E_a1 (Or.inr ⟨hw _ (List.mem_of_getElem? (i := 41) rfl), rfl, rfl⟩) (hw _ (List.mem_of_getElem? (i := 20) rfl)) (ty := (.object "com/example/occupancy/occupancy/hash/internal/CellRule")) (by decide) rfl rfl (Or.inl (List.mem_cons_self ..)) (q := 36) rfl ?_
  intro T5 h5 O5 W5
  have E_a1 := E_a1.wr W5
  have F_rule_a1 := F_rule_a1.same W5
  have F_cellCount_a1 := F_cellCount_a1.other W5 (Or.inr (slot_ne (Or.inr (hw _ (List.mem_of_getElem? (i := 48) rfl))) (Or.inr (hw _ (List.mem_of_getElem? (i := 41) rfl))) (by decide) (t := .long) (t' := (.object "com/example/occupancy/occupancy/hash/internal/CellRule")) (by decide) (by decide)))
  have F_wrapLoss_a1 := F_wrapLoss_a1.other W5 (Or.inr (slot_ne (Or.inr (hw _ (List.mem_of_getElem? (i := 61) rfl))) (Or.inr (hw _ (List.mem_of_getElem? (i := 41) rfl))) (by decide) (t := .long) (t' := (.object "com/example/occupancy/occupancy/hash/internal/CellRule")) (by decide) (by decide)))
  have F_sums_a1 := F_sums_a1.other W5 (Or.inr (slot_ne (Or.inr (hw _ (List.mem_of_getElem? (i := 64) rfl))) (Or.inr (hw _ (List.mem_of_getElem? (i := 41) rfl))) (by decide) (t := (.array .long)) (t' := (.object "com/example/occupancy/occupancy/hash/internal/CellRule")) (by decide) (by decide)))
  have F_steps_a1 := F_steps_a1.other W5 (Or.inr (slot_ne (Or.inr (hw _ (List.mem_of_getElem? (i := 66) rfl))) (Or.inr (hw _ (List.mem_of_getElem? (i := 41) rfl))) (by decide) (t := (.array .long)) (t' := (.object "com/example/occupancy/occupancy/hash/internal/CellRule")) (by decide) (by decide)))
  have F_cells_a1 := F_cells_a1.other W5 (Or.inr (slot_ne (Or.inr (hw _ (List.mem_of_getElem? (i := 68) rfl))) (Or.inr (hw _ (List.mem_of_getElem? (i := 41) rfl))) (by decide) (t := (.array .long)) (t' := (.object "com/example/occupancy/occupancy/hash/internal/CellRule")) (by decide) (by decide)))
  have F_plainSteps_a1 := F_plainSteps_a1.other W5 (Or.inr (slot_ne (Or.inr (hw _ (List.mem_of_getElem? (i := 70) rfl))) (Or.inr (hw _ (List.mem_of_getElem? (i := 41) rfl))) (by decide) (t := (.array .long)) (t' := (.object "com/example/occupancy/occupancy/hash/internal/CellRule")) (by decide) (by decide)))
  have F_wrapFlips_a1 := F_wrapFlips_a1.other W5 (Or.inr (slot_ne (Or.inr (hw _ (List.mem_of_getElem? (i := 72) rfl))) (Or.inr (hw _ (List.mem_of_getElem? (i := 41) rfl))) (by decide) (t := (.array .long)) (t' := (.object "com/example/occupancy/occupancy/hash/internal/CellRule")) (by decide) (by decide)))
  have F_size_a1 := F_size_a1.other W5 (Or.inr (slot_ne (Or.inl (hw _ (List.mem_of_getElem? (i := 84) rfl))) (Or.inr (hw _ (List.mem_of_getElem? (i := 41) rfl))) (by decide) (t := .int) (t' := (.object "com/example/occupancy/occupancy/hash/internal/CellRule")) (by decide) (by decide)))
  have E_a2 := E_a2.wr W5
  have F_cellCount_a2 := F_cellCount_a2.other W5 (Or.inl (Ne.symm n12))
  have F_dividesOutright_a2 := F_dividesOutright_a2.other W5 (Or.inl (Ne.symm n12))
  refine Jvm.OwnW.aloadN O5 db_36 rfl rfl (q := 37) rfl ?_
  refine Jvm.OwnW.aloadN O5 db_37 rfl rfl (q := 38) rfl ?_
  refine Jvm.OwnW.callV0 O5 (y := (⟨"com/example/occupancy/occupancy/hash/internal/CellRule", "cellCount", "()J"⟩ : MethodName)) (z := (⟨"com/example/occupancy/occupancy/hash/internal/CellRule", "cellCount", "()J"⟩ : MethodName)) (a := a2) (argsL := []) (rest := [(.ref a1)]) db_38 (hw _ (List.mem_of_getElem? (i := 42) rfl)) (hw _ (List.mem_of_getElem? (i := 43) rfl)) (hw _ (List.mem_of_getElem? (i := 45) rfl)) rfl (hw _ (List.mem_of_getElem? (i := 44) rfl)) (hw _ (List.mem_of_getElem? (i := 3) rfl)) (hw _ (List.mem_of_getElem? (i := 46) rfl)) (by decide) (rm_c l Z a0 hw a2 h5 E_a2 F_cellCount_a2) E_a2 rfl pd_2 rfl (hst := rfl) (W := 1) (Nat.le_of_eq rfl) (by decide) (by decide) (c2 := 2) (s2 := 20) rfl rfl (by decide) (by decide) rfl rfl (q := 41) rfl ?_
  intro v6 T6 O6 q6
  obtain rfl := q6
  show Go C _ _ _ _ (T6.setTop (mkF C.m 41 #[.val (.ref a1), .val (.ref a2), .val (.int p3)] [(.long (1 : Int64)), (.ref a1)]))
  refine Jvm.OwnW.putF O6 db_41 (host := "") (Or.inl (hw _ (List.mem_of_getElem? (i := 47) rfl))) Via.refl F_cellCount_a1 E_a1 (Or.inr ⟨hw _ (List.mem_of_getElem? (i := 48) rfl), rfl, rfl⟩) (hw _ (List.mem_of_getElem? (i := 20) rfl)) (ty := .long) (by decide) rfl rfl (Or.inl (List.mem_cons_self ..)) (q := 44) rfl ?_
  intro T7 h7 O7 W7
  have E_a1 := E_a1.wr W7
  have F_rule_a1 := F_rule_a1.other W7 (Or.inr (slot_ne (Or.inr (hw _ (List.mem_of_getElem? (i := 41) rfl))) (Or.inr (hw _ (List.mem_of_getElem? (i := 48) rfl))) (by decide) (t := (.object "com/example/occupancy/occupancy/hash/internal/CellRule")) (t' := .long) (by decide) (by decide)))
  have F_cellCount_a1 := F_cellCount_a1.same W7
  have F_wrapLoss_a1 := F_wrapLoss_a1.other W7 (Or.inr (slot_ne (Or.inr (hw _ (List.mem_of_getElem? (i := 61) rfl))) (Or.inr (hw _ (List.mem_of_getElem? (i := 48) rfl))) (by decide) (t := .long) (t' := .long) (by decide) (by decide)))
  have F_sums_a1 := F_sums_a1.other W7 (Or.inr (slot_ne (Or.inr (hw _ (List.mem_of_getElem? (i := 64) rfl))) (Or.inr (hw _ (List.mem_of_getElem? (i := 48) rfl))) (by decide) (t := (.array .long)) (t' := .long) (by decide) (by decide)))
  have F_steps_a1 := F_steps_a1.other W7 (Or.inr (slot_ne (Or.inr (hw _ (List.mem_of_getElem? (i := 66) rfl))) (Or.inr (hw _ (List.mem_of_getElem? (i := 48) rfl))) (by decide) (t := (.array .long)) (t' := .long) (by decide) (by decide)))
  have F_cells_a1 := F_cells_a1.other W7 (Or.inr (slot_ne (Or.inr (hw _ (List.mem_of_getElem? (i := 68) rfl))) (Or.inr (hw _ (List.mem_of_getElem? (i := 48) rfl))) (by decide) (t := (.array .long)) (t' := .long) (by decide) (by decide)))
  have F_plainSteps_a1 := F_plainSteps_a1.other W7 (Or.inr (slot_ne (Or.inr (hw _ (List.mem_of_getElem? (i := 70) rfl))) (Or.inr (hw _ (List.mem_of_getElem? (i := 48) rfl))) (by decide) (t := (.array .long)) (t' := .long) (by decide) (by decide)))
  have F_wrapFlips_a1 := F_wrapFlips_a1.other W7 (Or.inr (slot_ne (Or.inr (hw _ (List.mem_of_getElem? (i := 72) rfl))) (Or.inr (hw _ (List.mem_of_getElem? (i := 48) rfl))) (by decide) (t := (.array .long)) (t' := .long) (by decide) (by decide)))
  have F_size_a1 := F_size_a1.other W7 (Or.inr (slot_ne (Or.inl (hw _ (List.mem_of_getElem? (i := 84) rfl))) (Or.inr (hw _ (List.mem_of_getElem? (i := 48) rfl))) (by decide) (t := .int) (t' := .long) (by decide) (by decide)))
  have E_a2 := E_a2.wr W7
  have F_cellCount_a2 := F_cellCount_a2.other W7 (Or.inl (Ne.symm n12))
  have F_dividesOutright_a2 := F_dividesOutright_a2.other W7 (Or.inl (Ne.symm n12))
  refine Jvm.OwnW.aloadN O7 db_44 rfl rfl (q := 45) rfl ?_
  refine Jvm.OwnW.aloadN O7 db_45 rfl rfl (q := 46) rfl ?_
  refine Jvm.OwnW.ldcL O7 db_46 (hw _ (List.mem_of_getElem? (i := 49) rfl)) (q := 49) rfl ?_
  refine Jvm.OwnW.callV0 O7 (y := (⟨"com/example/occupancy/occupancy/hash/internal/CellRule", "cellOf", "(J)J"⟩ : MethodName)) (z := (⟨"com/example/occupancy/occupancy/hash/internal/CellRule", "cellOf", "(J)J"⟩ : MethodName)) (a := a2) (argsL := [(.long (-1 : Int64))]) (rest := [(.ref a1)]) db_49 (hw _ (List.mem_of_getElem? (i := 50) rfl)) (hw _ (List.mem_of_getElem? (i := 51) rfl)) (hw _ (List.mem_of_getElem? (i := 53) rfl)) rfl (hw _ (List.mem_of_getElem? (i := 52) rfl)) (hw _ (List.mem_of_getElem? (i := 3) rfl)) (hw _ (List.mem_of_getElem? (i := 54) rfl)) (by decide) (rm_o l Z a0 hw a2 (-1 : Int64) h7 E_a2 F_cellCount_a2 F_dividesOutright_a2) E_a2 rfl pd_3 rfl (hst := rfl) (W := 1) (Nat.le_of_eq rfl) (by decide) (by decide) (c2 := 2) (s2 := 20) rfl rfl (by decide) (by decide) rfl rfl (q := 52) rfl ?_
  intro v8 T8 O8 q8
  obtain ⟨zz8, rfl⟩ := q8
  show Go C _ _ _ _ (T8.setTop (mkF C.m 52 #[.val (.ref a1), .val (.ref a2), .val (.int p3)] [(.long zz8), (.ref a1)]))
  refine Jvm.OwnW.lconst O8 db_52 (r := (1 : Int64)) rfl (q := 53) rfl ?_
  refine Jvm.OwnW.ladd O8 db_53 rfl (q := 54) rfl ?_
  refine Jvm.OwnW.putF O8 db_54 (host := "") (Or.inl (hw _ (List.mem_of_getElem? (i := 60) rfl))) Via.refl F_wrapLoss_a1 E_a1 (Or.inr ⟨hw _ (List.mem_of_getElem? (i := 61) rfl), rfl, rfl⟩) (hw _ (List.mem_of_getElem? (i := 20) rfl)) (ty := .long) (by decide) rfl rfl (Or.inl (List.mem_cons_self ..)) (q := 57) rfl ?_
  intro T9 h9 O9 W9
  have E_a1 := E_a1.wr W9
  have F_rule_a1 := F_rule_a1.other W9 (Or.inr (slot_ne (Or.inr (hw _ (List.mem_of_getElem? (i := 41) rfl))) (Or.inr (hw _ (List.mem_of_getElem? (i := 61) rfl))) (by decide) (t := (.object "com/example/occupancy/occupancy/hash/internal/CellRule")) (t' := .long) (by decide) (by decide)))
  have F_cellCount_a1 := F_cellCount_a1.other W9 (Or.inr (slot_ne (Or.inr (hw _ (List.mem_of_getElem? (i := 48) rfl))) (Or.inr (hw _ (List.mem_of_getElem? (i := 61) rfl))) (by decide) (t := .long) (t' := .long) (by decide) (by decide)))
  have F_wrapLoss_a1 := F_wrapLoss_a1.same W9
  have F_sums_a1 := F_sums_a1.other W9 (Or.inr (slot_ne (Or.inr (hw _ (List.mem_of_getElem? (i := 64) rfl))) (Or.inr (hw _ (List.mem_of_getElem? (i := 61) rfl))) (by decide) (t := (.array .long)) (t' := .long) (by decide) (by decide)))
  have F_steps_a1 := F_steps_a1.other W9 (Or.inr (slot_ne (Or.inr (hw _ (List.mem_of_getElem? (i := 66) rfl))) (Or.inr (hw _ (List.mem_of_getElem? (i := 61) rfl))) (by decide) (t := (.array .long)) (t' := .long) (by decide) (by decide)))
  have F_cells_a1 := F_cells_a1.other W9 (Or.inr (slot_ne (Or.inr (hw _ (List.mem_of_getElem? (i := 68) rfl))) (Or.inr (hw _ (List.mem_of_getElem? (i := 61) rfl))) (by decide) (t := (.array .long)) (t' := .long) (by decide) (by decide)))
  have F_plainSteps_a1 := F_plainSteps_a1.other W9 (Or.inr (slot_ne (Or.inr (hw _ (List.mem_of_getElem? (i := 70) rfl))) (Or.inr (hw _ (List.mem_of_getElem? (i := 61) rfl))) (by decide) (t := (.array .long)) (t' := .long) (by decide) (by decide)))
  have F_wrapFlips_a1 := F_wrapFlips_a1.other W9 (Or.inr (slot_ne (Or.inr (hw _ (List.mem_of_getElem? (i := 72) rfl))) (Or.inr (hw _ (List.mem_of_getElem? (i := 61) rfl))) (by decide) (t := (.array .long)) (t' := .long) (by decide) (by decide)))
  have F_size_a1 := F_size_a1.other W9 (Or.inr (slot_ne (Or.inl (hw _ (List.mem_of_getElem? (i := 84) rfl))) (Or.inr (hw _ (List.mem_of_getElem? (i := 61) rfl))) (by decide) (t := .int) (t' := .long) (by decide) (by decide)))
  have E_a2 := E_a2.wr W9
  have F_cellCount_a2 := F_cellCount_a2.other W9 (Or.inl (Ne.symm n12))
  have F_dividesOutright_a2 := F_dividesOutright_a2.other W9 (Or.inl (Ne.symm n12))
  refine Jvm.OwnW.aloadN O9 db_57 rfl rfl (q := 58) rfl ?_
  refine Jvm.OwnW.iloadN O9 db_58 rfl (q := 59) rfl ?_
  refine Jvm.OwnW.newA' O9 db_59 (ty := .long) rfl (hw _ (List.mem_of_getElem? (i := 62) rfl)) (N := nn) hn (cap := 4) hn4 (by decide) (c2 := 3) (s2 := 24) rfl rfl (by decide) (by decide) (q := 61) rfl ?_
  intro nb10 T10 h10 g10 N10 O10 X10 V_nb10
  have ne_a1_nb10 : a1 ≠ nb10 := Nat.ne_of_lt (Nat.lt_of_lt_of_le E_a1.lt (Nat.le_of_eq g10.symm))
  have ne_a2_nb10 : a2 ≠ nb10 := Nat.ne_of_lt (Nat.lt_of_lt_of_le E_a2.lt (Nat.le_of_eq g10.symm))
  have E_a1 := E_a1.ext X10
  have F_rule_a1 := F_rule_a1.ext X10
  have F_cellCount_a1 := F_cellCount_a1.ext X10
  have F_wrapLoss_a1 := F_wrapLoss_a1.ext X10
  have F_sums_a1 := F_sums_a1.ext X10
  have F_steps_a1 := F_steps_a1.ext X10
  have F_cells_a1 := F_cells_a1.ext X10
  have F_plainSteps_a1 := F_plainSteps_a1.ext X10
  have F_wrapFlips_a1 := F_wrapFlips_a1.ext X10
  have F_size_a1 := F_size_a1.ext X10
  have E_a2 := E_a2.ext X10
  have F_cellCount_a2 := F_cellCount_a2.ext X10
  have F_dividesOutright_a2 := F_dividesOutright_a2.ext X10
  refine Jvm.OwnW.putF O10 db_61 (host := "") (Or.inl (hw _ (List.mem_of_getElem? (i := 63) rfl))) Via.refl F_sums_a1 E_a1 (Or.inr ⟨hw _ (List.mem_of_getElem? (i := 64) rfl), rfl, rfl⟩) (hw _ (List.mem_of_getElem? (i := 20) rfl)) (ty := (.array .long)) (by decide) rfl rfl (Or.inl (List.mem_cons_self ..)) (q := 64) rfl ?_
  intro T11 h11 O11 W11
  have E_a1 := E_a1.wr W11
  have F_rule_a1 := F_rule_a1.other W11 (Or.inr (slot_ne (Or.inr (hw _ (List.mem_of_getElem? (i := 41) rfl))) (Or.inr (hw _ (List.mem_of_getElem? (i := 64) rfl))) (by decide) (t := (.object "com/example/occupancy/occupancy/hash/internal/CellRule")) (t' := (.array .long)) (by decide) (by decide)))
  have F_cellCount_a1 := F_cellCount_a1.other W11 (Or.inr (slot_ne (Or.inr (hw _ (List.mem_of_getElem? (i := 48) rfl))) (Or.inr (hw _ (List.mem_of_getElem? (i := 64) rfl))) (by decide) (t := .long) (t' := (.array .long)) (by decide) (by decide)))
  have F_wrapLoss_a1 := F_wrapLoss_a1.other W11 (Or.inr (slot_ne (Or.inr (hw _ (List.mem_of_getElem? (i := 61) rfl))) (Or.inr (hw _ (List.mem_of_getElem? (i := 64) rfl))) (by decide) (t := .long) (t' := (.array .long)) (by decide) (by decide)))
  have F_sums_a1 := F_sums_a1.same W11
  have F_steps_a1 := F_steps_a1.other W11 (Or.inr (slot_ne (Or.inr (hw _ (List.mem_of_getElem? (i := 66) rfl))) (Or.inr (hw _ (List.mem_of_getElem? (i := 64) rfl))) (by decide) (t := (.array .long)) (t' := (.array .long)) (by decide) (by decide)))
  have F_cells_a1 := F_cells_a1.other W11 (Or.inr (slot_ne (Or.inr (hw _ (List.mem_of_getElem? (i := 68) rfl))) (Or.inr (hw _ (List.mem_of_getElem? (i := 64) rfl))) (by decide) (t := (.array .long)) (t' := (.array .long)) (by decide) (by decide)))
  have F_plainSteps_a1 := F_plainSteps_a1.other W11 (Or.inr (slot_ne (Or.inr (hw _ (List.mem_of_getElem? (i := 70) rfl))) (Or.inr (hw _ (List.mem_of_getElem? (i := 64) rfl))) (by decide) (t := (.array .long)) (t' := (.array .long)) (by decide) (by decide)))
  have F_wrapFlips_a1 := F_wrapFlips_a1.other W11 (Or.inr (slot_ne (Or.inr (hw _ (List.mem_of_getElem? (i := 72) rfl))) (Or.inr (hw _ (List.mem_of_getElem? (i := 64) rfl))) (by decide) (t := (.array .long)) (t' := (.array .long)) (by decide) (by decide)))
  have F_size_a1 := F_size_a1.other W11 (Or.inr (slot_ne (Or.inl (hw _ (List.mem_of_getElem? (i := 84) rfl))) (Or.inr (hw _ (List.mem_of_getElem? (i := 64) rfl))) (by decide) (t := .int) (t' := (.array .long)) (by decide) (by decide)))
  have E_a2 := E_a2.wr W11
  have F_cellCount_a2 := F_cellCount_a2.other W11 (Or.inl (Ne.symm n12))
  have F_dividesOutright_a2 := F_dividesOutright_a2.other W11 (Or.inl (Ne.symm n12))
  have V_nb10 := V_nb10.other W11 (Ne.symm ne_a1_nb10)
  refine Jvm.OwnW.aloadN O11 db_64 rfl rfl (q := 65) rfl ?_
  refine Jvm.OwnW.iloadN O11 db_65 rfl (q := 66) rfl ?_
  refine Jvm.OwnW.newA' O11 db_66 (ty := .long) rfl (hw _ (List.mem_of_getElem? (i := 62) rfl)) (N := nn) hn (cap := 4) hn4 (by decide) (c2 := 4) (s2 := 28) rfl rfl (by decide) (by decide) (q := 68) rfl ?_
  intro nb12 T12 h12 g12 N12 O12 X12 V_nb12
  have ne_a1_nb12 : a1 ≠ nb12 := Nat.ne_of_lt (Nat.lt_of_lt_of_le E_a1.lt (Nat.le_of_eq g12.symm))
  have ne_a2_nb12 : a2 ≠ nb12 := Nat.ne_of_lt (Nat.lt_of_lt_of_le E_a2.lt (Nat.le_of_eq g12.symm))
  have ne_nb10_nb12 : nb10 ≠ nb12 := Nat.ne_of_lt (Nat.lt_of_lt_of_le V_nb10.lt (Nat.le_of_eq g12.symm))
  have E_a1 := E_a1.ext X12
  have F_rule_a1 := F_rule_a1.ext X12
  have F_cellCount_a1 := F_cellCount_a1.ext X12
  have F_wrapLoss_a1 := F_wrapLoss_a1.ext X12
  have F_sums_a1 := F_sums_a1.ext X12
  have F_steps_a1 := F_steps_a1.ext X12
  have F_cells_a1 := F_cells_a1.ext X12
  have F_plainSteps_a1 := F_plainSteps_a1.ext X12
  have F_wrapFlips_a1 := F_wrapFlips_a1.ext X12
  have F_size_a1 := F_size_a1.ext X12
  have E_a2 := E_a2.ext X12
  have F_cellCount_a2 := F_cellCount_a2.ext X12
  have F_dividesOutright_a2 := F_dividesOutright_a2.ext X12
  have V_nb10 := V_nb10.ext X12
  refine Jvm.OwnW.putF O12 db_68 (host := "") (Or.inl (hw _ (List.mem_of_getElem? (i := 65) rfl))) Via.refl F_steps_a1 E_a1 (Or.inr ⟨hw _ (List.mem_of_getElem? (i := 66) rfl), rfl, rfl⟩) (hw _ (List.mem_of_getElem? (i := 20) rfl)) (ty := (.array .long)) (by decide) rfl rfl (Or.inl (List.mem_cons_self ..)) (q := 71) rfl ?_
  intro T13 h13 O13 W13
  have E_a1 := E_a1.wr W13
  have F_rule_a1 := F_rule_a1.other W13 (Or.inr (slot_ne (Or.inr (hw _ (List.mem_of_getElem? (i := 41) rfl))) (Or.inr (hw _ (List.mem_of_getElem? (i := 66) rfl))) (by decide) (t := (.object "com/example/occupancy/occupancy/hash/internal/CellRule")) (t' := (.array .long)) (by decide) (by decide)))
  have F_cellCount_a1 := F_cellCount_a1.other W13 (Or.inr (slot_ne (Or.inr (hw _ (List.mem_of_getElem? (i := 48) rfl))) (Or.inr (hw _ (List.mem_of_getElem? (i := 66) rfl))) (by decide) (t := .long) (t' := (.array .long)) (by decide) (by decide)))
  have F_wrapLoss_a1 := F_wrapLoss_a1.other W13 (Or.inr (slot_ne (Or.inr (hw _ (List.mem_of_getElem? (i := 61) rfl))) (Or.inr (hw _ (List.mem_of_getElem? (i := 66) rfl))) (by decide) (t := .long) (t' := (.array .long)) (by decide) (by decide)))
  have F_sums_a1 := F_sums_a1.other W13 (Or.inr (slot_ne (Or.inr (hw _ (List.mem_of_getElem? (i := 64) rfl))) (Or.inr (hw _ (List.mem_of_getElem? (i := 66) rfl))) (by decide) (t := (.array .long)) (t' := (.array .long)) (by decide) (by decide)))
  have F_steps_a1 := F_steps_a1.same W13
  have F_cells_a1 := F_cells_a1.other W13 (Or.inr (slot_ne (Or.inr (hw _ (List.mem_of_getElem? (i := 68) rfl))) (Or.inr (hw _ (List.mem_of_getElem? (i := 66) rfl))) (by decide) (t := (.array .long)) (t' := (.array .long)) (by decide) (by decide)))
  have F_plainSteps_a1 := F_plainSteps_a1.other W13 (Or.inr (slot_ne (Or.inr (hw _ (List.mem_of_getElem? (i := 70) rfl))) (Or.inr (hw _ (List.mem_of_getElem? (i := 66) rfl))) (by decide) (t := (.array .long)) (t' := (.array .long)) (by decide) (by decide)))
  have F_wrapFlips_a1 := F_wrapFlips_a1.other W13 (Or.inr (slot_ne (Or.inr (hw _ (List.mem_of_getElem? (i := 72) rfl))) (Or.inr (hw _ (List.mem_of_getElem? (i := 66) rfl))) (by decide) (t := (.array .long)) (t' := (.array .long)) (by decide) (by decide)))
  have F_size_a1 := F_size_a1.other W13 (Or.inr (slot_ne (Or.inl (hw _ (List.mem_of_getElem? (i := 84) rfl))) (Or.inr (hw _ (List.mem_of_getElem? (i := 66) rfl))) (by decide) (t := .int) (t' := (.array .long)) (by decide) (by decide)))
  have E_a2 := E_a2.wr W13
  have F_cellCount_a2 := F_cellCount_a2.other W13 (Or.inl (Ne.symm n12))
  have F_dividesOutright_a2 := F_dividesOutright_a2.other W13 (Or.inl (Ne.symm n12))
  have V_nb10 := V_nb10.other W13 (Ne.symm ne_a1_nb10)
  have V_nb12 := V_nb12.other W13 (Ne.symm ne_a1_nb12)
  refine Jvm.OwnW.aloadN O13 db_71 rfl rfl (q := 72) rfl ?_
  refine Jvm.OwnW.iloadN O13 db_72 rfl (q := 73) rfl ?_
  refine Jvm.OwnW.newA' O13 db_73 (ty := .long) rfl (hw _ (List.mem_of_getElem? (i := 62) rfl)) (N := nn) hn (cap := 4) hn4 (by decide) (c2 := 5) (s2 := 32) rfl rfl (by decide) (by decide) (q := 75) rfl ?_
  intro nb14 T14 h14 g14 N14 O14 X14 V_nb14
  have ne_a1_nb14 : a1 ≠ nb14 := Nat.ne_of_lt (Nat.lt_of_lt_of_le E_a1.lt (Nat.le_of_eq g14.symm))
  have ne_a2_nb14 : a2 ≠ nb14 := Nat.ne_of_lt (Nat.lt_of_lt_of_le E_a2.lt (Nat.le_of_eq g14.symm))
  have ne_nb10_nb14 : nb10 ≠ nb14 := Nat.ne_of_lt (Nat.lt_of_lt_of_le V_nb10.lt (Nat.le_of_eq g14.symm))
  have ne_nb12_nb14 : nb12 ≠ nb14 := Nat.ne_of_lt (Nat.lt_of_lt_of_le V_nb12.lt (Nat.le_of_eq g14.symm))
  have E_a1 := E_a1.ext X14
  have F_rule_a1 := F_rule_a1.ext X14
  have F_cellCount_a1 := F_cellCount_a1.ext X14
  have F_wrapLoss_a1 := F_wrapLoss_a1.ext X14
  have F_sums_a1 := F_sums_a1.ext X14
  have F_steps_a1 := F_steps_a1.ext X14
  have F_cells_a1 := F_cells_a1.ext X14
  have F_plainSteps_a1 := F_plainSteps_a1.ext X14
  have F_wrapFlips_a1 := F_wrapFlips_a1.ext X14
  have F_size_a1 := F_size_a1.ext X14
  have E_a2 := E_a2.ext X14
  have F_cellCount_a2 := F_cellCount_a2.ext X14
  have F_dividesOutright_a2 := F_dividesOutright_a2.ext X14
  have V_nb10 := V_nb10.ext X14
  have V_nb12 := V_nb12.ext X14
  refine Jvm.OwnW.putF O14 db_75 (host := "") (Or.inl (hw _ (List.mem_of_getElem? (i := 67) rfl))) Via.refl F_cells_a1 E_a1 (Or.inr ⟨hw _ (List.mem_of_getElem? (i := 68) rfl), rfl, rfl⟩) (hw _ (List.mem_of_getElem? (i := 20) rfl)) (ty := (.array .long)) (by decide) rfl rfl (Or.inl (List.mem_cons_self ..)) (q := 78) rfl ?_
  intro T15 h15 O15 W15
  have E_a1 := E_a1.wr W15
  have F_rule_a1 := F_rule_a1.other W15 (Or.inr (slot_ne (Or.inr (hw _ (List.mem_of_getElem? (i := 41) rfl))) (Or.inr (hw _ (List.mem_of_getElem? (i := 68) rfl))) (by decide) (t := (.object "com/example/occupancy/occupancy/hash/internal/CellRule")) (t' := (.array .long)) (by decide) (by decide)))
  have F_cellCount_a1 := F_cellCount_a1.other W15 (Or.inr (slot_ne (Or.inr (hw _ (List.mem_of_getElem? (i := 48) rfl))) (Or.inr (hw _ (List.mem_of_getElem? (i := 68) rfl))) (by decide) (t := .long) (t' := (.array .long)) (by decide) (by decide)))
  have F_wrapLoss_a1 := F_wrapLoss_a1.other W15 (Or.inr (slot_ne (Or.inr (hw _ (List.mem_of_getElem? (i := 61) rfl))) (Or.inr (hw _ (List.mem_of_getElem? (i := 68) rfl))) (by decide) (t := .long) (t' := (.array .long)) (by decide) (by decide)))
  have F_sums_a1 := F_sums_a1.other W15 (Or.inr (slot_ne (Or.inr (hw _ (List.mem_of_getElem? (i := 64) rfl))) (Or.inr (hw _ (List.mem_of_getElem? (i := 68) rfl))) (by decide) (t := (.array .long)) (t' := (.array .long)) (by decide) (by decide)))
  have F_steps_a1 := F_steps_a1.other W15 (Or.inr (slot_ne (Or.inr (hw _ (List.mem_of_getElem? (i := 66) rfl))) (Or.inr (hw _ (List.mem_of_getElem? (i := 68) rfl))) (by decide) (t := (.array .long)) (t' := (.array .long)) (by decide) (by decide)))
  have F_cells_a1 := F_cells_a1.same W15
  have F_plainSteps_a1 := F_plainSteps_a1.other W15 (Or.inr (slot_ne (Or.inr (hw _ (List.mem_of_getElem? (i := 70) rfl))) (Or.inr (hw _ (List.mem_of_getElem? (i := 68) rfl))) (by decide) (t := (.array .long)) (t' := (.array .long)) (by decide) (by decide)))
  have F_wrapFlips_a1 := F_wrapFlips_a1.other W15 (Or.inr (slot_ne (Or.inr (hw _ (List.mem_of_getElem? (i := 72) rfl))) (Or.inr (hw _ (List.mem_of_getElem? (i := 68) rfl))) (by decide) (t := (.array .long)) (t' := (.array .long)) (by decide) (by decide)))
  have F_size_a1 := F_size_a1.other W15 (Or.inr (slot_ne (Or.inl (hw _ (List.mem_of_getElem? (i := 84) rfl))) (Or.inr (hw _ (List.mem_of_getElem? (i := 68) rfl))) (by decide) (t := .int) (t' := (.array .long)) (by decide) (by decide)))
  have E_a2 := E_a2.wr W15
  have F_cellCount_a2 := F_cellCount_a2.other W15 (Or.inl (Ne.symm n12))
  have F_dividesOutright_a2 := F_dividesOutright_a2.other W15 (Or.inl (Ne.symm n12))
  have V_nb10 := V_nb10.other W15 (Ne.symm ne_a1_nb10)
  have V_nb12 := V_nb12.other W15 (Ne.symm ne_a1_nb12)
  have V_nb14 := V_nb14.other W15 (Ne.symm ne_a1_nb14)
  refine Jvm.OwnW.aloadN O15 db_78 rfl rfl (q := 79) rfl ?_
  refine Jvm.OwnW.iloadN O15 db_79 rfl (q := 80) rfl ?_
  refine Jvm.OwnW.newA' O15 db_80 (ty := .long) rfl (hw _ (List.mem_of_getElem? (i := 62) rfl)) (N := nn) hn (cap := 4) hn4 (by decide) (c2 := 6) (s2 := 36) rfl rfl (by decide) (by decide) (q := 82) rfl ?_
  intro nb16 T16 h16 g16 N16 O16 X16 V_nb16
  have ne_a1_nb16 : a1 ≠ nb16 := Nat.ne_of_lt (Nat.lt_of_lt_of_le E_a1.lt (Nat.le_of_eq g16.symm))
  have ne_a2_nb16 : a2 ≠ nb16 := Nat.ne_of_lt (Nat.lt_of_lt_of_le E_a2.lt (Nat.le_of_eq g16.symm))
  have ne_nb10_nb16 : nb10 ≠ nb16 := Nat.ne_of_lt (Nat.lt_of_lt_of_le V_nb10.lt (Nat.le_of_eq g16.symm))
  have ne_nb12_nb16 : nb12 ≠ nb16 := Nat.ne_of_lt (Nat.lt_of_lt_of_le V_nb12.lt (Nat.le_of_eq g16.symm))
  have ne_nb14_nb16 : nb14 ≠ nb16 := Nat.ne_of_lt (Nat.lt_of_lt_of_le V_nb14.lt (Nat.le_of_eq g16.symm))
  have E_a1 := E_a1.ext X16
  have F_rule_a1 := F_rule_a1.ext X16
  have F_cellCount_a1 := F_cellCount_a1.ext X16
  have F_wrapLoss_a1 := F_wrapLoss_a1.ext X16
  have F_sums_a1 := F_sums_a1.ext X16
  have F_steps_a1 := F_steps_a1.ext X16
  have F_cells_a1 := F_cells_a1.ext X16
  have F_plainSteps_a1 := F_plainSteps_a1.ext X16
  have F_wrapFlips_a1 := F_wrapFlips_a1.ext X16
  have F_size_a1 := F_size_a1.ext X16
  have E_a2 := E_a2.ext X16
  have F_cellCount_a2 := F_cellCount_a2.ext X16
  have F_dividesOutright_a2 := F_dividesOutright_a2.ext X16
  have V_nb10 := V_nb10.ext X16
  have V_nb12 := V_nb12.ext X16
  have V_nb14 := V_nb14.ext X16
  refine Jvm.OwnW.putF O16 db_82 (host := "") (Or.inl (hw _ (List.mem_of_getElem? (i := 69) rfl))) Via.refl F_plainSteps_a1 E_a1 (Or.inr ⟨hw _ (List.mem_of_getElem? (i := 70) rfl), rfl, rfl⟩) (hw _ (List.mem_of_getElem? (i := 20) rfl)) (ty := (.array .long)) (by decide) rfl rfl (Or.inl (List.mem_cons_self ..)) (q := 85) rfl ?_
  intro T17 h17 O17 W17
  have E_a1 := E_a1.wr W17
  have F_rule_a1 := F_rule_a1.other W17 (Or.inr (slot_ne (Or.inr (hw _ (List.mem_of_getElem? (i := 41) rfl))) (Or.inr (hw _ (List.mem_of_getElem? (i := 70) rfl))) (by decide) (t := (.object "com/example/occupancy/occupancy/hash/internal/CellRule")) (t' := (.array .long)) (by decide) (by decide)))
  have F_cellCount_a1 := F_cellCount_a1.other W17 (Or.inr (slot_ne (Or.inr (hw _ (List.mem_of_getElem? (i := 48) rfl))) (Or.inr (hw _ (List.mem_of_getElem? (i := 70) rfl))) (by decide) (t := .long) (t' := (.array .long)) (by decide) (by decide)))
  have F_wrapLoss_a1 := F_wrapLoss_a1.other W17 (Or.inr (slot_ne (Or.inr (hw _ (List.mem_of_getElem? (i := 61) rfl))) (Or.inr (hw _ (List.mem_of_getElem? (i := 70) rfl))) (by decide) (t := .long) (t' := (.array .long)) (by decide) (by decide)))
  have F_sums_a1 := F_sums_a1.other W17 (Or.inr (slot_ne (Or.inr (hw _ (List.mem_of_getElem? (i := 64) rfl))) (Or.inr (hw _ (List.mem_of_getElem? (i := 70) rfl))) (by decide) (t := (.array .long)) (t' := (.array .long)) (by decide) (by decide)))
  have F_steps_a1 := F_steps_a1.other W17 (Or.inr (slot_ne (Or.inr (hw _ (List.mem_of_getElem? (i := 66) rfl))) (Or.inr (hw _ (List.mem_of_getElem? (i := 70) rfl))) (by decide) (t := (.array .long)) (t' := (.array .long)) (by decide) (by decide)))
  have F_cells_a1 := F_cells_a1.other W17 (Or.inr (slot_ne (Or.inr (hw _ (List.mem_of_getElem? (i := 68) rfl))) (Or.inr (hw _ (List.mem_of_getElem? (i := 70) rfl))) (by decide) (t := (.array .long)) (t' := (.array .long)) (by decide) (by decide)))
  have F_plainSteps_a1 := F_plainSteps_a1.same W17
  have F_wrapFlips_a1 := F_wrapFlips_a1.other W17 (Or.inr (slot_ne (Or.inr (hw _ (List.mem_of_getElem? (i := 72) rfl))) (Or.inr (hw _ (List.mem_of_getElem? (i := 70) rfl))) (by decide) (t := (.array .long)) (t' := (.array .long)) (by decide) (by decide)))
  have F_size_a1 := F_size_a1.other W17 (Or.inr (slot_ne (Or.inl (hw _ (List.mem_of_getElem? (i := 84) rfl))) (Or.inr (hw _ (List.mem_of_getElem? (i := 70) rfl))) (by decide) (t := .int) (t' := (.array .long)) (by decide) (by decide)))
  have E_a2 := E_a2.wr W17
  have F_cellCount_a2 := F_cellCount_a2.other W17 (Or.inl (Ne.symm n12))
  have F_dividesOutright_a2 := F_dividesOutright_a2.other W17 (Or.inl (Ne.symm n12))
  have V_nb10 := V_nb10.other W17 (Ne.symm ne_a1_nb10)
  have V_nb12 := V_nb12.other W17 (Ne.symm ne_a1_nb12)
  have V_nb14 := V_nb14.other W17 (Ne.symm ne_a1_nb14)
  have V_nb16 := V_nb16.other W17 (Ne.symm ne_a1_nb16)
  refine Jvm.OwnW.aloadN O17 db_85 rfl rfl (q := 86) rfl ?_
  refine Jvm.OwnW.iloadN O17 db_86 rfl (q := 87) rfl ?_
  refine Jvm.OwnW.newA' O17 db_87 (ty := .long) rfl (hw _ (List.mem_of_getElem? (i := 62) rfl)) (N := nn) hn (cap := 4) hn4 (by decide) (c2 := 7) (s2 := 40) rfl rfl (by decide) (by decide) (q := 89) rfl ?_
  intro nb18 T18 h18 g18 N18 O18 X18 V_nb18
  have ne_a1_nb18 : a1 ≠ nb18 := Nat.ne_of_lt (Nat.lt_of_lt_of_le E_a1.lt (Nat.le_of_eq g18.symm))
  have ne_a2_nb18 : a2 ≠ nb18 := Nat.ne_of_lt (Nat.lt_of_lt_of_le E_a2.lt (Nat.le_of_eq g18.symm))
  have ne_nb10_nb18 : nb10 ≠ nb18 := Nat.ne_of_lt (Nat.lt_of_lt_of_le V_nb10.lt (Nat.le_of_eq g18.symm))
  have ne_nb12_nb18 : nb12 ≠ nb18 := Nat.ne_of_lt (Nat.lt_of_lt_of_le V_nb12.lt (Nat.le_of_eq g18.symm))
  have ne_nb14_nb18 : nb14 ≠ nb18 := Nat.ne_of_lt (Nat.lt_of_lt_of_le V_nb14.lt (Nat.le_of_eq g18.symm))
  have ne_nb16_nb18 : nb16 ≠ nb18 := Nat.ne_of_lt (Nat.lt_of_lt_of_le V_nb16.lt (Nat.le_of_eq g18.symm))
  have E_a1 := E_a1.ext X18
  have F_rule_a1 := F_rule_a1.ext X18
  have F_cellCount_a1 := F_cellCount_a1.ext X18
  have F_wrapLoss_a1 := F_wrapLoss_a1.ext X18
  have F_sums_a1 := F_sums_a1.ext X18
  have F_steps_a1 := F_steps_a1.ext X18
  have F_cells_a1 := F_cells_a1.ext X18
  have F_plainSteps_a1 := F_plainSteps_a1.ext X18
  have F_wrapFlips_a1 := F_wrapFlips_a1.ext X18
  have F_size_a1 := F_size_a1.ext X18
  have E_a2 := E_a2.ext X18
  have F_cellCount_a2 := F_cellCount_a2.ext X18
  have F_dividesOutright_a2 := F_dividesOutright_a2.ext X18
  have V_nb10 := V_nb10.ext X18
  have V_nb12 := V_nb12.ext X18
  have V_nb14 := V_nb14.ext X18
  have V_nb16 := V_nb16.ext X18
  refine Jvm.OwnW.putF O18 db_89 (host := "") (Or.inl (hw _ (List.mem_of_getElem? (i := 71) rfl))) Via.refl F_wrapFlips_a1 E_a1 (Or.inr ⟨hw _ (List.mem_of_getElem? (i := 72) rfl), rfl, rfl⟩) (hw _ (List.mem_of_getElem? (i := 20) rfl)) (ty := (.array .long)) (by decide) rfl rfl (Or.inl (List.mem_cons_self ..)) (q := 92) rfl ?_
  intro T19 h19 O19 W19
  have E_a1 := E_a1.wr W19
  have F_rule_a1 := F_rule_a1.other W19 (Or.inr (slot_ne (Or.inr (hw _ (List.mem_of_getElem? (i := 41) rfl))) (Or.inr (hw _ (List.mem_of_getElem? (i := 72) rfl))) (by decide) (t := (.object "com/example/occupancy/occupancy/hash/internal/CellRule")) (t' := (.array .long)) (by decide) (by decide)))
  have F_cellCount_a1 := F_cellCount_a1.other W19 (Or.inr (slot_ne (Or.inr (hw _ (List.mem_of_getElem? (i := 48) rfl))) (Or.inr (hw _ (List.mem_of_getElem? (i := 72) rfl))) (by decide) (t := .long) (t' := (.array .long)) (by decide) (by decide)))
  have F_wrapLoss_a1 := F_wrapLoss_a1.other W19 (Or.inr (slot_ne (Or.inr (hw _ (List.mem_of_getElem? (i := 61) rfl))) (Or.inr (hw _ (List.mem_of_getElem? (i := 72) rfl))) (by decide) (t := .long) (t' := (.array .long)) (by decide) (by decide)))
  have F_sums_a1 := F_sums_a1.other W19 (Or.inr (slot_ne (Or.inr (hw _ (List.mem_of_getElem? (i := 64) rfl))) (Or.inr (hw _ (List.mem_of_getElem? (i := 72) rfl))) (by decide) (t := (.array .long)) (t' := (.array .long)) (by decide) (by decide)))
  have F_steps_a1 := F_steps_a1.other W19 (Or.inr (slot_ne (Or.inr (hw _ (List.mem_of_getElem? (i := 66) rfl))) (Or.inr (hw _ (List.mem_of_getElem? (i := 72) rfl))) (by decide) (t := (.array .long)) (t' := (.array .long)) (by decide) (by decide)))
  have F_cells_a1 := F_cells_a1.other W19 (Or.inr (slot_ne (Or.inr (hw _ (List.mem_of_getElem? (i := 68) rfl))) (Or.inr (hw _ (List.mem_of_getElem? (i := 72) rfl))) (by decide) (t := (.array .long)) (t' := (.array .long)) (by decide) (by decide)))
  have F_plainSteps_a1 := F_plainSteps_a1.other W19 (Or.inr (slot_ne (Or.inr (hw _ (List.mem_of_getElem? (i := 70) rfl))) (Or.inr (hw _ (List.mem_of_getElem? (i := 72) rfl))) (by decide) (t := (.array .long)) (t' := (.array .long)) (by decide) (by decide)))
  have F_wrapFlips_a1 := F_wrapFlips_a1.same W19
  have F_size_a1 := F_size_a1.other W19 (Or.inr (slot_ne (Or.inl (hw _ (List.mem_of_getElem? (i := 84) rfl))) (Or.inr (hw _ (List.mem_of_getElem? (i := 72) rfl))) (by decide) (t := .int) (t' := (.array .long)) (by decide) (by decide)))
  have E_a2 := E_a2.wr W19
  have F_cellCount_a2 := F_cellCount_a2.other W19 (Or.inl (Ne.symm n12))
  have F_dividesOutright_a2 := F_dividesOutright_a2.other W19 (Or.inl (Ne.symm n12))
  have V_nb10 := V_nb10.other W19 (Ne.symm ne_a1_nb10)
  have V_nb12 := V_nb12.other W19 (Ne.symm ne_a1_nb12)
  have V_nb14 := V_nb14.other W19 (Ne.symm ne_a1_nb14)
  have V_nb16 := V_nb16.other W19 (Ne.symm ne_a1_nb16)
  have V_nb18 := V_nb18.other W19 (Ne.symm ne_a1_nb18)
  exact Jvm.OwnW.ret0 O19 db_92 (by decide) (by decide) ⟨rfl, nb10, nb12, hs0 ▸ N10, hs0 ▸ N12, ne_nb10_nb12, F_sums_a1, F_steps_a1, F_size_a1, V_nb10, V_nb12⟩
theorem df_0 : decode prog_29_method_4_code 0 = .ok (.aload_n 0, 1) := by decide +kernel
theorem df_1 : decode prog_29_method_4_code 1 = .ok (.getfield 72, 3) := by decide +kernel
theorem df_4 : decode prog_29_method_4_code 4 = .ok (.aload_n 0, 1) := by decide +kernel
theorem df_5 : decode prog_29_method_4_code 5 = .ok (.getfield 47, 3) := by decide +kernel
theorem df_8 : decode prog_29_method_4_code 8 = .ok (.arraylength, 1) := by decide +kernel
theorem df_9 : decode prog_29_method_4_code 9 = .ok (.if_icmp .ne 7, 3) := by decide +kernel
theorem df_12 : decode prog_29_method_4_code 12 = .ok (.iconst 1, 1) := by decide +kernel
theorem df_13 : decode prog_29_method_4_code 13 = .ok (.goto 4, 3) := by decide +kernel
theorem df_16 : decode prog_29_method_4_code 16 = .ok (.iconst 0, 1) := by decide +kernel
theorem df_17 : decode prog_29_method_4_code 17 = .ok (.ireturn, 1) := by decide +kernel
def fn_f (sz : Int32) (zn : Int32) : Int32 := (if sz = zn then (1 : Int32) else (0 : Int32))
theorem ef_f (a1 : Addr) (sa : Addr) (sz : Int32) (zn : Int32) (m : MethodId) : entryFrame m #[(.ref a1)] 1 = mkF m 0 #[.val (.ref a1)] [] := by first | (simp [entryFrame, mkF, argsToLocals, Value.category, maxLocals]; done) | rfl
theorem pn_f : plainFor (⟨"com/example/occupancy/occupancy/hash/internal/CellBatch", "isFull", "()Z"⟩ : MethodName) = true := by first | exact plainFor_of_name (by first | (simp [plainName, overriddenIn]; done) | decide +kernel) | decide +kernel
set_option maxRecDepth 65536 in
set_option maxHeartbeats 40000000 in
theorem rm_f (l : Launch) (Z : State) (a0 : Array Value) (hw : ∀ d ∈ tables_1, d.before a0 Z = true) (a1 : Addr) (sa : Addr) (sz : Int32) (zn : Int32) (nn : Nat) (f : Nat → Value) (h0 : Heap) (E_a1 : Exa Z h0 a1 "com/example/occupancy/occupancy/hash/internal/CellBatch") (F_sums_a1 : Fld Z h0 a1 "com/example/occupancy/occupancy/hash/internal/CellBatch" "sums" "[J" (.ref sa)) (F_size_a1 : Fld Z h0 a1 "com/example/occupancy/occupancy/hash/internal/CellBatch" "size" "I" (.int sz)) (V_sa : Ar Z h0 sa .long nn f) (hzn : zn.toInt = (nn : Int)) :
    Met l Z (⟨"com/example/occupancy/occupancy/hash/internal/CellBatch", "isFull", "()Z"⟩ : MethodName) prog_29_method_4_code 1 (some .boolean) [] ({ frames := 0, cells := 0, slots := 0, locals := 0 } : Room) #[(.ref a1)] [] h0 (fun v h => v = some (Value.int (fn_f sz zn))) := by
  refine Met.mk pn_f (ef_f a1 sa sz zn) ?_
  intro C T hs0 O
  show Go C [] (fun v h => v = some (Value.int (fn_f sz zn))) 0 0 (T.setTop (mkF C.m 0 #[.val (.ref a1)] []))
  refine Jvm.OwnW.aloadN O df_0 rfl rfl (q := 1) rfl ?_
  refine Jvm.OwnW.getF O df_1 (host := "") (Or.inl (hw _ (List.mem_of_getElem? (i := 83) rfl))) Via.refl F_size_a1 (q := 4) rfl ?_
  intro T1 O1
  refine Jvm.OwnW.aloadN O1 df_4 rfl rfl (q := 5) rfl ?_
  refine Jvm.OwnW.getF O1 df_5 (host := "") (Or.inl (hw _ (List.mem_of_getElem? (i := 63) rfl))) Via.refl F_sums_a1 (q := 8) rfl ?_
  intro T2 O2
  refine Jvm.OwnW.lenA O2 df_8 V_sa (z := zn) hzn (q := 9) rfl ?_
  by_cases hc9 : sz = zn
  · refine Jvm.OwnW.icmpNo O2 df_9 (teq hc9).2 (q := 12) rfl ?_
    refine Jvm.OwnW.iconst O2 df_12 (r := (1 : Int32)) rfl (q := 13) rfl ?_
    refine Jvm.OwnW.goto O2 df_13 (by decide) (q := 17) rfl ?_
    exact Jvm.OwnW.retB O2 df_17 rfl (Or.inr rfl) (by decide) (by decide) (by show some (Value.int (1 : Int32)) = some (Value.int (fn_f sz zn)); rw [fn_f, if_pos hc9])
  · refine Jvm.OwnW.icmpYes O2 df_9 (feq hc9).2 (by decide) (q := 16) rfl ?_
    refine Jvm.OwnW.iconst O2 df_16 (r := (0 : Int32)) rfl (q := 17) rfl ?_
    exact Jvm.OwnW.retB O2 df_17 rfl (Or.inl rfl) (by decide) (by decide) (by show some (Value.int (0 : Int32)) = some (Value.int (fn_f sz zn)); rw [fn_f, if_neg hc9])
theorem pd_4 : parseMethodDescriptor "()Z" = some ⟨[], some .boolean⟩ := by decide +kernel
theorem da_0 : decode prog_29_method_14_code 0 = .ok (.aload_n 0, 1) := by decide +kernel
theorem da_1 : decode prog_29_method_14_code 1 = .ok (.invokevirtual 131, 3) := by decide +kernel
theorem da_4 : decode prog_29_method_14_code 4 = .ok (.ifCond .eq 20, 3) := by decide +kernel
theorem da_24 : decode prog_29_method_14_code 24 = .ok (.aload_n 0, 1) := by decide +kernel
theorem da_25 : decode prog_29_method_14_code 25 = .ok (.getfield 72, 3) := by decide +kernel
theorem da_28 : decode prog_29_method_14_code 28 = .ok (.istore 5, 2) := by decide +kernel
theorem da_30 : decode prog_29_method_14_code 30 = .ok (.aload_n 0, 1) := by decide +kernel
theorem da_31 : decode prog_29_method_14_code 31 = .ok (.getfield 47, 3) := by decide +kernel
theorem da_34 : decode prog_29_method_14_code 34 = .ok (.iload 5, 2) := by decide +kernel
theorem da_36 : decode prog_29_method_14_code 36 = .ok (.lload_n 1, 1) := by decide +kernel
theorem da_37 : decode prog_29_method_14_code 37 = .ok (.lastore, 1) := by decide +kernel
theorem da_38 : decode prog_29_method_14_code 38 = .ok (.aload_n 0, 1) := by decide +kernel
theorem da_39 : decode prog_29_method_14_code 39 = .ok (.getfield 51, 3) := by decide +kernel
theorem da_42 : decode prog_29_method_14_code 42 = .ok (.iload 5, 2) := by decide +kernel
theorem da_44 : decode prog_29_method_14_code 44 = .ok (.lload_n 3, 1) := by decide +kernel
theorem da_45 : decode prog_29_method_14_code 45 = .ok (.lastore, 1) := by decide +kernel
theorem da_46 : decode prog_29_method_14_code 46 = .ok (.aload_n 0, 1) := by decide +kernel
theorem da_47 : decode prog_29_method_14_code 47 = .ok (.iload 5, 2) := by decide +kernel
theorem da_49 : decode prog_29_method_14_code 49 = .ok (.iconst 1, 1) := by decide +kernel
theorem da_50 : decode prog_29_method_14_code 50 = .ok (.iadd, 1) := by decide +kernel
theorem da_51 : decode prog_29_method_14_code 51 = .ok (.putfield 72, 3) := by decide +kernel
theorem da_54 : decode prog_29_method_14_code 54 = .ok (.return_, 1) := by decide +kernel
theorem ef_a (a1 : Addr) (p2 : Int64) (p4 : Int64) (sa ta : Addr) (sz : Int32) (zn : Int32) (s2 : Int32) (m : MethodId) : entryFrame m #[(.ref a1), (.long p2), (.long p4)] 6 = mkF m 0 #[.val (.ref a1), .val (.long p2), .second, .val (.long p4), .second, .unset] [] := by first | (simp [entryFrame, mkF, argsToLocals, Value.category, maxLocals]; done) | rfl
theorem pn_a : plainFor (⟨"com/example/occupancy/occupancy/hash/internal/CellBatch", "add", "(JJ)V"⟩ : MethodName) = true := by first | exact plainFor_of_name (by first | (simp [plainName, overriddenIn]; done) | decide +kernel) | decide +kernel
set_option maxRecDepth 65536 in
set_option maxHeartbeats 40000000 in
theorem rm_a (l : Launch) (Z : State) (a0 : Array Value) (hw : ∀ d ∈ tables_1, d.before a0 Z = true) (a1 : Addr) (p2 : Int64) (p4 : Int64) (sa ta : Addr) (sz : Int32) (zn : Int32) (s2 : Int32) (nn k : Nat) (f g : Nat → Value) (h0 : Heap) (E_a1 : Exa Z h0 a1 "com/example/occupancy/occupancy/hash/internal/CellBatch") (F_sums_a1 : Fld Z h0 a1 "com/example/occupancy/occupancy/hash/internal/CellBatch" "sums" "[J" (.ref sa)) (F_steps_a1 : Fld Z h0 a1 "com/example/occupancy/occupancy/hash/internal/CellBatch" "steps" "[J" (.ref ta)) (F_size_a1 : Fld Z h0 a1 "com/example/occupancy/occupancy/hash/internal/CellBatch" "size" "I" (.int sz)) (V_sa : Ar Z h0 sa .long nn f) (V_ta : Ar Z h0 ta .long nn g) (n1s : a1 ≠ sa) (n1t : a1 ≠ ta) (nst : sa ≠ ta) (hzn : zn.toInt = (nn : Int)) (hk : sz.toInt = (k : Int)) (hkn : k < nn) (hs2 : sz + 1 = s2) :
    Met l Z (⟨"com/example/occupancy/occupancy/hash/internal/CellBatch", "add", "(JJ)V"⟩ : MethodName) prog_29_method_14_code 6 none [] ({ frames := 1, cells := 0, slots := 0, locals := 12 } : Room) #[(.ref a1), (.long p2), (.long p4)] [a1, sa, ta] h0 (fun v h => v = none ∧ Fld Z h a1 "com/example/occupancy/occupancy/hash/internal/CellBatch" "sums" "[J" (.ref sa) ∧ Fld Z h a1 "com/example/occupancy/occupancy/hash/internal/CellBatch" "steps" "[J" (.ref ta) ∧ Fld Z h a1 "com/example/occupancy/occupancy/hash/internal/CellBatch" "size" "I" (.int s2) ∧ (∃ f', Ar Z h sa .long nn f') ∧ ∃ g', Ar Z h ta .long nn g') := by
  refine Met.mk pn_a (ef_a a1 p2 p4 sa ta sz zn s2) ?_
  intro C T hs0 O
  show Go C [a1, sa, ta] (fun v h => v = none ∧ Fld Z h a1 "com/example/occupancy/occupancy/hash/internal/CellBatch" "sums" "[J" (.ref sa) ∧ Fld Z h a1 "com/example/occupancy/occupancy/hash/internal/CellBatch" "steps" "[J" (.ref ta) ∧ Fld Z h a1 "com/example/occupancy/occupancy/hash/internal/CellBatch" "size" "I" (.int s2) ∧ (∃ f', Ar Z h sa .long nn f') ∧ ∃ g', Ar Z h ta .long nn g') 0 0 (T.setTop (mkF C.m 0 #[.val (.ref a1), .val (.long p2), .second, .val (.long p4), .second, .unset] []))
  refine Jvm.OwnW.aloadN O da_0 rfl rfl (q := 1) rfl ?_
  refine Jvm.OwnW.callV0 O (y := (⟨"com/example/occupancy/occupancy/hash/internal/CellBatch", "isFull", "()Z"⟩ : MethodName)) (z := (⟨"com/example/occupancy/occupancy/hash/internal/CellBatch", "isFull", "()Z"⟩ : MethodName)) (a := a1) (argsL := []) (rest := []) da_1 (hw _ (List.mem_of_getElem? (i := 78) rfl)) (hw _ (List.mem_of_getElem? (i := 79) rfl)) (hw _ (List.mem_of_getElem? (i := 81) rfl)) rfl (hw _ (List.mem_of_getElem? (i := 80) rfl)) (hw _ (List.mem_of_getElem? (i := 21) rfl)) (hw _ (List.mem_of_getElem? (i := 82) rfl)) (by decide) (rm_f l Z a0 hw a1 sa sz zn nn f h0 E_a1 F_sums_a1 F_size_a1 V_sa hzn) E_a1 rfl pd_4 rfl (hst := rfl) (W := 0) (Nat.le_of_eq rfl) (by decide) (by decide) (c2 := 0) (s2 := 0) rfl rfl (by decide) (by decide) rfl rfl (q := 4) rfl ?_
  intro v1 T1 O1 q1
  obtain rfl := q1
  show Go C _ _ _ _ (T1.setTop (mkF C.m 4 #[.val (.ref a1), .val (.long p2), .second, .val (.long p4), .second, .unset] [(.int (fn_f sz zn))]))
  refine Jvm.OwnW.ifYes O1 da_4 (teq0 (show (fn_f sz zn) = (0 : Int32) from (by rw [fn_f, if_neg (ne32 (by omega))]))).1 (by decide) (q := 24) rfl ?_
  refine Jvm.OwnW.aloadN O1 da_24 rfl rfl (q := 25) rfl ?_
  refine Jvm.OwnW.getF O1 da_25 (host := "") (Or.inl (hw _ (List.mem_of_getElem? (i := 83) rfl))) Via.refl F_size_a1 (q := 28) rfl ?_
  intro T2 O2
  refine Jvm.OwnW.istore O2 da_28 (L' := #[.val (.ref a1), .val (.long p2), .second, .val (.long p4), .second, .val (.int sz)]) rfl (q := 30) rfl ?_
  refine Jvm.OwnW.aloadN O2 da_30 rfl rfl (q := 31) rfl ?_
  refine Jvm.OwnW.getF O2 da_31 (host := "") (Or.inl (hw _ (List.mem_of_getElem? (i := 63) rfl))) Via.refl F_sums_a1 (q := 34) rfl ?_
  intro T3 O3
  refine Jvm.OwnW.iload O3 da_34 rfl (q := 36) rfl ?_
  refine Jvm.OwnW.lloadN O3 da_36 rfl (q := 37) rfl ?_
  refine Jvm.OwnW.lasA O3 da_37 V_sa (i := k) hk hkn (Or.inl (List.mem_cons_of_mem _ (List.mem_cons_self ..))) (q := 38) rfl ?_
  intro T4 h4 O4 W4
  have V_sa := V_sa.set W4 hkn
  have E_a1 := E_a1.wr W4
  have F_sums_a1 := F_sums_a1.other W4 (Or.inl n1s)
  have F_steps_a1 := F_steps_a1.other W4 (Or.inl n1s)
  have F_size_a1 := F_size_a1.other W4 (Or.inl n1s)
  have V_ta := V_ta.other W4 (Ne.symm nst)
  refine Jvm.OwnW.aloadN O4 da_38 rfl rfl (q := 39) rfl ?_
  refine Jvm.OwnW.getF O4 da_39 (host := "") (Or.inl (hw _ (List.mem_of_getElem? (i := 65) rfl))) Via.refl F_steps_a1 (q := 42) rfl ?_
  intro T5 O5
  refine Jvm.OwnW.iload O5 da_42 rfl (q := 44) rfl ?_
  refine Jvm.OwnW.lloadN O5 da_44 rfl (q := 45) rfl ?_
  refine Jvm.OwnW.lasA O5 da_45 V_ta (i := k) hk hkn (Or.inl (List.mem_cons_of_mem _ (List.mem_cons_of_mem _ (List.mem_cons_self ..)))) (q := 46) rfl ?_
  intro T6 h6 O6 W6
  have V_ta := V_ta.set W6 hkn
  have E_a1 := E_a1.wr W6
  have F_sums_a1 := F_sums_a1.other W6 (Or.inl n1t)
  have F_steps_a1 := F_steps_a1.other W6 (Or.inl n1t)
  have F_size_a1 := F_size_a1.other W6 (Or.inl n1t)
  have V_sa := V_sa.other W6 nst
  refine Jvm.OwnW.aloadN O6 da_46 rfl rfl (q := 47) rfl ?_
  refine Jvm.OwnW.iload O6 da_47 rfl (q := 49) rfl ?_
  refine Jvm.OwnW.iconst O6 da_49 (r := (1 : Int32)) rfl (q := 50) rfl ?_
  refine Jvm.OwnW.iadd O6 da_50 rfl (q := 51) rfl ?_
  refine Jvm.OwnW.putF O6 da_51 (host := "") (Or.inl (hw _ (List.mem_of_getElem? (i := 83) rfl))) Via.refl F_size_a1 E_a1 (Or.inl (hw _ (List.mem_of_getElem? (i := 84) rfl))) (hw _ (List.mem_of_getElem? (i := 20) rfl)) (ty := .int) (by decide) rfl rfl (Or.inl (List.mem_cons_self ..)) (q := 54) rfl ?_
  intro T7 h7 O7 W7
  have E_a1 := E_a1.wr W7
  have F_sums_a1 := F_sums_a1.other W7 (Or.inr (slot_ne (Or.inr (hw _ (List.mem_of_getElem? (i := 64) rfl))) (Or.inl (hw _ (List.mem_of_getElem? (i := 84) rfl))) (by decide) (t := (.array .long)) (t' := .int) (by decide) (by decide)))
  have F_steps_a1 := F_steps_a1.other W7 (Or.inr (slot_ne (Or.inr (hw _ (List.mem_of_getElem? (i := 66) rfl))) (Or.inl (hw _ (List.mem_of_getElem? (i := 84) rfl))) (by decide) (t := (.array .long)) (t' := .int) (by decide) (by decide)))
  have F_size_a1 := F_size_a1.same W7
  have V_sa := V_sa.other W7 (Ne.symm n1s)
  have V_ta := V_ta.other W7 (Ne.symm n1t)
  exact Jvm.OwnW.ret0 O7 da_54 (by decide) (by decide) ⟨rfl, F_sums_a1, F_steps_a1, hs2 ▸ F_size_a1, ⟨_, V_sa⟩, ⟨_, V_ta⟩⟩
theorem own_n (x : Int32) : ∃ n : Nat, ((x &&& 3) + 1 : Int32).toInt = (n : Int) ∧ 1 ≤ n ∧ n ≤ 4 := by
  have h := c_mask x 3 2 (by decide) (by decide)
  have h1 : (1 : Int32).toInt = 1 := rfl
  have h2 : ((x &&& 3) + 1 : Int32).toInt = (x &&& 3).toInt + 1 := by rw [add32 (by omega) (by omega), h1]
  exact ⟨((x &&& 3) + 1 : Int32).toInt.toNat, by omega, by omega, by omega⟩
theorem pd_5 : parseMethodDescriptor "(J)V" = some ⟨[.long], none⟩ := by decide +kernel
theorem pd_6 : parseMethodDescriptor "(Lcom/example/occupancy/occupancy/hash/internal/CellRule;I)V" = some ⟨[(.object "com/example/occupancy/occupancy/hash/internal/CellRule"), .int], none⟩ := by decide +kernel
theorem pd_7 : parseMethodDescriptor "(JJ)V" = some ⟨[.long, .long], none⟩ := by decide +kernel
theorem ef_0 (p0 : Int32) (p1 : Int32) (p2 : Int64) (p4 : Int64) (m : MethodId) : entryFrame m #[(.int p0), (.int p1), (.long p2), (.long p4)] maxLocals = mkF m 0 #[.val (.int p0), .val (.int p1), .val (.long p2), .second, .val (.long p4), .second, .unset, .unset, .unset, .unset, .unset] [] := by first | (simp [entryFrame, mkF, argsToLocals, Value.category, maxLocals]; done) | rfl
theorem pn_0 : plainFor x = true := by first | exact plainFor_of_name (by first | (simp [plainName, overriddenIn]; done) | decide +kernel) | decide +kernel
set_option maxRecDepth 65536 in
set_option maxHeartbeats 40000000 in
theorem rm_0 (l : Launch) (Z : State) (a0 : Array Value) (hw : ∀ d ∈ tables_1, d.before a0 Z = true) (wds : List Jvm.Cond) (p0 : Int32) (p1 : Int32) (p2 : Int64) (p4 : Int64) (h0 : Heap)  :
    Met l Z x code maxLocals ret wds room_1 #[(.int p0), (.int p1), (.long p2), (.long p4)] [] h0 (fun v h => v = some (.int 1)) := by
  refine Met.mk pn_0 (ef_0 p0 p1 p2 p4) ?_
  intro C T hs0 O
  show Go C [] (fun v h => v = some (.int 1)) 24 1216 (T.setTop (mkF C.m 0 #[.val (.int p0), .val (.int p1), .val (.long p2), .second, .val (.long p4), .second, .unset, .unset, .unset, .unset, .unset] []))
  refine Jvm.OwnW.iloadN O at_0 rfl (q := 1) rfl ?_
  refine Jvm.OwnW.iconst O at_1 (r := (3 : Int32)) rfl (q := 2) rfl ?_
  refine Jvm.OwnW.iand O at_2 rfl (q := 3) rfl ?_
  refine Jvm.OwnW.iconst O at_3 (r := (1 : Int32)) rfl (q := 4) rfl ?_
  obtain ⟨cap, hcap⟩ : ∃ zz_, ((p0 &&& (3 : Int32)) + (1 : Int32)) = zz_ := ⟨_, rfl⟩
  refine Jvm.OwnW.iadd O at_4 hcap (q := 5) rfl ?_
  obtain ⟨nn, hnn, hn1, hn4⟩ := own_n p0
  rw [hcap] at hnn
  refine Jvm.OwnW.istore O at_5 (L' := #[.val (.int p0), .val (.int p1), .val (.long p2), .second, .val (.long p4), .second, .val (.int cap), .unset, .unset, .unset, .unset]) rfl (q := 7) rfl ?_
  refine Jvm.OwnW.iloadN O at_7 rfl (q := 8) rfl ?_
  refine Jvm.OwnW.ldcI O at_8 (hw _ (List.mem_of_getElem? (i := 0) rfl)) (q := 10) rfl ?_
  refine Jvm.OwnW.iand O at_10 rfl (q := 11) rfl ?_
  refine Jvm.OwnW.iload O at_11 rfl (q := 13) rfl ?_
  refine Jvm.OwnW.iconst O at_13 (r := (1 : Int32)) rfl (q := 14) rfl ?_
  obtain ⟨c1, hc1⟩ : ∃ zz_, (cap + (1 : Int32)) = zz_ := ⟨_, rfl⟩
  refine Jvm.OwnW.iadd O at_14 hc1 (q := 15) rfl ?_
  have hc1v := inc32 hnn (by omega)
  rw [hc1] at hc1v
  obtain ⟨n, hn⟩ : ∃ zz_, ((p1 &&& (2147483647 : Int32)) % c1) = zz_ := ⟨_, rfl⟩
  refine Jvm.OwnW.irem O at_15 (ne0_32 (by omega)) hn (q := 16) rfl ?_
  obtain ⟨kn, hkn, hkc⟩ := rem_in p1 c1 (by omega)
  rw [hn] at hkn
  have hk4 : kn ≤ nn := by omega
  obtain rfl | rfl | rfl | rfl | rfl : kn = 0 ∨ kn = 1 ∨ kn = 2 ∨ kn = 3 ∨ kn = 4 := by omega
  · skip
    obtain rfl : n = (0 : Int32) := eq32 hkn
    show Go C _ _ _ _ (T.setTop (mkF C.m 16 #[.val (.int p0), .val (.int p1), .val (.long p2), .second, .val (.long p4), .second, .val (.int cap), .unset, .unset, .unset, .unset] [(.int (0 : Int32))]))
    refine Jvm.OwnW.istore O at_16 (L' := #[.val (.int p0), .val (.int p1), .val (.long p2), .second, .val (.long p4), .second, .val (.int cap), .val (.int (0 : Int32)), .unset, .unset, .unset]) rfl (q := 18) rfl ?_
    refine Jvm.OwnW.newO O at_18 (hw _ (List.mem_of_getElem? (i := 1) rfl)) (hw _ (List.mem_of_getElem? (i := 2) rfl)) (hw _ (List.mem_of_getElem? (i := 3) rfl)) (c2 := 1) (s2 := 4) rfl rfl (by decide) (by decide) (q := 21) rfl ?_
    intro a1 T1 h1 g1 N1 O1 X1 E_a1 D1
    have F_cellCount_a1 : Fld Z h1 a1 "com/example/occupancy/occupancy/hash/internal/CellRule" "cellCount" "J" (.long (0 : Int64)) := D1 (Or.inr (hw _ (List.mem_of_getElem? (i := 11) rfl))) (ty := .long) (by decide)
    have F_dividesOutright_a1 : Fld Z h1 a1 "com/example/occupancy/occupancy/hash/internal/CellRule" "dividesOutright" "Z" (.int (0 : Int32)) := D1 (Or.inr (hw _ (List.mem_of_getElem? (i := 14) rfl))) (ty := .boolean) (by decide)
    have F_reciprocal_a1 : Fld Z h1 a1 "com/example/occupancy/occupancy/hash/internal/CellRule" "reciprocal" "J" (.long (0 : Int64)) := D1 (Or.inr (hw _ (List.mem_of_getElem? (i := 16) rfl))) (ty := .long) (by decide)
    have F_shift_a1 : Fld Z h1 a1 "com/example/occupancy/occupancy/hash/internal/CellRule" "shift" "I" (.int (0 : Int32)) := D1 (Or.inr (hw _ (List.mem_of_getElem? (i := 18) rfl))) (ty := .int) (by decide)
    refine Jvm.OwnW.dup O1 at_21 rfl (q := 22) rfl ?_
    refine Jvm.OwnW.lconst O1 at_22 (r := (1 : Int64)) rfl (q := 23) rfl ?_
    refine Jvm.OwnW.callI O1 (y := (⟨"com/example/occupancy/occupancy/hash/internal/CellRule", "<init>", "(J)V"⟩ : MethodName)) (a := a1) (argsL := [(.long (1 : Int64))]) (rest := [(.ref a1)]) at_23 rfl (hw _ (List.mem_of_getElem? (i := 4) rfl)) (hw _ (List.mem_of_getElem? (i := 5) rfl)) (hw _ (List.mem_of_getElem? (i := 3) rfl)) (hw _ (List.mem_of_getElem? (i := 6) rfl)) (by decide) (rm_r l Z a0 hw a1 h1 E_a1 F_cellCount_a1 F_dividesOutright_a1 F_reciprocal_a1 F_shift_a1) rfl pd_5 rfl (hst := rfl) (W := 1) (Nat.le_of_eq rfl) (by decide) (by decide) (c2 := 1) (s2 := 4) rfl rfl (by decide) (by decide) (allS (Or.inr N1) all0) (q := 26) rfl ?_
    intro v2 T2 h2 O2 K2 q2
    obtain ⟨rfl, F_cellCount_a1, F_dividesOutright_a1⟩ := q2
    have E_a1 := E_a1.keep K2
    show Go C _ _ _ _ (T2.setTop (mkF C.m 26 #[.val (.int p0), .val (.int p1), .val (.long p2), .second, .val (.long p4), .second, .val (.int cap), .val (.int (0 : Int32)), .unset, .unset, .unset] [(.ref a1)]))
    refine Jvm.OwnW.astore O2 at_26 rfl (L' := #[.val (.int p0), .val (.int p1), .val (.long p2), .second, .val (.long p4), .second, .val (.int cap), .val (.int (0 : Int32)), .val (.ref a1), .unset, .unset]) rfl (q := 28) rfl ?_
    refine Jvm.OwnW.newO O2 at_28 (hw _ (List.mem_of_getElem? (i := 19) rfl)) (hw _ (List.mem_of_getElem? (i := 20) rfl)) (hw _ (List.mem_of_getElem? (i := 21) rfl)) (c2 := 2) (s2 := 13) rfl rfl (by decide) (by decide) (q := 31) rfl ?_
    intro a3 T3 h3 g3 N3 O3 X3 E_a3 D3
    have ne_a1_a3 : a1 ≠ a3 := Nat.ne_of_lt (Nat.lt_of_lt_of_le E_a1.lt (Nat.le_of_eq g3.symm))
    have E_a1 := E_a1.ext X3
    have F_cellCount_a1 := F_cellCount_a1.ext X3
    have F_dividesOutright_a1 := F_dividesOutright_a1.ext X3
    have F_rule_a3 : Fld Z h3 a3 "com/example/occupancy/occupancy/hash/internal/CellBatch" "rule" "Lcom/example/occupancy/occupancy/hash/internal/CellRule;" .null := D3 (Or.inr (hw _ (List.mem_of_getElem? (i := 41) rfl))) (ty := (.object "com/example/occupancy/occupancy/hash/internal/CellRule")) (by decide)
    have F_cellCount_a3 : Fld Z h3 a3 "com/example/occupancy/occupancy/hash/internal/CellBatch" "cellCount" "J" (.long (0 : Int64)) := D3 (Or.inr (hw _ (List.mem_of_getElem? (i := 48) rfl))) (ty := .long) (by decide)
    have F_wrapLoss_a3 : Fld Z h3 a3 "com/example/occupancy/occupancy/hash/internal/CellBatch" "wrapLoss" "J" (.long (0 : Int64)) := D3 (Or.inr (hw _ (List.mem_of_getElem? (i := 61) rfl))) (ty := .long) (by decide)
    have F_sums_a3 : Fld Z h3 a3 "com/example/occupancy/occupancy/hash/internal/CellBatch" "sums" "[J" .null := D3 (Or.inr (hw _ (List.mem_of_getElem? (i := 64) rfl))) (ty := (.array .long)) (by decide)
    have F_steps_a3 : Fld Z h3 a3 "com/example/occupancy/occupancy/hash/internal/CellBatch" "steps" "[J" .null := D3 (Or.inr (hw _ (List.mem_of_getElem? (i := 66) rfl))) (ty := (.array .long)) (by decide)
    have F_cells_a3 : Fld Z h3 a3 "com/example/occupancy/occupancy/hash/internal/CellBatch" "cells" "[J" .null := D3 (Or.inr (hw _ (List.mem_of_getElem? (i := 68) rfl))) (ty := (.array .long)) (by decide)
    have F_plainSteps_a3 : Fld Z h3 a3 "com/example/occupancy/occupancy/hash/internal/CellBatch" "plainSteps" "[J" .null := D3 (Or.inr (hw _ (List.mem_of_getElem? (i := 70) rfl))) (ty := (.array .long)) (by decide)
    have F_wrapFlips_a3 : Fld Z h3 a3 "com/example/occupancy/occupancy/hash/internal/CellBatch" "wrapFlips" "[J" .null := D3 (Or.inr (hw _ (List.mem_of_getElem? (i := 72) rfl))) (ty := (.array .long)) (by decide)
    have F_size_a3 : Fld Z h3 a3 "com/example/occupancy/occupancy/hash/internal/CellBatch" "size" "I" (.int (0 : Int32)) := D3 (Or.inl (hw _ (List.mem_of_getElem? (i := 84) rfl))) (ty := .int) (by decide)
    refine Jvm.OwnW.dup O3 at_31 rfl (q := 32) rfl ?_
    refine Jvm.OwnW.aload O3 at_32 rfl rfl (q := 34) rfl ?_
    refine Jvm.OwnW.iload O3 at_34 rfl (q := 36) rfl ?_
    have lt_a1 := E_a1.lt
    have lt_a3 := E_a3.lt
    refine Jvm.OwnW.callI O3 (y := (⟨"com/example/occupancy/occupancy/hash/internal/CellBatch", "<init>", "(Lcom/example/occupancy/occupancy/hash/internal/CellRule;I)V"⟩ : MethodName)) (a := a3) (argsL := [(.ref a1), (.int cap)]) (rest := [(.ref a3)]) at_36 rfl (hw _ (List.mem_of_getElem? (i := 22) rfl)) (hw _ (List.mem_of_getElem? (i := 23) rfl)) (hw _ (List.mem_of_getElem? (i := 21) rfl)) (hw _ (List.mem_of_getElem? (i := 24) rfl)) (by decide) (rm_b l Z a0 hw a3 a1 cap nn h3 E_a3 F_rule_a3 F_cellCount_a3 F_wrapLoss_a3 F_sums_a3 F_steps_a3 F_cells_a3 F_plainSteps_a3 F_wrapFlips_a3 F_size_a3 E_a1 F_cellCount_a1 F_dividesOutright_a1 (Ne.symm ne_a1_a3) hnn hn1 hn4) rfl pd_6 rfl (hst := rfl) (W := 1) (Nat.le_of_eq rfl) (by decide) (by decide) (c2 := 9) (s2 := 53) rfl rfl (by decide) (by decide) (allS (Or.inr N3) all0) (q := 39) rfl ?_
    intro v4 T4 h4 O4 K4 q4
    obtain ⟨rfl, sa, ta, m_sa, m_ta, nst, F_sums_a3, F_steps_a3, F_size_a3, V_sa, V_ta⟩ := q4
    have E_a1 := E_a1.keep K4
    have F_cellCount_a1 := F_cellCount_a1.keep K4 (ninS ne_a1_a3 nin0)
    have F_dividesOutright_a1 := F_dividesOutright_a1.keep K4 (ninS ne_a1_a3 nin0)
    have E_a3 := E_a3.keep K4
    have N_sa : C.s.heap.size ≤ sa := Nat.le_trans O3.size m_sa
    have ne_a1_sa : a1 ≠ sa := Nat.ne_of_lt (Nat.lt_of_lt_of_le lt_a1 m_sa)
    have ne_a3_sa : a3 ≠ sa := Nat.ne_of_lt (Nat.lt_of_lt_of_le lt_a3 m_sa)
    have N_ta : C.s.heap.size ≤ ta := Nat.le_trans O3.size m_ta
    have ne_a1_ta : a1 ≠ ta := Nat.ne_of_lt (Nat.lt_of_lt_of_le lt_a1 m_ta)
    have ne_a3_ta : a3 ≠ ta := Nat.ne_of_lt (Nat.lt_of_lt_of_le lt_a3 m_ta)
    show Go C _ _ _ _ (T4.setTop (mkF C.m 39 #[.val (.int p0), .val (.int p1), .val (.long p2), .second, .val (.long p4), .second, .val (.int cap), .val (.int (0 : Int32)), .val (.ref a1), .unset, .unset] [(.ref a3)]))
    refine Jvm.OwnW.astore O4 at_39 rfl (L' := #[.val (.int p0), .val (.int p1), .val (.long p2), .second, .val (.long p4), .second, .val (.int cap), .val (.int (0 : Int32)), .val (.ref a1), .val (.ref a3), .unset]) rfl (q := 41) rfl ?_
    refine Jvm.OwnW.iload O4 at_41 rfl (q := 43) rfl ?_
    refine Jvm.OwnW.iconst O4 at_43 (r := (1 : Int32)) rfl (q := 44) rfl ?_
    refine Jvm.OwnW.icmpYes O4 at_44 (tlt (show (0 : Int32) < (1 : Int32) from (by decide))).1 (by decide) (q := 55) rfl ?_
    refine Jvm.OwnW.iload O4 at_55 rfl (q := 57) rfl ?_
    refine Jvm.OwnW.iconst O4 at_57 (r := (2 : Int32)) rfl (q := 58) rfl ?_
    refine Jvm.OwnW.icmpYes O4 at_58 (tlt (show (0 : Int32) < (2 : Int32) from (by decide))).1 (by decide) (q := 69) rfl ?_
    refine Jvm.OwnW.iload O4 at_69 rfl (q := 71) rfl ?_
    refine Jvm.OwnW.iconst O4 at_71 (r := (3 : Int32)) rfl (q := 72) rfl ?_
    refine Jvm.OwnW.icmpYes O4 at_72 (tlt (show (0 : Int32) < (3 : Int32) from (by decide))).1 (by decide) (q := 86) rfl ?_
    refine Jvm.OwnW.iload O4 at_86 rfl (q := 88) rfl ?_
    refine Jvm.OwnW.iconst O4 at_88 (r := (4 : Int32)) rfl (q := 89) rfl ?_
    refine Jvm.OwnW.icmpYes O4 at_89 (tlt (show (0 : Int32) < (4 : Int32) from (by decide))).1 (by decide) (q := 102) rfl ?_
    refine Jvm.OwnW.iload O4 at_102 rfl (q := 104) rfl ?_
    refine Jvm.OwnW.iload O4 at_104 rfl (q := 106) rfl ?_
    by_cases hc106 : (0 : Int32) = cap
    · refine Jvm.OwnW.icmpNo O4 at_106 (teq hc106).2 (q := 109) rfl ?_
      refine Jvm.OwnW.iconst O4 at_109 (r := (1 : Int32)) rfl (q := 110) rfl ?_
      refine Jvm.OwnW.goto O4 at_110 (by decide) (q := 114) rfl ?_
      refine Jvm.OwnW.istore O4 at_114 (L' := #[.val (.int p0), .val (.int p1), .val (.long p2), .second, .val (.long p4), .second, .val (.int cap), .val (.int (0 : Int32)), .val (.ref a1), .val (.ref a3), .val (.int (1 : Int32))]) rfl (q := 116) rfl ?_
      refine Jvm.OwnW.aload O4 at_116 rfl rfl (q := 118) rfl ?_
      refine Jvm.OwnW.callV0 O4 (y := (⟨"com/example/occupancy/occupancy/hash/internal/CellBatch", "isFull", "()Z"⟩ : MethodName)) (z := (⟨"com/example/occupancy/occupancy/hash/internal/CellBatch", "isFull", "()Z"⟩ : MethodName)) (a := a3) (argsL := []) (rest := []) at_118 (hw _ (List.mem_of_getElem? (i := 85) rfl)) (hw _ (List.mem_of_getElem? (i := 79) rfl)) (hw _ (List.mem_of_getElem? (i := 81) rfl)) rfl (hw _ (List.mem_of_getElem? (i := 80) rfl)) (hw _ (List.mem_of_getElem? (i := 21) rfl)) (hw _ (List.mem_of_getElem? (i := 82) rfl)) (by decide) (rm_f l Z a0 hw a3 sa (0 : Int32) cap nn (fun _ => .long (0 : Int64)) h4 E_a3 F_sums_a3 F_size_a3 V_sa hnn) E_a3 rfl pd_4 rfl (hst := rfl) (W := 0) (Nat.le_of_eq rfl) (by decide) (by decide) (c2 := 9) (s2 := 53) rfl rfl (by decide) (by decide) rfl rfl (q := 121) rfl ?_
      intro v5 T5 O5 q5
      obtain rfl := q5
      show Go C _ _ _ _ (T5.setTop (mkF C.m 121 #[.val (.int p0), .val (.int p1), .val (.long p2), .second, .val (.long p4), .second, .val (.int cap), .val (.int (0 : Int32)), .val (.ref a1), .val (.ref a3), .val (.int (1 : Int32))] [(.int (fn_f (0 : Int32) cap))]))
      refine Jvm.OwnW.iload O5 at_121 rfl (q := 123) rfl ?_
      refine Jvm.OwnW.icmpNo O5 at_123 (teq (show (fn_f (0 : Int32) cap) = (1 : Int32) from (by rw [fn_f, if_pos hc106]))).2 (q := 126) rfl ?_
      refine Jvm.OwnW.iconst O5 at_126 (r := (1 : Int32)) rfl (q := 127) rfl ?_
      refine Jvm.OwnW.goto O5 at_127 (by decide) (q := 131) rfl ?_
      exact Jvm.OwnW.retB O5 at_131 rfl (Or.inr rfl) (by decide) (by decide) rfl
    · refine Jvm.OwnW.icmpYes O4 at_106 (feq hc106).2 (by decide) (q := 113) rfl ?_
      refine Jvm.OwnW.iconst O4 at_113 (r := (0 : Int32)) rfl (q := 114) rfl ?_
      refine Jvm.OwnW.istore O4 at_114 (L' := #[.val (.int p0), .val (.int p1), .val (.long p2), .second, .val (.long p4), .second, .val (.int cap), .val (.int (0 : Int32)), .val (.ref a1), .val (.ref a3), .val (.int (0 : Int32))]) rfl (q := 116) rfl ?_
      refine Jvm.OwnW.aload O4 at_116 rfl rfl (q := 118) rfl ?_
      refine Jvm.OwnW.callV0 O4 (y := (⟨"com/example/occupancy/occupancy/hash/internal/CellBatch", "isFull", "()Z"⟩ : MethodName)) (z := (⟨"com/example/occupancy/occupancy/hash/internal/CellBatch", "isFull", "()Z"⟩ : MethodName)) (a := a3) (argsL := []) (rest := []) at_118 (hw _ (List.mem_of_getElem? (i := 85) rfl)) (hw _ (List.mem_of_getElem? (i := 79) rfl)) (hw _ (List.mem_of_getElem? (i := 81) rfl)) rfl (hw _ (List.mem_of_getElem? (i := 80) rfl)) (hw _ (List.mem_of_getElem? (i := 21) rfl)) (hw _ (List.mem_of_getElem? (i := 82) rfl)) (by decide) (rm_f l Z a0 hw a3 sa (0 : Int32) cap nn (fun _ => .long (0 : Int64)) h4 E_a3 F_sums_a3 F_size_a3 V_sa hnn) E_a3 rfl pd_4 rfl (hst := rfl) (W := 0) (Nat.le_of_eq rfl) (by decide) (by decide) (c2 := 9) (s2 := 53) rfl rfl (by decide) (by decide) rfl rfl (q := 121) rfl ?_
      intro v6 T6 O6 q6
      obtain rfl := q6
      show Go C _ _ _ _ (T6.setTop (mkF C.m 121 #[.val (.int p0), .val (.int p1), .val (.long p2), .second, .val (.long p4), .second, .val (.int cap), .val (.int (0 : Int32)), .val (.ref a1), .val (.ref a3), .val (.int (0 : Int32))] [(.int (fn_f (0 : Int32) cap))]))
      refine Jvm.OwnW.iload O6 at_121 rfl (q := 123) rfl ?_
      refine Jvm.OwnW.icmpNo O6 at_123 (teq (show (fn_f (0 : Int32) cap) = (0 : Int32) from (by rw [fn_f, if_neg hc106]))).2 (q := 126) rfl ?_
      refine Jvm.OwnW.iconst O6 at_126 (r := (1 : Int32)) rfl (q := 127) rfl ?_
      refine Jvm.OwnW.goto O6 at_127 (by decide) (q := 131) rfl ?_
      exact Jvm.OwnW.retB O6 at_131 rfl (Or.inr rfl) (by decide) (by decide) rfl
  · skip
    obtain rfl : n = (1 : Int32) := eq32 hkn
    show Go C _ _ _ _ (T.setTop (mkF C.m 16 #[.val (.int p0), .val (.int p1), .val (.long p2), .second, .val (.long p4), .second, .val (.int cap), .unset, .unset, .unset, .unset] [(.int (1 : Int32))]))
    refine Jvm.OwnW.istore O at_16 (L' := #[.val (.int p0), .val (.int p1), .val (.long p2), .second, .val (.long p4), .second, .val (.int cap), .val (.int (1 : Int32)), .unset, .unset, .unset]) rfl (q := 18) rfl ?_
    refine Jvm.OwnW.newO O at_18 (hw _ (List.mem_of_getElem? (i := 1) rfl)) (hw _ (List.mem_of_getElem? (i := 2) rfl)) (hw _ (List.mem_of_getElem? (i := 3) rfl)) (c2 := 1) (s2 := 4) rfl rfl (by decide) (by decide) (q := 21) rfl ?_
    intro a7 T7 h7 g7 N7 O7 X7 E_a7 D7
    have F_cellCount_a7 : Fld Z h7 a7 "com/example/occupancy/occupancy/hash/internal/CellRule" "cellCount" "J" (.long (0 : Int64)) := D7 (Or.inr (hw _ (List.mem_of_getElem? (i := 11) rfl))) (ty := .long) (by decide)
    have F_dividesOutright_a7 : Fld Z h7 a7 "com/example/occupancy/occupancy/hash/internal/CellRule" "dividesOutright" "Z" (.int (0 : Int32)) := D7 (Or.inr (hw _ (List.mem_of_getElem? (i := 14) rfl))) (ty := .boolean) (by decide)
    have F_reciprocal_a7 : Fld Z h7 a7 "com/example/occupancy/occupancy/hash/internal/CellRule" "reciprocal" "J" (.long (0 : Int64)) := D7 (Or.inr (hw _ (List.mem_of_getElem? (i := 16) rfl))) (ty := .long) (by decide)
    have F_shift_a7 : Fld Z h7 a7 "com/example/occupancy/occupancy/hash/internal/CellRule" "shift" "I" (.int (0 : Int32)) := D7 (Or.inr (hw _ (List.mem_of_getElem? (i := 18) rfl))) (ty := .int) (by decide)
    refine Jvm.OwnW.dup O7 at_21 rfl (q := 22) rfl ?_
    refine Jvm.OwnW.lconst O7 at_22 (r := (1 : Int64)) rfl (q := 23) rfl ?_
    refine Jvm.OwnW.callI O7 (y := (⟨"com/example/occupancy/occupancy/hash/internal/CellRule", "<init>", "(J)V"⟩ : MethodName)) (a := a7) (argsL := [(.long (1 : Int64))]) (rest := [(.ref a7)]) at_23 rfl (hw _ (List.mem_of_getElem? (i := 4) rfl)) (hw _ (List.mem_of_getElem? (i := 5) rfl)) (hw _ (List.mem_of_getElem? (i := 3) rfl)) (hw _ (List.mem_of_getElem? (i := 6) rfl)) (by decide) (rm_r l Z a0 hw a7 h7 E_a7 F_cellCount_a7 F_dividesOutright_a7 F_reciprocal_a7 F_shift_a7) rfl pd_5 rfl (hst := rfl) (W := 1) (Nat.le_of_eq rfl) (by decide) (by decide) (c2 := 1) (s2 := 4) rfl rfl (by decide) (by decide) (allS (Or.inr N7) all0) (q := 26) rfl ?_
    intro v8 T8 h8 O8 K8 q8
    obtain ⟨rfl, F_cellCount_a7, F_dividesOutright_a7⟩ := q8
    have E_a7 := E_a7.keep K8
    show Go C _ _ _ _ (T8.setTop (mkF C.m 26 #[.val (.int p0), .val (.int p1), .val (.long p2), .second, .val (.long p4), .second, .val (.int cap), .val (.int (1 : Int32)), .unset, .unset, .unset] [(.ref a7)]))
    refine Jvm.OwnW.astore O8 at_26 rfl (L' := #[.val (.int p0), .val (.int p1), .val (.long p2), .second, .val (.long p4), .second, .val (.int cap), .val (.int (1 : Int32)), .val (.ref a7), .unset, .unset]) rfl (q := 28) rfl ?_
    refine Jvm.OwnW.newO O8 at_28 (hw _ (List.mem_of_getElem? (i := 19) rfl)) (hw _ (List.mem_of_getElem? (i := 20) rfl)) (hw _ (List.mem_of_getElem? (i := 21) rfl)) (c2 := 2) (s2 := 13) rfl rfl (by decide) (by decide) (q := 31) rfl ?_
    intro a9 T9 h9 g9 N9 O9 X9 E_a9 D9
    have ne_a7_a9 : a7 ≠ a9 := Nat.ne_of_lt (Nat.lt_of_lt_of_le E_a7.lt (Nat.le_of_eq g9.symm))
    have E_a7 := E_a7.ext X9
    have F_cellCount_a7 := F_cellCount_a7.ext X9
    have F_dividesOutright_a7 := F_dividesOutright_a7.ext X9
    have F_rule_a9 : Fld Z h9 a9 "com/example/occupancy/occupancy/hash/internal/CellBatch" "rule" "Lcom/example/occupancy/occupancy/hash/internal/CellRule;" .null := D9 (Or.inr (hw _ (List.mem_of_getElem? (i := 41) rfl))) (ty := (.object "com/example/occupancy/occupancy/hash/internal/CellRule")) (by decide)
    have F_cellCount_a9 : Fld Z h9 a9 "com/example/occupancy/occupancy/hash/internal/CellBatch" "cellCount" "J" (.long (0 : Int64)) := D9 (Or.inr (hw _ (List.mem_of_getElem? (i := 48) rfl))) (ty := .long) (by decide)
    have F_wrapLoss_a9 : Fld Z h9 a9 "com/example/occupancy/occupancy/hash/internal/CellBatch" "wrapLoss" "J" (.long (0 : Int64)) := D9 (Or.inr (hw _ (List.mem_of_getElem? (i := 61) rfl))) (ty := .long) (by decide)
    have F_sums_a9 : Fld Z h9 a9 "com/example/occupancy/occupancy/hash/internal/CellBatch" "sums" "[J" .null := D9 (Or.inr (hw _ (List.mem_of_getElem? (i := 64) rfl))) (ty := (.array .long)) (by decide)
    have F_steps_a9 : Fld Z h9 a9 "com/example/occupancy/occupancy/hash/internal/CellBatch" "steps" "[J" .null := D9 (Or.inr (hw _ (List.mem_of_getElem? (i := 66) rfl))) (ty := (.array .long)) (by decide)
    have F_cells_a9 : Fld Z h9 a9 "com/example/occupancy/occupancy/hash/internal/CellBatch" "cells" "[J" .null := D9 (Or.inr (hw _ (List.mem_of_getElem? (i := 68) rfl))) (ty := (.array .long)) (by decide)
    have F_plainSteps_a9 : Fld Z h9 a9 "com/example/occupancy/occupancy/hash/internal/CellBatch" "plainSteps" "[J" .null := D9 (Or.inr (hw _ (List.mem_of_getElem? (i := 70) rfl))) (ty := (.array .long)) (by decide)
    have F_wrapFlips_a9 : Fld Z h9 a9 "com/example/occupancy/occupancy/hash/internal/CellBatch" "wrapFlips" "[J" .null := D9 (Or.inr (hw _ (List.mem_of_getElem? (i := 72) rfl))) (ty := (.array .long)) (by decide)
    have F_size_a9 : Fld Z h9 a9 "com/example/occupancy/occupancy/hash/internal/CellBatch" "size" "I" (.int (0 : Int32)) := D9 (Or.inl (hw _ (List.mem_of_getElem? (i := 84) rfl))) (ty := .int) (by decide)
    refine Jvm.OwnW.dup O9 at_31 rfl (q := 32) rfl ?_
    refine Jvm.OwnW.aload O9 at_32 rfl rfl (q := 34) rfl ?_
    refine Jvm.OwnW.iload O9 at_34 rfl (q := 36) rfl ?_
    have lt_a7 := E_a7.lt
    have lt_a9 := E_a9.lt
    refine Jvm.OwnW.callI O9 (y := (⟨"com/example/occupancy/occupancy/hash/internal/CellBatch", "<init>", "(Lcom/example/occupancy/occupancy/hash/internal/CellRule;I)V"⟩ : MethodName)) (a := a9) (argsL := [(.ref a7), (.int cap)]) (rest := [(.ref a9)]) at_36 rfl (hw _ (List.mem_of_getElem? (i := 22) rfl)) (hw _ (List.mem_of_getElem? (i := 23) rfl)) (hw _ (List.mem_of_getElem? (i := 21) rfl)) (hw _ (List.mem_of_getElem? (i := 24) rfl)) (by decide) (rm_b l Z a0 hw a9 a7 cap nn h9 E_a9 F_rule_a9 F_cellCount_a9 F_wrapLoss_a9 F_sums_a9 F_steps_a9 F_cells_a9 F_plainSteps_a9 F_wrapFlips_a9 F_size_a9 E_a7 F_cellCount_a7 F_dividesOutright_a7 (Ne.symm ne_a7_a9) hnn hn1 hn4) rfl pd_6 rfl (hst := rfl) (W := 1) (Nat.le_of_eq rfl) (by decide) (by decide) (c2 := 9) (s2 := 53) rfl rfl (by decide) (by decide) (allS (Or.inr N9) all0) (q := 39) rfl ?_
    intro v10 T10 h10 O10 K10 q10
    obtain ⟨rfl, sa, ta, m_sa, m_ta, nst, F_sums_a9, F_steps_a9, F_size_a9, V_sa, V_ta⟩ := q10
    have E_a7 := E_a7.keep K10
    have F_cellCount_a7 := F_cellCount_a7.keep K10 (ninS ne_a7_a9 nin0)
    have F_dividesOutright_a7 := F_dividesOutright_a7.keep K10 (ninS ne_a7_a9 nin0)
    have E_a9 := E_a9.keep K10
    have N_sa : C.s.heap.size ≤ sa := Nat.le_trans O9.size m_sa
    have ne_a7_sa : a7 ≠ sa := Nat.ne_of_lt (Nat.lt_of_lt_of_le lt_a7 m_sa)
    have ne_a9_sa : a9 ≠ sa := Nat.ne_of_lt (Nat.lt_of_lt_of_le lt_a9 m_sa)
    have N_ta : C.s.heap.size ≤ ta := Nat.le_trans O9.size m_ta
    have ne_a7_ta : a7 ≠ ta := Nat.ne_of_lt (Nat.lt_of_lt_of_le lt_a7 m_ta)
    have ne_a9_ta : a9 ≠ ta := Nat.ne_of_lt (Nat.lt_of_lt_of_le lt_a9 m_ta)
    show Go C _ _ _ _ (T10.setTop (mkF C.m 39 #[.val (.int p0), .val (.int p1), .val (.long p2), .second, .val (.long p4), .second, .val (.int cap), .val (.int (1 : Int32)), .val (.ref a7), .unset, .unset] [(.ref a9)]))
    refine Jvm.OwnW.astore O10 at_39 rfl (L' := #[.val (.int p0), .val (.int p1), .val (.long p2), .second, .val (.long p4), .second, .val (.int cap), .val (.int (1 : Int32)), .val (.ref a7), .val (.ref a9), .unset]) rfl (q := 41) rfl ?_
    refine Jvm.OwnW.iload O10 at_41 rfl (q := 43) rfl ?_
    refine Jvm.OwnW.iconst O10 at_43 (r := (1 : Int32)) rfl (q := 44) rfl ?_
    refine Jvm.OwnW.icmpNo O10 at_44 (flt (show ¬ ((1 : Int32) < (1 : Int32)) from (by decide))).1 (q := 47) rfl ?_
    refine Jvm.OwnW.aload O10 at_47 rfl rfl (q := 49) rfl ?_
    refine Jvm.OwnW.lloadN O10 at_49 rfl (q := 50) rfl ?_
    refine Jvm.OwnW.lload O10 at_50 rfl (q := 52) rfl ?_
    refine Jvm.OwnW.callV O10 (y := (⟨"com/example/occupancy/occupancy/hash/internal/CellBatch", "add", "(JJ)V"⟩ : MethodName)) (z := (⟨"com/example/occupancy/occupancy/hash/internal/CellBatch", "add", "(JJ)V"⟩ : MethodName)) (a := a9) (argsL := [(.long p2), (.long p4)]) (rest := []) at_52 (hw _ (List.mem_of_getElem? (i := 73) rfl)) (hw _ (List.mem_of_getElem? (i := 74) rfl)) (hw _ (List.mem_of_getElem? (i := 76) rfl)) rfl (hw _ (List.mem_of_getElem? (i := 75) rfl)) (hw _ (List.mem_of_getElem? (i := 21) rfl)) (hw _ (List.mem_of_getElem? (i := 77) rfl)) (by decide) (rm_a l Z a0 hw a9 p2 p4 sa ta (0 : Int32) cap (1 : Int32) nn 0 (fun _ => .long (0 : Int64)) (fun _ => .long (0 : Int64)) h10 E_a9 F_sums_a9 F_steps_a9 F_size_a9 V_sa V_ta ne_a9_sa ne_a9_ta nst hnn rfl (by omega) rfl) E_a9 rfl pd_7 rfl (hst := rfl) (W := 0) (Nat.le_of_eq rfl) (by decide) (by decide) (c2 := 9) (s2 := 53) rfl rfl (by decide) (by decide) (allS (Or.inr N9) (allS (Or.inr N_sa) (allS (Or.inr N_ta) all0))) (q := 55) rfl ?_
    intro v11 T11 h11 O11 K11 q11
    obtain ⟨rfl, F_sums_a9, F_steps_a9, F_size_a9, ⟨f11, V_sa⟩, ⟨g11, V_ta⟩⟩ := q11
    have E_a7 := E_a7.keep K11
    have F_cellCount_a7 := F_cellCount_a7.keep K11 (ninS ne_a7_a9 (ninS ne_a7_sa (ninS ne_a7_ta nin0)))
    have F_dividesOutright_a7 := F_dividesOutright_a7.keep K11 (ninS ne_a7_a9 (ninS ne_a7_sa (ninS ne_a7_ta nin0)))
    have E_a9 := E_a9.keep K11
    show Go C _ _ _ _ (T11.setTop (mkF C.m 55 #[.val (.int p0), .val (.int p1), .val (.long p2), .second, .val (.long p4), .second, .val (.int cap), .val (.int (1 : Int32)), .val (.ref a7), .val (.ref a9), .unset] []))
    refine Jvm.OwnW.iload O11 at_55 rfl (q := 57) rfl ?_
    refine Jvm.OwnW.iconst O11 at_57 (r := (2 : Int32)) rfl (q := 58) rfl ?_
    refine Jvm.OwnW.icmpYes O11 at_58 (tlt (show (1 : Int32) < (2 : Int32) from (by decide))).1 (by decide) (q := 69) rfl ?_
    refine Jvm.OwnW.iload O11 at_69 rfl (q := 71) rfl ?_
    refine Jvm.OwnW.iconst O11 at_71 (r := (3 : Int32)) rfl (q := 72) rfl ?_
    refine Jvm.OwnW.icmpYes O11 at_72 (tlt (show (1 : Int32) < (3 : Int32) from (by decide))).1 (by decide) (q := 86) rfl ?_
    refine Jvm.OwnW.iload O11 at_86 rfl (q := 88) rfl ?_
    refine Jvm.OwnW.iconst O11 at_88 (r := (4 : Int32)) rfl (q := 89) rfl ?_
    refine Jvm.OwnW.icmpYes O11 at_89 (tlt (show (1 : Int32) < (4 : Int32) from (by decide))).1 (by decide) (q := 102) rfl ?_
    refine Jvm.OwnW.iload O11 at_102 rfl (q := 104) rfl ?_
    refine Jvm.OwnW.iload O11 at_104 rfl (q := 106) rfl ?_
    by_cases hc106 : (1 : Int32) = cap
    · refine Jvm.OwnW.icmpNo O11 at_106 (teq hc106).2 (q := 109) rfl ?_
      refine Jvm.OwnW.iconst O11 at_109 (r := (1 : Int32)) rfl (q := 110) rfl ?_
      refine Jvm.OwnW.goto O11 at_110 (by decide) (q := 114) rfl ?_
      refine Jvm.OwnW.istore O11 at_114 (L' := #[.val (.int p0), .val (.int p1), .val (.long p2), .second, .val (.long p4), .second, .val (.int cap), .val (.int (1 : Int32)), .val (.ref a7), .val (.ref a9), .val (.int (1 : Int32))]) rfl (q := 116) rfl ?_
      refine Jvm.OwnW.aload O11 at_116 rfl rfl (q := 118) rfl ?_
      refine Jvm.OwnW.callV0 O11 (y := (⟨"com/example/occupancy/occupancy/hash/internal/CellBatch", "isFull", "()Z"⟩ : MethodName)) (z := (⟨"com/example/occupancy/occupancy/hash/internal/CellBatch", "isFull", "()Z"⟩ : MethodName)) (a := a9) (argsL := []) (rest := []) at_118 (hw _ (List.mem_of_getElem? (i := 85) rfl)) (hw _ (List.mem_of_getElem? (i := 79) rfl)) (hw _ (List.mem_of_getElem? (i := 81) rfl)) rfl (hw _ (List.mem_of_getElem? (i := 80) rfl)) (hw _ (List.mem_of_getElem? (i := 21) rfl)) (hw _ (List.mem_of_getElem? (i := 82) rfl)) (by decide) (rm_f l Z a0 hw a9 sa (1 : Int32) cap nn f11 h11 E_a9 F_sums_a9 F_size_a9 V_sa hnn) E_a9 rfl pd_4 rfl (hst := rfl) (W := 0) (Nat.le_of_eq rfl) (by decide) (by decide) (c2 := 9) (s2 := 53) rfl rfl (by decide) (by decide) rfl rfl (q := 121) rfl ?_
      intro v12 T12 O12 q12
      obtain rfl := q12
      show Go C _ _ _ _ (T12.setTop (mkF C.m 121 #[.val (.int p0), .val (.int p1), .val (.long p2), .second, .val (.long p4), .second, .val (.int cap), .val (.int (1 : Int32)), .val (.ref a7), .val (.ref a9), .val (.int (1 : Int32))] [(.int (fn_f (1 : Int32) cap))]))
      refine Jvm.OwnW.iload O12 at_121 rfl (q := 123) rfl ?_
      refine Jvm.OwnW.icmpNo O12 at_123 (teq (show (fn_f (1 : Int32) cap) = (1 : Int32) from (by rw [fn_f, if_pos hc106]))).2 (q := 126) rfl ?_
      refine Jvm.OwnW.iconst O12 at_126 (r := (1 : Int32)) rfl (q := 127) rfl ?_
      refine Jvm.OwnW.goto O12 at_127 (by decide) (q := 131) rfl ?_
      exact Jvm.OwnW.retB O12 at_131 rfl (Or.inr rfl) (by decide) (by decide) rfl
    · refine Jvm.OwnW.icmpYes O11 at_106 (feq hc106).2 (by decide) (q := 113) rfl ?_
      refine Jvm.OwnW.iconst O11 at_113 (r := (0 : Int32)) rfl (q := 114) rfl ?_
      refine Jvm.OwnW.istore O11 at_114 (L' := #[.val (.int p0), .val (.int p1), .val (.long p2), .second, .val (.long p4), .second, .val (.int cap), .val (.int (1 : Int32)), .val (.ref a7), .val (.ref a9), .val (.int (0 : Int32))]) rfl (q := 116) rfl ?_
      refine Jvm.OwnW.aload O11 at_116 rfl rfl (q := 118) rfl ?_
      refine Jvm.OwnW.callV0 O11 (y := (⟨"com/example/occupancy/occupancy/hash/internal/CellBatch", "isFull", "()Z"⟩ : MethodName)) (z := (⟨"com/example/occupancy/occupancy/hash/internal/CellBatch", "isFull", "()Z"⟩ : MethodName)) (a := a9) (argsL := []) (rest := []) at_118 (hw _ (List.mem_of_getElem? (i := 85) rfl)) (hw _ (List.mem_of_getElem? (i := 79) rfl)) (hw _ (List.mem_of_getElem? (i := 81) rfl)) rfl (hw _ (List.mem_of_getElem? (i := 80) rfl)) (hw _ (List.mem_of_getElem? (i := 21) rfl)) (hw _ (List.mem_of_getElem? (i := 82) rfl)) (by decide) (rm_f l Z a0 hw a9 sa (1 : Int32) cap nn f11 h11 E_a9 F_sums_a9 F_size_a9 V_sa hnn) E_a9 rfl pd_4 rfl (hst := rfl) (W := 0) (Nat.le_of_eq rfl) (by decide) (by decide) (c2 := 9) (s2 := 53) rfl rfl (by decide) (by decide) rfl rfl (q := 121) rfl ?_
      intro v13 T13 O13 q13
      obtain rfl := q13
      show Go C _ _ _ _ (T13.setTop (mkF C.m 121 #[.val (.int p0), .val (.int p1), .val (.long p2), .second, .val (.long p4), .second, .val (.int cap), .val (.int (1 : Int32)), .val (.ref a7), .val (.ref a9), .val (.int (0 : Int32))] [(.int (fn_f (1 : Int32) cap))]))
      refine Jvm.OwnW.iload O13 at_121 rfl (q := 123) rfl ?_
      refine Jvm.OwnW.icmpNo O13 at_123 (teq (show (fn_f (1 : Int32) cap) = (0 : Int32) from (by rw [fn_f, if_neg hc106]))).2 (q := 126) rfl ?_
      refine Jvm.OwnW.iconst O13 at_126 (r := (1 : Int32)) rfl (q := 127) rfl ?_
      refine Jvm.OwnW.goto O13 at_127 (by decide) (q := 131) rfl ?_
      exact Jvm.OwnW.retB O13 at_131 rfl (Or.inr rfl) (by decide) (by decide) rfl
  · skip
    obtain rfl : n = (2 : Int32) := eq32 hkn
    show Go C _ _ _ _ (T.setTop (mkF C.m 16 #[.val (.int p0), .val (.int p1), .val (.long p2), .second, .val (.long p4), .second, .val (.int cap), .unset, .unset, .unset, .unset] [(.int (2 : Int32))]))
    refine Jvm.OwnW.istore O at_16 (L' := #[.val (.int p0), .val (.int p1), .val (.long p2), .second, .val (.long p4), .second, .val (.int cap), .val (.int (2 : Int32)), .unset, .unset, .unset]) rfl (q := 18) rfl ?_
    refine Jvm.OwnW.newO O at_18 (hw _ (List.mem_of_getElem? (i := 1) rfl)) (hw _ (List.mem_of_getElem? (i := 2) rfl)) (hw _ (List.mem_of_getElem? (i := 3) rfl)) (c2 := 1) (s2 := 4) rfl rfl (by decide) (by decide) (q := 21) rfl ?_
    intro a14 T14 h14 g14 N14 O14 X14 E_a14 D14
    have F_cellCount_a14 : Fld Z h14 a14 "com/example/occupancy/occupancy/hash/internal/CellRule" "cellCount" "J" (.long (0 : Int64)) := D14 (Or.inr (hw _ (List.mem_of_getElem? (i := 11) rfl))) (ty := .long) (by decide)
    have F_dividesOutright_a14 : Fld Z h14 a14 "com/example/occupancy/occupancy/hash/internal/CellRule" "dividesOutright" "Z" (.int (0 : Int32)) := D14 (Or.inr (hw _ (List.mem_of_getElem? (i := 14) rfl))) (ty := .boolean) (by decide)
    have F_reciprocal_a14 : Fld Z h14 a14 "com/example/occupancy/occupancy/hash/internal/CellRule" "reciprocal" "J" (.long (0 : Int64)) := D14 (Or.inr (hw _ (List.mem_of_getElem? (i := 16) rfl))) (ty := .long) (by decide)
    have F_shift_a14 : Fld Z h14 a14 "com/example/occupancy/occupancy/hash/internal/CellRule" "shift" "I" (.int (0 : Int32)) := D14 (Or.inr (hw _ (List.mem_of_getElem? (i := 18) rfl))) (ty := .int) (by decide)
    refine Jvm.OwnW.dup O14 at_21 rfl (q := 22) rfl ?_
    refine Jvm.OwnW.lconst O14 at_22 (r := (1 : Int64)) rfl (q := 23) rfl ?_
    refine Jvm.OwnW.callI O14 (y := (⟨"com/example/occupancy/occupancy/hash/internal/CellRule", "<init>", "(J)V"⟩ : MethodName)) (a := a14) (argsL := [(.long (1 : Int64))]) (rest := [(.ref a14)]) at_23 rfl (hw _ (List.mem_of_getElem? (i := 4) rfl)) (hw _ (List.mem_of_getElem? (i := 5) rfl)) (hw _ (List.mem_of_getElem? (i := 3) rfl)) (hw _ (List.mem_of_getElem? (i := 6) rfl)) (by decide) (rm_r l Z a0 hw a14 h14 E_a14 F_cellCount_a14 F_dividesOutright_a14 F_reciprocal_a14 F_shift_a14) rfl pd_5 rfl (hst := rfl) (W := 1) (Nat.le_of_eq rfl) (by decide) (by decide) (c2 := 1) (s2 := 4) rfl rfl (by decide) (by decide) (allS (Or.inr N14) all0) (q := 26) rfl ?_
    intro v15 T15 h15 O15 K15 q15
    obtain ⟨rfl, F_cellCount_a14, F_dividesOutright_a14⟩ := q15
    have E_a14 := E_a14.keep K15
    show Go C _ _ _ _ (T15.setTop (mkF C.m 26 #[.val (.int p0), .val (.int p1), .val (.long p2), .second, .val (.long p4), .second, .val (.int cap), .val (.int (2 : Int32)), .unset, .unset, .unset] [(.ref a14)]))
    refine Jvm.OwnW.astore O15 at_26 rfl (L' := #[.val (.int p0), .val (.int p1), .val (.long p2), .second, .val (.long p4), .second, .val (.int cap), .val (.int (2 : Int32)), .val (.ref a14), .unset, .unset]) rfl (q := 28) rfl ?_
    refine Jvm.OwnW.newO O15 at_28 (hw _ (List.mem_of_getElem? (i := 19) rfl)) (hw _ (List.mem_of_getElem? (i := 20) rfl)) (hw _ (List.mem_of_getElem? (i := 21) rfl)) (c2 := 2) (s2 := 13) rfl rfl (by decide) (by decide) (q := 31) rfl ?_
    intro a16 T16 h16 g16 N16 O16 X16 E_a16 D16
    have ne_a14_a16 : a14 ≠ a16 := Nat.ne_of_lt (Nat.lt_of_lt_of_le E_a14.lt (Nat.le_of_eq g16.symm))
    have E_a14 := E_a14.ext X16
    have F_cellCount_a14 := F_cellCount_a14.ext X16
    have F_dividesOutright_a14 := F_dividesOutright_a14.ext X16
    have F_rule_a16 : Fld Z h16 a16 "com/example/occupancy/occupancy/hash/internal/CellBatch" "rule" "Lcom/example/occupancy/occupancy/hash/internal/CellRule;" .null := D16 (Or.inr (hw _ (List.mem_of_getElem? (i := 41) rfl))) (ty := (.object "com/example/occupancy/occupancy/hash/internal/CellRule")) (by decide)
    have F_cellCount_a16 : Fld Z h16 a16 "com/example/occupancy/occupancy/hash/internal/CellBatch" "cellCount" "J" (.long (0 : Int64)) := D16 (Or.inr (hw _ (List.mem_of_getElem? (i := 48) rfl))) (ty := .long) (by decide)
    have F_wrapLoss_a16 : Fld Z h16 a16 "com/example/occupancy/occupancy/hash/internal/CellBatch" "wrapLoss" "J" (.long (0 : Int64)) := D16 (Or.inr (hw _ (List.mem_of_getElem? (i := 61) rfl))) (ty := .long) (by decide)
    have F_sums_a16 : Fld Z h16 a16 "com/example/occupancy/occupancy/hash/internal/CellBatch" "sums" "[J" .null := D16 (Or.inr (hw _ (List.mem_of_getElem? (i := 64) rfl))) (ty := (.array .long)) (by decide)
    have F_steps_a16 : Fld Z h16 a16 "com/example/occupancy/occupancy/hash/internal/CellBatch" "steps" "[J" .null := D16 (Or.inr (hw _ (List.mem_of_getElem? (i := 66) rfl))) (ty := (.array .long)) (by decide)
    have F_cells_a16 : Fld Z h16 a16 "com/example/occupancy/occupancy/hash/internal/CellBatch" "cells" "[J" .null := D16 (Or.inr (hw _ (List.mem_of_getElem? (i := 68) rfl))) (ty := (.array .long)) (by decide)
    have F_plainSteps_a16 : Fld Z h16 a16 "com/example/occupancy/occupancy/hash/internal/CellBatch" "plainSteps" "[J" .null := D16 (Or.inr (hw _ (List.mem_of_getElem? (i := 70) rfl))) (ty := (.array .long)) (by decide)
    have F_wrapFlips_a16 : Fld Z h16 a16 "com/example/occupancy/occupancy/hash/internal/CellBatch" "wrapFlips" "[J" .null := D16 (Or.inr (hw _ (List.mem_of_getElem? (i := 72) rfl))) (ty := (.array .long)) (by decide)
    have F_size_a16 : Fld Z h16 a16 "com/example/occupancy/occupancy/hash/internal/CellBatch" "size" "I" (.int (0 : Int32)) := D16 (Or.inl (hw _ (List.mem_of_getElem? (i := 84) rfl))) (ty := .int) (by decide)
    refine Jvm.OwnW.dup O16 at_31 rfl (q := 32) rfl ?_
    refine Jvm.OwnW.aload O16 at_32 rfl rfl (q := 34) rfl ?_
    refine Jvm.OwnW.iload O16 at_34 rfl (q := 36) rfl ?_
    have lt_a14 := E_a14.lt
    have lt_a16 := E_a16.lt
    refine Jvm.OwnW.callI O16 (y := (⟨"com/example/occupancy/occupancy/hash/internal/CellBatch", "<init>", "(Lcom/example/occupancy/occupancy/hash/internal/CellRule;I)V"⟩ : MethodName)) (a := a16) (argsL := [(.ref a14), (.int cap)]) (rest := [(.ref a16)]) at_36 rfl (hw _ (List.mem_of_getElem? (i := 22) rfl)) (hw _ (List.mem_of_getElem? (i := 23) rfl)) (hw _ (List.mem_of_getElem? (i := 21) rfl)) (hw _ (List.mem_of_getElem? (i := 24) rfl)) (by decide) (rm_b l Z a0 hw a16 a14 cap nn h16 E_a16 F_rule_a16 F_cellCount_a16 F_wrapLoss_a16 F_sums_a16 F_steps_a16 F_cells_a16 F_plainSteps_a16 F_wrapFlips_a16 F_size_a16 E_a14 F_cellCount_a14 F_dividesOutright_a14 (Ne.symm ne_a14_a16) hnn hn1 hn4) rfl pd_6 rfl (hst := rfl) (W := 1) (Nat.le_of_eq rfl) (by decide) (by decide) (c2 := 9) (s2 := 53) rfl rfl (by decide) (by decide) (allS (Or.inr N16) all0) (q := 39) rfl ?_
    intro v17 T17 h17 O17 K17 q17
    obtain ⟨rfl, sa, ta, m_sa, m_ta, nst, F_sums_a16, F_steps_a16, F_size_a16, V_sa, V_ta⟩ := q17
    have E_a14 := E_a14.keep K17
    have F_cellCount_a14 := F_cellCount_a14.keep K17 (ninS ne_a14_a16 nin0)
    have F_dividesOutright_a14 := F_dividesOutright_a14.keep K17 (ninS ne_a14_a16 nin0)
    have E_a16 := E_a16.keep K17
    have N_sa : C.s.heap.size ≤ sa := Nat.le_trans O16.size m_sa
    have ne_a14_sa : a14 ≠ sa := Nat.ne_of_lt (Nat.lt_of_lt_of_le lt_a14 m_sa)
    have ne_a16_sa : a16 ≠ sa := Nat.ne_of_lt (Nat.lt_of_lt_of_le lt_a16 m_sa)
    have N_ta : C.s.heap.size ≤ ta := Nat.le_trans O16.size m_ta
    have ne_a14_ta : a14 ≠ ta := Nat.ne_of_lt (Nat.lt_of_lt_of_le lt_a14 m_ta)
    have ne_a16_ta : a16 ≠ ta := Nat.ne_of_lt (Nat.lt_of_lt_of_le lt_a16 m_ta)
    show Go C _ _ _ _ (T17.setTop (mkF C.m 39 #[.val (.int p0), .val (.int p1), .val (.long p2), .second, .val (.long p4), .second, .val (.int cap), .val (.int (2 : Int32)), .val (.ref a14), .unset, .unset] [(.ref a16)]))
    refine Jvm.OwnW.astore O17 at_39 rfl (L' := #[.val (.int p0), .val (.int p1), .val (.long p2), .second, .val (.long p4), .second, .val (.int cap), .val (.int (2 : Int32)), .val (.ref a14), .val (.ref a16), .unset]) rfl (q := 41) rfl ?_
    refine Jvm.OwnW.iload O17 at_41 rfl (q := 43) rfl ?_
    refine Jvm.OwnW.iconst O17 at_43 (r := (1 : Int32)) rfl (q := 44) rfl ?_
    refine Jvm.OwnW.icmpNo O17 at_44 (flt (show ¬ ((2 : Int32) < (1 : Int32)) from (by decide))).1 (q := 47) rfl ?_
    refine Jvm.OwnW.aload O17 at_47 rfl rfl (q := 49) rfl ?_
    refine Jvm.OwnW.lloadN O17 at_49 rfl (q := 50) rfl ?_
    refine Jvm.OwnW.lload O17 at_50 rfl (q := 52) rfl ?_
    refine Jvm.OwnW.callV O17 (y := (⟨"com/example/occupancy/occupancy/hash/internal/CellBatch", "add", "(JJ)V"⟩ : MethodName)) (z := (⟨"com/example/occupancy/occupancy/hash/internal/CellBatch", "add", "(JJ)V"⟩ : MethodName)) (a := a16) (argsL := [(.long p2), (.long p4)]) (rest := []) at_52 (hw _ (List.mem_of_getElem? (i := 73) rfl)) (hw _ (List.mem_of_getElem? (i := 74) rfl)) (hw _ (List.mem_of_getElem? (i := 76) rfl)) rfl (hw _ (List.mem_of_getElem? (i := 75) rfl)) (hw _ (List.mem_of_getElem? (i := 21) rfl)) (hw _ (List.mem_of_getElem? (i := 77) rfl)) (by decide) (rm_a l Z a0 hw a16 p2 p4 sa ta (0 : Int32) cap (1 : Int32) nn 0 (fun _ => .long (0 : Int64)) (fun _ => .long (0 : Int64)) h17 E_a16 F_sums_a16 F_steps_a16 F_size_a16 V_sa V_ta ne_a16_sa ne_a16_ta nst hnn rfl (by omega) rfl) E_a16 rfl pd_7 rfl (hst := rfl) (W := 0) (Nat.le_of_eq rfl) (by decide) (by decide) (c2 := 9) (s2 := 53) rfl rfl (by decide) (by decide) (allS (Or.inr N16) (allS (Or.inr N_sa) (allS (Or.inr N_ta) all0))) (q := 55) rfl ?_
    intro v18 T18 h18 O18 K18 q18
    obtain ⟨rfl, F_sums_a16, F_steps_a16, F_size_a16, ⟨f18, V_sa⟩, ⟨g18, V_ta⟩⟩ := q18
    have E_a14 := E_a14.keep K18
    have F_cellCount_a14 := F_cellCount_a14.keep K18 (ninS ne_a14_a16 (ninS ne_a14_sa (ninS ne_a14_ta nin0)))
    have F_dividesOutright_a14 := F_dividesOutright_a14.keep K18 (ninS ne_a14_a16 (ninS ne_a14_sa (ninS ne_a14_ta nin0)))
    have E_a16 := E_a16.keep K18
    show Go C _ _ _ _ (T18.setTop (mkF C.m 55 #[.val (.int p0), .val (.int p1), .val (.long p2), .second, .val (.long p4), .second, .val (.int cap), .val (.int (2 : Int32)), .val (.ref a14), .val (.ref a16), .unset] []))
    refine Jvm.OwnW.iload O18 at_55 rfl (q := 57) rfl ?_
    refine Jvm.OwnW.iconst O18 at_57 (r := (2 : Int32)) rfl (q := 58) rfl ?_
    refine Jvm.OwnW.icmpNo O18 at_58 (flt (show ¬ ((2 : Int32) < (2 : Int32)) from (by decide))).1 (q := 61) rfl ?_
    refine Jvm.OwnW.aload O18 at_61 rfl rfl (q := 63) rfl ?_
    refine Jvm.OwnW.lload O18 at_63 rfl (q := 65) rfl ?_
    refine Jvm.OwnW.lloadN O18 at_65 rfl (q := 66) rfl ?_
    refine Jvm.OwnW.callV O18 (y := (⟨"com/example/occupancy/occupancy/hash/internal/CellBatch", "add", "(JJ)V"⟩ : MethodName)) (z := (⟨"com/example/occupancy/occupancy/hash/internal/CellBatch", "add", "(JJ)V"⟩ : MethodName)) (a := a16) (argsL := [(.long p4), (.long p2)]) (rest := []) at_66 (hw _ (List.mem_of_getElem? (i := 73) rfl)) (hw _ (List.mem_of_getElem? (i := 74) rfl)) (hw _ (List.mem_of_getElem? (i := 76) rfl)) rfl (hw _ (List.mem_of_getElem? (i := 75) rfl)) (hw _ (List.mem_of_getElem? (i := 21) rfl)) (hw _ (List.mem_of_getElem? (i := 77) rfl)) (by decide) (rm_a l Z a0 hw a16 p4 p2 sa ta (1 : Int32) cap (2 : Int32) nn 1 f18 g18 h18 E_a16 F_sums_a16 F_steps_a16 F_size_a16 V_sa V_ta ne_a16_sa ne_a16_ta nst hnn rfl (by omega) rfl) E_a16 rfl pd_7 rfl (hst := rfl) (W := 0) (Nat.le_of_eq rfl) (by decide) (by decide) (c2 := 9) (s2 := 53) rfl rfl (by decide) (by decide) (allS (Or.inr N16) (allS (Or.inr N_sa) (allS (Or.inr N_ta) all0))) (q := 69) rfl ?_
    intro v19 T19 h19 O19 K19 q19
    obtain ⟨rfl, F_sums_a16, F_steps_a16, F_size_a16, ⟨f19, V_sa⟩, ⟨g19, V_ta⟩⟩ := q19
    have E_a14 := E_a14.keep K19
    have F_cellCount_a14 := F_cellCount_a14.keep K19 (ninS ne_a14_a16 (ninS ne_a14_sa (ninS ne_a14_ta nin0)))
    have F_dividesOutright_a14 := F_dividesOutright_a14.keep K19 (ninS ne_a14_a16 (ninS ne_a14_sa (ninS ne_a14_ta nin0)))
    have E_a16 := E_a16.keep K19
    show Go C _ _ _ _ (T19.setTop (mkF C.m 69 #[.val (.int p0), .val (.int p1), .val (.long p2), .second, .val (.long p4), .second, .val (.int cap), .val (.int (2 : Int32)), .val (.ref a14), .val (.ref a16), .unset] []))
    refine Jvm.OwnW.iload O19 at_69 rfl (q := 71) rfl ?_
    refine Jvm.OwnW.iconst O19 at_71 (r := (3 : Int32)) rfl (q := 72) rfl ?_
    refine Jvm.OwnW.icmpYes O19 at_72 (tlt (show (2 : Int32) < (3 : Int32) from (by decide))).1 (by decide) (q := 86) rfl ?_
    refine Jvm.OwnW.iload O19 at_86 rfl (q := 88) rfl ?_
    refine Jvm.OwnW.iconst O19 at_88 (r := (4 : Int32)) rfl (q := 89) rfl ?_
    refine Jvm.OwnW.icmpYes O19 at_89 (tlt (show (2 : Int32) < (4 : Int32) from (by decide))).1 (by decide) (q := 102) rfl ?_
    refine Jvm.OwnW.iload O19 at_102 rfl (q := 104) rfl ?_
    refine Jvm.OwnW.iload O19 at_104 rfl (q := 106) rfl ?_
    by_cases hc106 : (2 : Int32) = cap
    · refine Jvm.OwnW.icmpNo O19 at_106 (teq hc106).2 (q := 109) rfl ?_
      refine Jvm.OwnW.iconst O19 at_109 (r := (1 : Int32)) rfl (q := 110) rfl ?_
      refine Jvm.OwnW.goto O19 at_110 (by decide) (q := 114) rfl ?_
      refine Jvm.OwnW.istore O19 at_114 (L' := #[.val (.int p0), .val (.int p1), .val (.long p2), .second, .val (.long p4), .second, .val (.int cap), .val (.int (2 : Int32)), .val (.ref a14), .val (.ref a16), .val (.int (1 : Int32))]) rfl (q := 116) rfl ?_
      refine Jvm.OwnW.aload O19 at_116 rfl rfl (q := 118) rfl ?_
      refine Jvm.OwnW.callV0 O19 (y := (⟨"com/example/occupancy/occupancy/hash/internal/CellBatch", "isFull", "()Z"⟩ : MethodName)) (z := (⟨"com/example/occupancy/occupancy/hash/internal/CellBatch", "isFull", "()Z"⟩ : MethodName)) (a := a16) (argsL := []) (rest := []) at_118 (hw _ (List.mem_of_getElem? (i := 85) rfl)) (hw _ (List.mem_of_getElem? (i := 79) rfl)) (hw _ (List.mem_of_getElem? (i := 81) rfl)) rfl (hw _ (List.mem_of_getElem? (i := 80) rfl)) (hw _ (List.mem_of_getElem? (i := 21) rfl)) (hw _ (List.mem_of_getElem? (i := 82) rfl)) (by decide) (rm_f l Z a0 hw a16 sa (2 : Int32) cap nn f19 h19 E_a16 F_sums_a16 F_size_a16 V_sa hnn) E_a16 rfl pd_4 rfl (hst := rfl) (W := 0) (Nat.le_of_eq rfl) (by decide) (by decide) (c2 := 9) (s2 := 53) rfl rfl (by decide) (by decide) rfl rfl (q := 121) rfl ?_
      intro v20 T20 O20 q20
      obtain rfl := q20
      show Go C _ _ _ _ (T20.setTop (mkF C.m 121 #[.val (.int p0), .val (.int p1), .val (.long p2), .second, .val (.long p4), .second, .val (.int cap), .val (.int (2 : Int32)), .val (.ref a14), .val (.ref a16), .val (.int (1 : Int32))] [(.int (fn_f (2 : Int32) cap))]))
      refine Jvm.OwnW.iload O20 at_121 rfl (q := 123) rfl ?_
      refine Jvm.OwnW.icmpNo O20 at_123 (teq (show (fn_f (2 : Int32) cap) = (1 : Int32) from (by rw [fn_f, if_pos hc106]))).2 (q := 126) rfl ?_
      refine Jvm.OwnW.iconst O20 at_126 (r := (1 : Int32)) rfl (q := 127) rfl ?_
      refine Jvm.OwnW.goto O20 at_127 (by decide) (q := 131) rfl ?_
      exact Jvm.OwnW.retB O20 at_131 rfl (Or.inr rfl) (by decide) (by decide) rfl
    · refine Jvm.OwnW.icmpYes O19 at_106 (feq hc106).2 (by decide) (q := 113) rfl ?_
      refine Jvm.OwnW.iconst O19 at_113 (r := (0 : Int32)) rfl (q := 114) rfl ?_
      refine Jvm.OwnW.istore O19 at_114 (L' := #[.val (.int p0), .val (.int p1), .val (.long p2), .second, .val (.long p4), .second, .val (.int cap), .val (.int (2 : Int32)), .val (.ref a14), .val (.ref a16), .val (.int (0 : Int32))]) rfl (q := 116) rfl ?_
      refine Jvm.OwnW.aload O19 at_116 rfl rfl (q := 118) rfl ?_
      refine Jvm.OwnW.callV0 O19 (y := (⟨"com/example/occupancy/occupancy/hash/internal/CellBatch", "isFull", "()Z"⟩ : MethodName)) (z := (⟨"com/example/occupancy/occupancy/hash/internal/CellBatch", "isFull", "()Z"⟩ : MethodName)) (a := a16) (argsL := []) (rest := []) at_118 (hw _ (List.mem_of_getElem? (i := 85) rfl)) (hw _ (List.mem_of_getElem? (i := 79) rfl)) (hw _ (List.mem_of_getElem? (i := 81) rfl)) rfl (hw _ (List.mem_of_getElem? (i := 80) rfl)) (hw _ (List.mem_of_getElem? (i := 21) rfl)) (hw _ (List.mem_of_getElem? (i := 82) rfl)) (by decide) (rm_f l Z a0 hw a16 sa (2 : Int32) cap nn f19 h19 E_a16 F_sums_a16 F_size_a16 V_sa hnn) E_a16 rfl pd_4 rfl (hst := rfl) (W := 0) (Nat.le_of_eq rfl) (by decide) (by decide) (c2 := 9) (s2 := 53) rfl rfl (by decide) (by decide) rfl rfl (q := 121) rfl ?_
      intro v21 T21 O21 q21
      obtain rfl := q21
      show Go C _ _ _ _ (T21.setTop (mkF C.m 121 #[.val (.int p0), .val (.int p1), .val (.long p2), .second, .val (.long p4), .second, .val (.int cap), .val (.int (2 : Int32)), .val (.ref a14), .val (.ref a16), .val (.int (0 : Int32))] [(.int (fn_f (2 : Int32) cap))]))
      refine Jvm.OwnW.iload O21 at_121 rfl (q := 123) rfl ?_
      refine Jvm.OwnW.icmpNo O21 at_123 (teq (show (fn_f (2 : Int32) cap) = (0 : Int32) from (by rw [fn_f, if_neg hc106]))).2 (q := 126) rfl ?_
      refine Jvm.OwnW.iconst O21 at_126 (r := (1 : Int32)) rfl (q := 127) rfl ?_
      refine Jvm.OwnW.goto O21 at_127 (by decide) (q := 131) rfl ?_
      exact Jvm.OwnW.retB O21 at_131 rfl (Or.inr rfl) (by decide) (by decide) rfl
  · skip
    obtain rfl : n = (3 : Int32) := eq32 hkn
    show Go C _ _ _ _ (T.setTop (mkF C.m 16 #[.val (.int p0), .val (.int p1), .val (.long p2), .second, .val (.long p4), .second, .val (.int cap), .unset, .unset, .unset, .unset] [(.int (3 : Int32))]))
    refine Jvm.OwnW.istore O at_16 (L' := #[.val (.int p0), .val (.int p1), .val (.long p2), .second, .val (.long p4), .second, .val (.int cap), .val (.int (3 : Int32)), .unset, .unset, .unset]) rfl (q := 18) rfl ?_
    refine Jvm.OwnW.newO O at_18 (hw _ (List.mem_of_getElem? (i := 1) rfl)) (hw _ (List.mem_of_getElem? (i := 2) rfl)) (hw _ (List.mem_of_getElem? (i := 3) rfl)) (c2 := 1) (s2 := 4) rfl rfl (by decide) (by decide) (q := 21) rfl ?_
    intro a22 T22 h22 g22 N22 O22 X22 E_a22 D22
    have F_cellCount_a22 : Fld Z h22 a22 "com/example/occupancy/occupancy/hash/internal/CellRule" "cellCount" "J" (.long (0 : Int64)) := D22 (Or.inr (hw _ (List.mem_of_getElem? (i := 11) rfl))) (ty := .long) (by decide)
    have F_dividesOutright_a22 : Fld Z h22 a22 "com/example/occupancy/occupancy/hash/internal/CellRule" "dividesOutright" "Z" (.int (0 : Int32)) := D22 (Or.inr (hw _ (List.mem_of_getElem? (i := 14) rfl))) (ty := .boolean) (by decide)
    have F_reciprocal_a22 : Fld Z h22 a22 "com/example/occupancy/occupancy/hash/internal/CellRule" "reciprocal" "J" (.long (0 : Int64)) := D22 (Or.inr (hw _ (List.mem_of_getElem? (i := 16) rfl))) (ty := .long) (by decide)
    have F_shift_a22 : Fld Z h22 a22 "com/example/occupancy/occupancy/hash/internal/CellRule" "shift" "I" (.int (0 : Int32)) := D22 (Or.inr (hw _ (List.mem_of_getElem? (i := 18) rfl))) (ty := .int) (by decide)
    refine Jvm.OwnW.dup O22 at_21 rfl (q := 22) rfl ?_
    refine Jvm.OwnW.lconst O22 at_22 (r := (1 : Int64)) rfl (q := 23) rfl ?_
    refine Jvm.OwnW.callI O22 (y := (⟨"com/example/occupancy/occupancy/hash/internal/CellRule", "<init>", "(J)V"⟩ : MethodName)) (a := a22) (argsL := [(.long (1 : Int64))]) (rest := [(.ref a22)]) at_23 rfl (hw _ (List.mem_of_getElem? (i := 4) rfl)) (hw _ (List.mem_of_getElem? (i := 5) rfl)) (hw _ (List.mem_of_getElem? (i := 3) rfl)) (hw _ (List.mem_of_getElem? (i := 6) rfl)) (by decide) (rm_r l Z a0 hw a22 h22 E_a22 F_cellCount_a22 F_dividesOutright_a22 F_reciprocal_a22 F_shift_a22) rfl pd_5 rfl (hst := rfl) (W := 1) (Nat.le_of_eq rfl) (by decide) (by decide) (c2 := 1) (s2 := 4) rfl rfl (by decide) (by decide) (allS (Or.inr N22) all0) (q := 26) rfl ?_
    intro v23 T23 h23 O23 K23 q23
    obtain ⟨rfl, F_cellCount_a22, F_dividesOutright_a22⟩ := q23
    have E_a22 := E_a22.keep K23
    show Go C _ _ _ _ (T23.setTop (mkF C.m 26 #[.val (.int p0), .val (.int p1), .val (.long p2), .second, .val (.long p4), .second, .val (.int cap), .val (.int (3 : Int32)), .unset, .unset, .unset] [(.ref a22)]))
    refine Jvm.OwnW.astore O23 at_26 rfl (L' := #[.val (.int p0), .val (.int p1), .val (.long p2), .second, .val (.long p4), .second, .val (.int cap), .val (.int (3 : Int32)), .val (.ref a22), .unset, .unset]) rfl (q := 28) rfl ?_
    refine Jvm.OwnW.newO O23 at_28 (hw _ (List.mem_of_getElem? (i := 19) rfl)) (hw _ (List.mem_of_getElem? (i := 20) rfl)) (hw _ (List.mem_of_getElem? (i := 21) rfl)) (c2 := 2) (s2 := 13) rfl rfl (by decide) (by decide) (q := 31) rfl ?_
    intro a24 T24 h24 g24 N24 O24 X24 E_a24 D24
    have ne_a22_a24 : a22 ≠ a24 := Nat.ne_of_lt (Nat.lt_of_lt_of_le E_a22.lt (Nat.le_of_eq g24.symm))
    have E_a22 := E_a22.ext X24
    have F_cellCount_a22 := F_cellCount_a22.ext X24
    have F_dividesOutright_a22 := F_dividesOutright_a22.ext X24
    have F_rule_a24 : Fld Z h24 a24 "com/example/occupancy/occupancy/hash/internal/CellBatch" "rule" "Lcom/example/occupancy/occupancy/hash/internal/CellRule;" .null := D24 (Or.inr (hw _ (List.mem_of_getElem? (i := 41) rfl))) (ty := (.object "com/example/occupancy/occupancy/hash/internal/CellRule")) (by decide)
    have F_cellCount_a24 : Fld Z h24 a24 "com/example/occupancy/occupancy/hash/internal/CellBatch" "cellCount" "J" (.long (0 : Int64)) := D24 (Or.inr (hw _ (List.mem_of_getElem? (i := 48) rfl))) (ty := .long) (by decide)
    have F_wrapLoss_a24 : Fld Z h24 a24 "com/example/occupancy/occupancy/hash/internal/CellBatch" "wrapLoss" "J" (.long (0 : Int64)) := D24 (Or.inr (hw _ (List.mem_of_getElem? (i := 61) rfl))) (ty := .long) (by decide)
    have F_sums_a24 : Fld Z h24 a24 "com/example/occupancy/occupancy/hash/internal/CellBatch" "sums" "[J" .null := D24 (Or.inr (hw _ (List.mem_of_getElem? (i := 64) rfl))) (ty := (.array .long)) (by decide)
    have F_steps_a24 : Fld Z h24 a24 "com/example/occupancy/occupancy/hash/internal/CellBatch" "steps" "[J" .null := D24 (Or.inr (hw _ (List.mem_of_getElem? (i := 66) rfl))) (ty := (.array .long)) (by decide)
    have F_cells_a24 : Fld Z h24 a24 "com/example/occupancy/occupancy/hash/internal/CellBatch" "cells" "[J" .null := D24 (Or.inr (hw _ (List.mem_of_getElem? (i := 68) rfl))) (ty := (.array .long)) (by decide)
    have F_plainSteps_a24 : Fld Z h24 a24 "com/example/occupancy/occupancy/hash/internal/CellBatch" "plainSteps" "[J" .null := D24 (Or.inr (hw _ (List.mem_of_getElem? (i := 70) rfl))) (ty := (.array .long)) (by decide)
    have F_wrapFlips_a24 : Fld Z h24 a24 "com/example/occupancy/occupancy/hash/internal/CellBatch" "wrapFlips" "[J" .null := D24 (Or.inr (hw _ (List.mem_of_getElem? (i := 72) rfl))) (ty := (.array .long)) (by decide)
    have F_size_a24 : Fld Z h24 a24 "com/example/occupancy/occupancy/hash/internal/CellBatch" "size" "I" (.int (0 : Int32)) := D24 (Or.inl (hw _ (List.mem_of_getElem? (i := 84) rfl))) (ty := .int) (by decide)
    refine Jvm.OwnW.dup O24 at_31 rfl (q := 32) rfl ?_
    refine Jvm.OwnW.aload O24 at_32 rfl rfl (q := 34) rfl ?_
    refine Jvm.OwnW.iload O24 at_34 rfl (q := 36) rfl ?_
    have lt_a22 := E_a22.lt
    have lt_a24 := E_a24.lt
    refine Jvm.OwnW.callI O24 (y := (⟨"com/example/occupancy/occupancy/hash/internal/CellBatch", "<init>", "(Lcom/example/occupancy/occupancy/hash/internal/CellRule;I)V"⟩ : MethodName)) (a := a24) (argsL := [(.ref a22), (.int cap)]) (rest := [(.ref a24)]) at_36 rfl (hw _ (List.mem_of_getElem? (i := 22) rfl)) (hw _ (List.mem_of_getElem? (i := 23) rfl)) (hw _ (List.mem_of_getElem? (i := 21) rfl)) (hw _ (List.mem_of_getElem? (i := 24) rfl)) (by decide) (rm_b l Z a0 hw a24 a22 cap nn h24 E_a24 F_rule_a24 F_cellCount_a24 F_wrapLoss_a24 F_sums_a24 F_steps_a24 F_cells_a24 F_plainSteps_a24 F_wrapFlips_a24 F_size_a24 E_a22 F_cellCount_a22 F_dividesOutright_a22 (Ne.symm ne_a22_a24) hnn hn1 hn4) rfl pd_6 rfl (hst := rfl) (W := 1) (Nat.le_of_eq rfl) (by decide) (by decide) (c2 := 9) (s2 := 53) rfl rfl (by decide) (by decide) (allS (Or.inr N24) all0) (q := 39) rfl ?_
    intro v25 T25 h25 O25 K25 q25
    obtain ⟨rfl, sa, ta, m_sa, m_ta, nst, F_sums_a24, F_steps_a24, F_size_a24, V_sa, V_ta⟩ := q25
    have E_a22 := E_a22.keep K25
    have F_cellCount_a22 := F_cellCount_a22.keep K25 (ninS ne_a22_a24 nin0)
    have F_dividesOutright_a22 := F_dividesOutright_a22.keep K25 (ninS ne_a22_a24 nin0)
    have E_a24 := E_a24.keep K25
    have N_sa : C.s.heap.size ≤ sa := Nat.le_trans O24.size m_sa
    have ne_a22_sa : a22 ≠ sa := Nat.ne_of_lt (Nat.lt_of_lt_of_le lt_a22 m_sa)
    have ne_a24_sa : a24 ≠ sa := Nat.ne_of_lt (Nat.lt_of_lt_of_le lt_a24 m_sa)
    have N_ta : C.s.heap.size ≤ ta := Nat.le_trans O24.size m_ta
    have ne_a22_ta : a22 ≠ ta := Nat.ne_of_lt (Nat.lt_of_lt_of_le lt_a22 m_ta)
    have ne_a24_ta : a24 ≠ ta := Nat.ne_of_lt (Nat.lt_of_lt_of_le lt_a24 m_ta)
    show Go C _ _ _ _ (T25.setTop (mkF C.m 39 #[.val (.int p0), .val (.int p1), .val (.long p2), .second, .val (.long p4), .second, .val (.int cap), .val (.int (3 : Int32)), .val (.ref a22), .unset, .unset] [(.ref a24)]))
    refine Jvm.OwnW.astore O25 at_39 rfl (L' := #[.val (.int p0), .val (.int p1), .val (.long p2), .second, .val (.long p4), .second, .val (.int cap), .val (.int (3 : Int32)), .val (.ref a22), .val (.ref a24), .unset]) rfl (q := 41) rfl ?_
    refine Jvm.OwnW.iload O25 at_41 rfl (q := 43) rfl ?_
    refine Jvm.OwnW.iconst O25 at_43 (r := (1 : Int32)) rfl (q := 44) rfl ?_
    refine Jvm.OwnW.icmpNo O25 at_44 (flt (show ¬ ((3 : Int32) < (1 : Int32)) from (by decide))).1 (q := 47) rfl ?_
    refine Jvm.OwnW.aload O25 at_47 rfl rfl (q := 49) rfl ?_
    refine Jvm.OwnW.lloadN O25 at_49 rfl (q := 50) rfl ?_
    refine Jvm.OwnW.lload O25 at_50 rfl (q := 52) rfl ?_
    refine Jvm.OwnW.callV O25 (y := (⟨"com/example/occupancy/occupancy/hash/internal/CellBatch", "add", "(JJ)V"⟩ : MethodName)) (z := (⟨"com/example/occupancy/occupancy/hash/internal/CellBatch", "add", "(JJ)V"⟩ : MethodName)) (a := a24) (argsL := [(.long p2), (.long p4)]) (rest := []) at_52 (hw _ (List.mem_of_getElem? (i := 73) rfl)) (hw _ (List.mem_of_getElem? (i := 74) rfl)) (hw _ (List.mem_of_getElem? (i := 76) rfl)) rfl (hw _ (List.mem_of_getElem? (i := 75) rfl)) (hw _ (List.mem_of_getElem? (i := 21) rfl)) (hw _ (List.mem_of_getElem? (i := 77) rfl)) (by decide) (rm_a l Z a0 hw a24 p2 p4 sa ta (0 : Int32) cap (1 : Int32) nn 0 (fun _ => .long (0 : Int64)) (fun _ => .long (0 : Int64)) h25 E_a24 F_sums_a24 F_steps_a24 F_size_a24 V_sa V_ta ne_a24_sa ne_a24_ta nst hnn rfl (by omega) rfl) E_a24 rfl pd_7 rfl (hst := rfl) (W := 0) (Nat.le_of_eq rfl) (by decide) (by decide) (c2 := 9) (s2 := 53) rfl rfl (by decide) (by decide) (allS (Or.inr N24) (allS (Or.inr N_sa) (allS (Or.inr N_ta) all0))) (q := 55) rfl ?_
    intro v26 T26 h26 O26 K26 q26
    obtain ⟨rfl, F_sums_a24, F_steps_a24, F_size_a24, ⟨f26, V_sa⟩, ⟨g26, V_ta⟩⟩ := q26
    have E_a22 := E_a22.keep K26
    have F_cellCount_a22 := F_cellCount_a22.keep K26 (ninS ne_a22_a24 (ninS ne_a22_sa (ninS ne_a22_ta nin0)))
    have F_dividesOutright_a22 := F_dividesOutright_a22.keep K26 (ninS ne_a22_a24 (ninS ne_a22_sa (ninS ne_a22_ta nin0)))
    have E_a24 := E_a24.keep K26
    show Go C _ _ _ _ (T26.setTop (mkF C.m 55 #[.val (.int p0), .val (.int p1), .val (.long p2), .second, .val (.long p4), .second, .val (.int cap), .val (.int (3 : Int32)), .val (.ref a22), .val (.ref a24), .unset] []))
    refine Jvm.OwnW.iload O26 at_55 rfl (q := 57) rfl ?_
    refine Jvm.OwnW.iconst O26 at_57 (r := (2 : Int32)) rfl (q := 58) rfl ?_
    refine Jvm.OwnW.icmpNo O26 at_58 (flt (show ¬ ((3 : Int32) < (2 : Int32)) from (by decide))).1 (q := 61) rfl ?_
    refine Jvm.OwnW.aload O26 at_61 rfl rfl (q := 63) rfl ?_
    refine Jvm.OwnW.lload O26 at_63 rfl (q := 65) rfl ?_
    refine Jvm.OwnW.lloadN O26 at_65 rfl (q := 66) rfl ?_
    refine Jvm.OwnW.callV O26 (y := (⟨"com/example/occupancy/occupancy/hash/internal/CellBatch", "add", "(JJ)V"⟩ : MethodName)) (z := (⟨"com/example/occupancy/occupancy/hash/internal/CellBatch", "add", "(JJ)V"⟩ : MethodName)) (a := a24) (argsL := [(.long p4), (.long p2)]) (rest := []) at_66 (hw _ (List.mem_of_getElem? (i := 73) rfl)) (hw _ (List.mem_of_getElem? (i := 74) rfl)) (hw _ (List.mem_of_getElem? (i := 76) rfl)) rfl (hw _ (List.mem_of_getElem? (i := 75) rfl)) (hw _ (List.mem_of_getElem? (i := 21) rfl)) (hw _ (List.mem_of_getElem? (i := 77) rfl)) (by decide) (rm_a l Z a0 hw a24 p4 p2 sa ta (1 : Int32) cap (2 : Int32) nn 1 f26 g26 h26 E_a24 F_sums_a24 F_steps_a24 F_size_a24 V_sa V_ta ne_a24_sa ne_a24_ta nst hnn rfl (by omega) rfl) E_a24 rfl pd_7 rfl (hst := rfl) (W := 0) (Nat.le_of_eq rfl) (by decide) (by decide) (c2 := 9) (s2 := 53) rfl rfl (by decide) (by decide) (allS (Or.inr N24) (allS (Or.inr N_sa) (allS (Or.inr N_ta) all0))) (q := 69) rfl ?_
    intro v27 T27 h27 O27 K27 q27
    obtain ⟨rfl, F_sums_a24, F_steps_a24, F_size_a24, ⟨f27, V_sa⟩, ⟨g27, V_ta⟩⟩ := q27
    have E_a22 := E_a22.keep K27
    have F_cellCount_a22 := F_cellCount_a22.keep K27 (ninS ne_a22_a24 (ninS ne_a22_sa (ninS ne_a22_ta nin0)))
    have F_dividesOutright_a22 := F_dividesOutright_a22.keep K27 (ninS ne_a22_a24 (ninS ne_a22_sa (ninS ne_a22_ta nin0)))
    have E_a24 := E_a24.keep K27
    show Go C _ _ _ _ (T27.setTop (mkF C.m 69 #[.val (.int p0), .val (.int p1), .val (.long p2), .second, .val (.long p4), .second, .val (.int cap), .val (.int (3 : Int32)), .val (.ref a22), .val (.ref a24), .unset] []))
    refine Jvm.OwnW.iload O27 at_69 rfl (q := 71) rfl ?_
    refine Jvm.OwnW.iconst O27 at_71 (r := (3 : Int32)) rfl (q := 72) rfl ?_
    refine Jvm.OwnW.icmpNo O27 at_72 (flt (show ¬ ((3 : Int32) < (3 : Int32)) from (by decide))).1 (q := 75) rfl ?_
    refine Jvm.OwnW.aload O27 at_75 rfl rfl (q := 77) rfl ?_
    refine Jvm.OwnW.lloadN O27 at_77 rfl (q := 78) rfl ?_
    refine Jvm.OwnW.lload O27 at_78 rfl (q := 80) rfl ?_
    refine Jvm.OwnW.lxor O27 at_80 rfl (q := 81) rfl ?_
    refine Jvm.OwnW.lload O27 at_81 rfl (q := 83) rfl ?_
    refine Jvm.OwnW.callV O27 (y := (⟨"com/example/occupancy/occupancy/hash/internal/CellBatch", "add", "(JJ)V"⟩ : MethodName)) (z := (⟨"com/example/occupancy/occupancy/hash/internal/CellBatch", "add", "(JJ)V"⟩ : MethodName)) (a := a24) (argsL := [(.long (p2 ^^^ p4)), (.long p4)]) (rest := []) at_83 (hw _ (List.mem_of_getElem? (i := 73) rfl)) (hw _ (List.mem_of_getElem? (i := 74) rfl)) (hw _ (List.mem_of_getElem? (i := 76) rfl)) rfl (hw _ (List.mem_of_getElem? (i := 75) rfl)) (hw _ (List.mem_of_getElem? (i := 21) rfl)) (hw _ (List.mem_of_getElem? (i := 77) rfl)) (by decide) (rm_a l Z a0 hw a24 (p2 ^^^ p4) p4 sa ta (2 : Int32) cap (3 : Int32) nn 2 f27 g27 h27 E_a24 F_sums_a24 F_steps_a24 F_size_a24 V_sa V_ta ne_a24_sa ne_a24_ta nst hnn rfl (by omega) rfl) E_a24 rfl pd_7 rfl (hst := rfl) (W := 0) (Nat.le_of_eq rfl) (by decide) (by decide) (c2 := 9) (s2 := 53) rfl rfl (by decide) (by decide) (allS (Or.inr N24) (allS (Or.inr N_sa) (allS (Or.inr N_ta) all0))) (q := 86) rfl ?_
    intro v28 T28 h28 O28 K28 q28
    obtain ⟨rfl, F_sums_a24, F_steps_a24, F_size_a24, ⟨f28, V_sa⟩, ⟨g28, V_ta⟩⟩ := q28
    have E_a22 := E_a22.keep K28
    have F_cellCount_a22 := F_cellCount_a22.keep K28 (ninS ne_a22_a24 (ninS ne_a22_sa (ninS ne_a22_ta nin0)))
    have F_dividesOutright_a22 := F_dividesOutright_a22.keep K28 (ninS ne_a22_a24 (ninS ne_a22_sa (ninS ne_a22_ta nin0)))
    have E_a24 := E_a24.keep K28
    show Go C _ _ _ _ (T28.setTop (mkF C.m 86 #[.val (.int p0), .val (.int p1), .val (.long p2), .second, .val (.long p4), .second, .val (.int cap), .val (.int (3 : Int32)), .val (.ref a22), .val (.ref a24), .unset] []))
    refine Jvm.OwnW.iload O28 at_86 rfl (q := 88) rfl ?_
    refine Jvm.OwnW.iconst O28 at_88 (r := (4 : Int32)) rfl (q := 89) rfl ?_
    refine Jvm.OwnW.icmpYes O28 at_89 (tlt (show (3 : Int32) < (4 : Int32) from (by decide))).1 (by decide) (q := 102) rfl ?_
    refine Jvm.OwnW.iload O28 at_102 rfl (q := 104) rfl ?_
    refine Jvm.OwnW.iload O28 at_104 rfl (q := 106) rfl ?_
    by_cases hc106 : (3 : Int32) = cap
    · refine Jvm.OwnW.icmpNo O28 at_106 (teq hc106).2 (q := 109) rfl ?_
      refine Jvm.OwnW.iconst O28 at_109 (r := (1 : Int32)) rfl (q := 110) rfl ?_
      refine Jvm.OwnW.goto O28 at_110 (by decide) (q := 114) rfl ?_
      refine Jvm.OwnW.istore O28 at_114 (L' := #[.val (.int p0), .val (.int p1), .val (.long p2), .second, .val (.long p4), .second, .val (.int cap), .val (.int (3 : Int32)), .val (.ref a22), .val (.ref a24), .val (.int (1 : Int32))]) rfl (q := 116) rfl ?_
      refine Jvm.OwnW.aload O28 at_116 rfl rfl (q := 118) rfl ?_
      refine Jvm.OwnW.callV0 O28 (y := (⟨"com/example/occupancy/occupancy/hash/internal/CellBatch", "isFull", "()Z"⟩ : MethodName)) (z := (⟨"com/example/occupancy/occupancy/hash/internal/CellBatch", "isFull", "()Z"⟩ : MethodName)) (a := a24) (argsL := []) (rest := []) at_118 (hw _ (List.mem_of_getElem? (i := 85) rfl)) (hw _ (List.mem_of_getElem? (i := 79) rfl)) (hw _ (List.mem_of_getElem? (i := 81) rfl)) rfl (hw _ (List.mem_of_getElem? (i := 80) rfl)) (hw _ (List.mem_of_getElem? (i := 21) rfl)) (hw _ (List.mem_of_getElem? (i := 82) rfl)) (by decide) (rm_f l Z a0 hw a24 sa (3 : Int32) cap nn f28 h28 E_a24 F_sums_a24 F_size_a24 V_sa hnn) E_a24 rfl pd_4 rfl (hst := rfl) (W := 0) (Nat.le_of_eq rfl) (by decide) (by decide) (c2 := 9) (s2 := 53) rfl rfl (by decide) (by decide) rfl rfl (q := 121) rfl ?_
      intro v29 T29 O29 q29
      obtain rfl := q29
      show Go C _ _ _ _ (T29.setTop (mkF C.m 121 #[.val (.int p0), .val (.int p1), .val (.long p2), .second, .val (.long p4), .second, .val (.int cap), .val (.int (3 : Int32)), .val (.ref a22), .val (.ref a24), .val (.int (1 : Int32))] [(.int (fn_f (3 : Int32) cap))]))
      refine Jvm.OwnW.iload O29 at_121 rfl (q := 123) rfl ?_
      refine Jvm.OwnW.icmpNo O29 at_123 (teq (show (fn_f (3 : Int32) cap) = (1 : Int32) from (by rw [fn_f, if_pos hc106]))).2 (q := 126) rfl ?_
      refine Jvm.OwnW.iconst O29 at_126 (r := (1 : Int32)) rfl (q := 127) rfl ?_
      refine Jvm.OwnW.goto O29 at_127 (by decide) (q := 131) rfl ?_
      exact Jvm.OwnW.retB O29 at_131 rfl (Or.inr rfl) (by decide) (by decide) rfl
    · refine Jvm.OwnW.icmpYes O28 at_106 (feq hc106).2 (by decide) (q := 113) rfl ?_
      refine Jvm.OwnW.iconst O28 at_113 (r := (0 : Int32)) rfl (q := 114) rfl ?_
      refine Jvm.OwnW.istore O28 at_114 (L' := #[.val (.int p0), .val (.int p1), .val (.long p2), .second, .val (.long p4), .second, .val (.int cap), .val (.int (3 : Int32)), .val (.ref a22), .val (.ref a24), .val (.int (0 : Int32))]) rfl (q := 116) rfl ?_
      refine Jvm.OwnW.aload O28 at_116 rfl rfl (q := 118) rfl ?_
      refine Jvm.OwnW.callV0 O28 (y := (⟨"com/example/occupancy/occupancy/hash/internal/CellBatch", "isFull", "()Z"⟩ : MethodName)) (z := (⟨"com/example/occupancy/occupancy/hash/internal/CellBatch", "isFull", "()Z"⟩ : MethodName)) (a := a24) (argsL := []) (rest := []) at_118 (hw _ (List.mem_of_getElem? (i := 85) rfl)) (hw _ (List.mem_of_getElem? (i := 79) rfl)) (hw _ (List.mem_of_getElem? (i := 81) rfl)) rfl (hw _ (List.mem_of_getElem? (i := 80) rfl)) (hw _ (List.mem_of_getElem? (i := 21) rfl)) (hw _ (List.mem_of_getElem? (i := 82) rfl)) (by decide) (rm_f l Z a0 hw a24 sa (3 : Int32) cap nn f28 h28 E_a24 F_sums_a24 F_size_a24 V_sa hnn) E_a24 rfl pd_4 rfl (hst := rfl) (W := 0) (Nat.le_of_eq rfl) (by decide) (by decide) (c2 := 9) (s2 := 53) rfl rfl (by decide) (by decide) rfl rfl (q := 121) rfl ?_
      intro v30 T30 O30 q30
      obtain rfl := q30
      show Go C _ _ _ _ (T30.setTop (mkF C.m 121 #[.val (.int p0), .val (.int p1), .val (.long p2), .second, .val (.long p4), .second, .val (.int cap), .val (.int (3 : Int32)), .val (.ref a22), .val (.ref a24), .val (.int (0 : Int32))] [(.int (fn_f (3 : Int32) cap))]))
      refine Jvm.OwnW.iload O30 at_121 rfl (q := 123) rfl ?_
      refine Jvm.OwnW.icmpNo O30 at_123 (teq (show (fn_f (3 : Int32) cap) = (0 : Int32) from (by rw [fn_f, if_neg hc106]))).2 (q := 126) rfl ?_
      refine Jvm.OwnW.iconst O30 at_126 (r := (1 : Int32)) rfl (q := 127) rfl ?_
      refine Jvm.OwnW.goto O30 at_127 (by decide) (q := 131) rfl ?_
      exact Jvm.OwnW.retB O30 at_131 rfl (Or.inr rfl) (by decide) (by decide) rfl
  · skip
    obtain rfl : n = (4 : Int32) := eq32 hkn
    show Go C _ _ _ _ (T.setTop (mkF C.m 16 #[.val (.int p0), .val (.int p1), .val (.long p2), .second, .val (.long p4), .second, .val (.int cap), .unset, .unset, .unset, .unset] [(.int (4 : Int32))]))
    refine Jvm.OwnW.istore O at_16 (L' := #[.val (.int p0), .val (.int p1), .val (.long p2), .second, .val (.long p4), .second, .val (.int cap), .val (.int (4 : Int32)), .unset, .unset, .unset]) rfl (q := 18) rfl ?_
    refine Jvm.OwnW.newO O at_18 (hw _ (List.mem_of_getElem? (i := 1) rfl)) (hw _ (List.mem_of_getElem? (i := 2) rfl)) (hw _ (List.mem_of_getElem? (i := 3) rfl)) (c2 := 1) (s2 := 4) rfl rfl (by decide) (by decide) (q := 21) rfl ?_
    intro a31 T31 h31 g31 N31 O31 X31 E_a31 D31
    have F_cellCount_a31 : Fld Z h31 a31 "com/example/occupancy/occupancy/hash/internal/CellRule" "cellCount" "J" (.long (0 : Int64)) := D31 (Or.inr (hw _ (List.mem_of_getElem? (i := 11) rfl))) (ty := .long) (by decide)
    have F_dividesOutright_a31 : Fld Z h31 a31 "com/example/occupancy/occupancy/hash/internal/CellRule" "dividesOutright" "Z" (.int (0 : Int32)) := D31 (Or.inr (hw _ (List.mem_of_getElem? (i := 14) rfl))) (ty := .boolean) (by decide)
    have F_reciprocal_a31 : Fld Z h31 a31 "com/example/occupancy/occupancy/hash/internal/CellRule" "reciprocal" "J" (.long (0 : Int64)) := D31 (Or.inr (hw _ (List.mem_of_getElem? (i := 16) rfl))) (ty := .long) (by decide)
    have F_shift_a31 : Fld Z h31 a31 "com/example/occupancy/occupancy/hash/internal/CellRule" "shift" "I" (.int (0 : Int32)) := D31 (Or.inr (hw _ (List.mem_of_getElem? (i := 18) rfl))) (ty := .int) (by decide)
    refine Jvm.OwnW.dup O31 at_21 rfl (q := 22) rfl ?_
    refine Jvm.OwnW.lconst O31 at_22 (r := (1 : Int64)) rfl (q := 23) rfl ?_
    refine Jvm.OwnW.callI O31 (y := (⟨"com/example/occupancy/occupancy/hash/internal/CellRule", "<init>", "(J)V"⟩ : MethodName)) (a := a31) (argsL := [(.long (1 : Int64))]) (rest := [(.ref a31)]) at_23 rfl (hw _ (List.mem_of_getElem? (i := 4) rfl)) (hw _ (List.mem_of_getElem? (i := 5) rfl)) (hw _ (List.mem_of_getElem? (i := 3) rfl)) (hw _ (List.mem_of_getElem? (i := 6) rfl)) (by decide) (rm_r l Z a0 hw a31 h31 E_a31 F_cellCount_a31 F_dividesOutright_a31 F_reciprocal_a31 F_shift_a31) rfl pd_5 rfl (hst := rfl) (W := 1) (Nat.le_of_eq rfl) (by decide) (by decide) (c2 := 1) (s2 := 4) rfl rfl (by decide) (by decide) (allS (Or.inr N31) all0) (q := 26) rfl ?_
    intro v32 T32 h32 O32 K32 q32
    obtain ⟨rfl, F_cellCount_a31, F_dividesOutright_a31⟩ := q32
    have E_a31 := E_a31.keep K32
    show Go C _ _ _ _ (T32.setTop (mkF C.m 26 #[.val (.int p0), .val (.int p1), .val (.long p2), .second, .val (.long p4), .second, .val (.int cap), .val (.int (4 : Int32)), .unset, .unset, .unset] [(.ref a31)]))
    refine Jvm.OwnW.astore O32 at_26 rfl (L' := #[.val (.int p0), .val (.int p1), .val (.long p2), .second, .val (.long p4), .second, .val (.int cap), .val (.int (4 : Int32)), .val (.ref a31), .unset, .unset]) rfl (q := 28) rfl ?_
    refine Jvm.OwnW.newO O32 at_28 (hw _ (List.mem_of_getElem? (i := 19) rfl)) (hw _ (List.mem_of_getElem? (i := 20) rfl)) (hw _ (List.mem_of_getElem? (i := 21) rfl)) (c2 := 2) (s2 := 13) rfl rfl (by decide) (by decide) (q := 31) rfl ?_
    intro a33 T33 h33 g33 N33 O33 X33 E_a33 D33
    have ne_a31_a33 : a31 ≠ a33 := Nat.ne_of_lt (Nat.lt_of_lt_of_le E_a31.lt (Nat.le_of_eq g33.symm))
    have E_a31 := E_a31.ext X33
    have F_cellCount_a31 := F_cellCount_a31.ext X33
    have F_dividesOutright_a31 := F_dividesOutright_a31.ext X33
    have F_rule_a33 : Fld Z h33 a33 "com/example/occupancy/occupancy/hash/internal/CellBatch" "rule" "Lcom/example/occupancy/occupancy/hash/internal/CellRule;" .null := D33 (Or.inr (hw _ (List.mem_of_getElem? (i := 41) rfl))) (ty := (.object "com/example/occupancy/occupancy/hash/internal/CellRule")) (by decide)
    have F_cellCount_a33 : Fld Z h33 a33 "com/example/occupancy/occupancy/hash/internal/CellBatch" "cellCount" "J" (.long (0 : Int64)) := D33 (Or.inr (hw _ (List.mem_of_getElem? (i := 48) rfl))) (ty := .long) (by decide)
    have F_wrapLoss_a33 : Fld Z h33 a33 "com/example/occupancy/occupancy/hash/internal/CellBatch" "wrapLoss" "J" (.long (0 : Int64)) := D33 (Or.inr (hw _ (List.mem_of_getElem? (i := 61) rfl))) (ty := .long) (by decide)
    have F_sums_a33 : Fld Z h33 a33 "com/example/occupancy/occupancy/hash/internal/CellBatch" "sums" "[J" .null := D33 (Or.inr (hw _ (List.mem_of_getElem? (i := 64) rfl))) (ty := (.array .long)) (by decide)
    have F_steps_a33 : Fld Z h33 a33 "com/example/occupancy/occupancy/hash/internal/CellBatch" "steps" "[J" .null := D33 (Or.inr (hw _ (List.mem_of_getElem? (i := 66) rfl))) (ty := (.array .long)) (by decide)
    have F_cells_a33 : Fld Z h33 a33 "com/example/occupancy/occupancy/hash/internal/CellBatch" "cells" "[J" .null := D33 (Or.inr (hw _ (List.mem_of_getElem? (i := 68) rfl))) (ty := (.array .long)) (by decide)
    have F_plainSteps_a33 : Fld Z h33 a33 "com/example/occupancy/occupancy/hash/internal/CellBatch" "plainSteps" "[J" .null := D33 (Or.inr (hw _ (List.mem_of_getElem? (i := 70) rfl))) (ty := (.array .long)) (by decide)
    have F_wrapFlips_a33 : Fld Z h33 a33 "com/example/occupancy/occupancy/hash/internal/CellBatch" "wrapFlips" "[J" .null := D33 (Or.inr (hw _ (List.mem_of_getElem? (i := 72) rfl))) (ty := (.array .long)) (by decide)
    have F_size_a33 : Fld Z h33 a33 "com/example/occupancy/occupancy/hash/internal/CellBatch" "size" "I" (.int (0 : Int32)) := D33 (Or.inl (hw _ (List.mem_of_getElem? (i := 84) rfl))) (ty := .int) (by decide)
    refine Jvm.OwnW.dup O33 at_31 rfl (q := 32) rfl ?_
    refine Jvm.OwnW.aload O33 at_32 rfl rfl (q := 34) rfl ?_
    refine Jvm.OwnW.iload O33 at_34 rfl (q := 36) rfl ?_
    have lt_a31 := E_a31.lt
    have lt_a33 := E_a33.lt
    refine Jvm.OwnW.callI O33 (y := (⟨"com/example/occupancy/occupancy/hash/internal/CellBatch", "<init>", "(Lcom/example/occupancy/occupancy/hash/internal/CellRule;I)V"⟩ : MethodName)) (a := a33) (argsL := [(.ref a31), (.int cap)]) (rest := [(.ref a33)]) at_36 rfl (hw _ (List.mem_of_getElem? (i := 22) rfl)) (hw _ (List.mem_of_getElem? (i := 23) rfl)) (hw _ (List.mem_of_getElem? (i := 21) rfl)) (hw _ (List.mem_of_getElem? (i := 24) rfl)) (by decide) (rm_b l Z a0 hw a33 a31 cap nn h33 E_a33 F_rule_a33 F_cellCount_a33 F_wrapLoss_a33 F_sums_a33 F_steps_a33 F_cells_a33 F_plainSteps_a33 F_wrapFlips_a33 F_size_a33 E_a31 F_cellCount_a31 F_dividesOutright_a31 (Ne.symm ne_a31_a33) hnn hn1 hn4) rfl pd_6 rfl (hst := rfl) (W := 1) (Nat.le_of_eq rfl) (by decide) (by decide) (c2 := 9) (s2 := 53) rfl rfl (by decide) (by decide) (allS (Or.inr N33) all0) (q := 39) rfl ?_
    intro v34 T34 h34 O34 K34 q34
    obtain ⟨rfl, sa, ta, m_sa, m_ta, nst, F_sums_a33, F_steps_a33, F_size_a33, V_sa, V_ta⟩ := q34
    have E_a31 := E_a31.keep K34
    have F_cellCount_a31 := F_cellCount_a31.keep K34 (ninS ne_a31_a33 nin0)
    have F_dividesOutright_a31 := F_dividesOutright_a31.keep K34 (ninS ne_a31_a33 nin0)
    have E_a33 := E_a33.keep K34
    have N_sa : C.s.heap.size ≤ sa := Nat.le_trans O33.size m_sa
    have ne_a31_sa : a31 ≠ sa := Nat.ne_of_lt (Nat.lt_of_lt_of_le lt_a31 m_sa)
    have ne_a33_sa : a33 ≠ sa := Nat.ne_of_lt (Nat.lt_of_lt_of_le lt_a33 m_sa)
    have N_ta : C.s.heap.size ≤ ta := Nat.le_trans O33.size m_ta
    have ne_a31_ta : a31 ≠ ta := Nat.ne_of_lt (Nat.lt_of_lt_of_le lt_a31 m_ta)
    have ne_a33_ta : a33 ≠ ta := Nat.ne_of_lt (Nat.lt_of_lt_of_le lt_a33 m_ta)
    show Go C _ _ _ _ (T34.setTop (mkF C.m 39 #[.val (.int p0), .val (.int p1), .val (.long p2), .second, .val (.long p4), .second, .val (.int cap), .val (.int (4 : Int32)), .val (.ref a31), .unset, .unset] [(.ref a33)]))
    refine Jvm.OwnW.astore O34 at_39 rfl (L' := #[.val (.int p0), .val (.int p1), .val (.long p2), .second, .val (.long p4), .second, .val (.int cap), .val (.int (4 : Int32)), .val (.ref a31), .val (.ref a33), .unset]) rfl (q := 41) rfl ?_
    refine Jvm.OwnW.iload O34 at_41 rfl (q := 43) rfl ?_
    refine Jvm.OwnW.iconst O34 at_43 (r := (1 : Int32)) rfl (q := 44) rfl ?_
    refine Jvm.OwnW.icmpNo O34 at_44 (flt (show ¬ ((4 : Int32) < (1 : Int32)) from (by decide))).1 (q := 47) rfl ?_
    refine Jvm.OwnW.aload O34 at_47 rfl rfl (q := 49) rfl ?_
    refine Jvm.OwnW.lloadN O34 at_49 rfl (q := 50) rfl ?_
    refine Jvm.OwnW.lload O34 at_50 rfl (q := 52) rfl ?_
    refine Jvm.OwnW.callV O34 (y := (⟨"com/example/occupancy/occupancy/hash/internal/CellBatch", "add", "(JJ)V"⟩ : MethodName)) (z := (⟨"com/example/occupancy/occupancy/hash/internal/CellBatch", "add", "(JJ)V"⟩ : MethodName)) (a := a33) (argsL := [(.long p2), (.long p4)]) (rest := []) at_52 (hw _ (List.mem_of_getElem? (i := 73) rfl)) (hw _ (List.mem_of_getElem? (i := 74) rfl)) (hw _ (List.mem_of_getElem? (i := 76) rfl)) rfl (hw _ (List.mem_of_getElem? (i := 75) rfl)) (hw _ (List.mem_of_getElem? (i := 21) rfl)) (hw _ (List.mem_of_getElem? (i := 77) rfl)) (by decide) (rm_a l Z a0 hw a33 p2 p4 sa ta (0 : Int32) cap (1 : Int32) nn 0 (fun _ => .long (0 : Int64)) (fun _ => .long (0 : Int64)) h34 E_a33 F_sums_a33 F_steps_a33 F_size_a33 V_sa V_ta ne_a33_sa ne_a33_ta nst hnn rfl (by omega) rfl) E_a33 rfl pd_7 rfl (hst := rfl) (W := 0) (Nat.le_of_eq rfl) (by decide) (by decide) (c2 := 9) (s2 := 53) rfl rfl (by decide) (by decide) (allS (Or.inr N33) (allS (Or.inr N_sa) (allS (Or.inr N_ta) all0))) (q := 55) rfl ?_
    intro v35 T35 h35 O35 K35 q35
    obtain ⟨rfl, F_sums_a33, F_steps_a33, F_size_a33, ⟨f35, V_sa⟩, ⟨g35, V_ta⟩⟩ := q35
    have E_a31 := E_a31.keep K35
    have F_cellCount_a31 := F_cellCount_a31.keep K35 (ninS ne_a31_a33 (ninS ne_a31_sa (ninS ne_a31_ta nin0)))
    have F_dividesOutright_a31 := F_dividesOutright_a31.keep K35 (ninS ne_a31_a33 (ninS ne_a31_sa (ninS ne_a31_ta nin0)))
    have E_a33 := E_a33.keep K35
    show Go C _ _ _ _ (T35.setTop (mkF C.m 55 #[.val (.int p0), .val (.int p1), .val (.long p2), .second, .val (.long p4), .second, .val (.int cap), .val (.int (4 : Int32)), .val (.ref a31), .val (.ref a33), .unset] []))
    refine Jvm.OwnW.iload O35 at_55 rfl (q := 57) rfl ?_
    refine Jvm.OwnW.iconst O35 at_57 (r := (2 : Int32)) rfl (q := 58) rfl ?_
    refine Jvm.OwnW.icmpNo O35 at_58 (flt (show ¬ ((4 : Int32) < (2 : Int32)) from (by decide))).1 (q := 61) rfl ?_
    refine Jvm.OwnW.aload O35 at_61 rfl rfl (q := 63) rfl ?_
    refine Jvm.OwnW.lload O35 at_63 rfl (q := 65) rfl ?_
    refine Jvm.OwnW.lloadN O35 at_65 rfl (q := 66) rfl ?_
    refine Jvm.OwnW.callV O35 (y := (⟨"com/example/occupancy/occupancy/hash/internal/CellBatch", "add", "(JJ)V"⟩ : MethodName)) (z := (⟨"com/example/occupancy/occupancy/hash/internal/CellBatch", "add", "(JJ)V"⟩ : MethodName)) (a := a33) (argsL := [(.long p4), (.long p2)]) (rest := []) at_66 (hw _ (List.mem_of_getElem? (i := 73) rfl)) (hw _ (List.mem_of_getElem? (i := 74) rfl)) (hw _ (List.mem_of_getElem? (i := 76) rfl)) rfl (hw _ (List.mem_of_getElem? (i := 75) rfl)) (hw _ (List.mem_of_getElem? (i := 21) rfl)) (hw _ (List.mem_of_getElem? (i := 77) rfl)) (by decide) (rm_a l Z a0 hw a33 p4 p2 sa ta (1 : Int32) cap (2 : Int32) nn 1 f35 g35 h35 E_a33 F_sums_a33 F_steps_a33 F_size_a33 V_sa V_ta ne_a33_sa ne_a33_ta nst hnn rfl (by omega) rfl) E_a33 rfl pd_7 rfl (hst := rfl) (W := 0) (Nat.le_of_eq rfl) (by decide) (by decide) (c2 := 9) (s2 := 53) rfl rfl (by decide) (by decide) (allS (Or.inr N33) (allS (Or.inr N_sa) (allS (Or.inr N_ta) all0))) (q := 69) rfl ?_
    intro v36 T36 h36 O36 K36 q36
    obtain ⟨rfl, F_sums_a33, F_steps_a33, F_size_a33, ⟨f36, V_sa⟩, ⟨g36, V_ta⟩⟩ := q36
    have E_a31 := E_a31.keep K36
    have F_cellCount_a31 := F_cellCount_a31.keep K36 (ninS ne_a31_a33 (ninS ne_a31_sa (ninS ne_a31_ta nin0)))
    have F_dividesOutright_a31 := F_dividesOutright_a31.keep K36 (ninS ne_a31_a33 (ninS ne_a31_sa (ninS ne_a31_ta nin0)))
    have E_a33 := E_a33.keep K36
    show Go C _ _ _ _ (T36.setTop (mkF C.m 69 #[.val (.int p0), .val (.int p1), .val (.long p2), .second, .val (.long p4), .second, .val (.int cap), .val (.int (4 : Int32)), .val (.ref a31), .val (.ref a33), .unset] []))
    refine Jvm.OwnW.iload O36 at_69 rfl (q := 71) rfl ?_
    refine Jvm.OwnW.iconst O36 at_71 (r := (3 : Int32)) rfl (q := 72) rfl ?_
    refine Jvm.OwnW.icmpNo O36 at_72 (flt (show ¬ ((4 : Int32) < (3 : Int32)) from (by decide))).1 (q := 75) rfl ?_
    refine Jvm.OwnW.aload O36 at_75 rfl rfl (q := 77) rfl ?_
    refine Jvm.OwnW.lloadN O36 at_77 rfl (q := 78) rfl ?_
    refine Jvm.OwnW.lload O36 at_78 rfl (q := 80) rfl ?_
    refine Jvm.OwnW.lxor O36 at_80 rfl (q := 81) rfl ?_
    refine Jvm.OwnW.lload O36 at_81 rfl (q := 83) rfl ?_
    refine Jvm.OwnW.callV O36 (y := (⟨"com/example/occupancy/occupancy/hash/internal/CellBatch", "add", "(JJ)V"⟩ : MethodName)) (z := (⟨"com/example/occupancy/occupancy/hash/internal/CellBatch", "add", "(JJ)V"⟩ : MethodName)) (a := a33) (argsL := [(.long (p2 ^^^ p4)), (.long p4)]) (rest := []) at_83 (hw _ (List.mem_of_getElem? (i := 73) rfl)) (hw _ (List.mem_of_getElem? (i := 74) rfl)) (hw _ (List.mem_of_getElem? (i := 76) rfl)) rfl (hw _ (List.mem_of_getElem? (i := 75) rfl)) (hw _ (List.mem_of_getElem? (i := 21) rfl)) (hw _ (List.mem_of_getElem? (i := 77) rfl)) (by decide) (rm_a l Z a0 hw a33 (p2 ^^^ p4) p4 sa ta (2 : Int32) cap (3 : Int32) nn 2 f36 g36 h36 E_a33 F_sums_a33 F_steps_a33 F_size_a33 V_sa V_ta ne_a33_sa ne_a33_ta nst hnn rfl (by omega) rfl) E_a33 rfl pd_7 rfl (hst := rfl) (W := 0) (Nat.le_of_eq rfl) (by decide) (by decide) (c2 := 9) (s2 := 53) rfl rfl (by decide) (by decide) (allS (Or.inr N33) (allS (Or.inr N_sa) (allS (Or.inr N_ta) all0))) (q := 86) rfl ?_
    intro v37 T37 h37 O37 K37 q37
    obtain ⟨rfl, F_sums_a33, F_steps_a33, F_size_a33, ⟨f37, V_sa⟩, ⟨g37, V_ta⟩⟩ := q37
    have E_a31 := E_a31.keep K37
    have F_cellCount_a31 := F_cellCount_a31.keep K37 (ninS ne_a31_a33 (ninS ne_a31_sa (ninS ne_a31_ta nin0)))
    have F_dividesOutright_a31 := F_dividesOutright_a31.keep K37 (ninS ne_a31_a33 (ninS ne_a31_sa (ninS ne_a31_ta nin0)))
    have E_a33 := E_a33.keep K37
    show Go C _ _ _ _ (T37.setTop (mkF C.m 86 #[.val (.int p0), .val (.int p1), .val (.long p2), .second, .val (.long p4), .second, .val (.int cap), .val (.int (4 : Int32)), .val (.ref a31), .val (.ref a33), .unset] []))
    refine Jvm.OwnW.iload O37 at_86 rfl (q := 88) rfl ?_
    refine Jvm.OwnW.iconst O37 at_88 (r := (4 : Int32)) rfl (q := 89) rfl ?_
    refine Jvm.OwnW.icmpNo O37 at_89 (flt (show ¬ ((4 : Int32) < (4 : Int32)) from (by decide))).1 (q := 92) rfl ?_
    refine Jvm.OwnW.aload O37 at_92 rfl rfl (q := 94) rfl ?_
    refine Jvm.OwnW.lloadN O37 at_94 rfl (q := 95) rfl ?_
    refine Jvm.OwnW.lloadN O37 at_95 rfl (q := 96) rfl ?_
    refine Jvm.OwnW.lload O37 at_96 rfl (q := 98) rfl ?_
    refine Jvm.OwnW.ladd O37 at_98 rfl (q := 99) rfl ?_
    refine Jvm.OwnW.callV O37 (y := (⟨"com/example/occupancy/occupancy/hash/internal/CellBatch", "add", "(JJ)V"⟩ : MethodName)) (z := (⟨"com/example/occupancy/occupancy/hash/internal/CellBatch", "add", "(JJ)V"⟩ : MethodName)) (a := a33) (argsL := [(.long p2), (.long (p2 + p4))]) (rest := []) at_99 (hw _ (List.mem_of_getElem? (i := 73) rfl)) (hw _ (List.mem_of_getElem? (i := 74) rfl)) (hw _ (List.mem_of_getElem? (i := 76) rfl)) rfl (hw _ (List.mem_of_getElem? (i := 75) rfl)) (hw _ (List.mem_of_getElem? (i := 21) rfl)) (hw _ (List.mem_of_getElem? (i := 77) rfl)) (by decide) (rm_a l Z a0 hw a33 p2 (p2 + p4) sa ta (3 : Int32) cap (4 : Int32) nn 3 f37 g37 h37 E_a33 F_sums_a33 F_steps_a33 F_size_a33 V_sa V_ta ne_a33_sa ne_a33_ta nst hnn rfl (by omega) rfl) E_a33 rfl pd_7 rfl (hst := rfl) (W := 0) (Nat.le_of_eq rfl) (by decide) (by decide) (c2 := 9) (s2 := 53) rfl rfl (by decide) (by decide) (allS (Or.inr N33) (allS (Or.inr N_sa) (allS (Or.inr N_ta) all0))) (q := 102) rfl ?_
    intro v38 T38 h38 O38 K38 q38
    obtain ⟨rfl, F_sums_a33, F_steps_a33, F_size_a33, ⟨f38, V_sa⟩, ⟨g38, V_ta⟩⟩ := q38
    have E_a31 := E_a31.keep K38
    have F_cellCount_a31 := F_cellCount_a31.keep K38 (ninS ne_a31_a33 (ninS ne_a31_sa (ninS ne_a31_ta nin0)))
    have F_dividesOutright_a31 := F_dividesOutright_a31.keep K38 (ninS ne_a31_a33 (ninS ne_a31_sa (ninS ne_a31_ta nin0)))
    have E_a33 := E_a33.keep K38
    show Go C _ _ _ _ (T38.setTop (mkF C.m 102 #[.val (.int p0), .val (.int p1), .val (.long p2), .second, .val (.long p4), .second, .val (.int cap), .val (.int (4 : Int32)), .val (.ref a31), .val (.ref a33), .unset] []))
    refine Jvm.OwnW.iload O38 at_102 rfl (q := 104) rfl ?_
    refine Jvm.OwnW.iload O38 at_104 rfl (q := 106) rfl ?_
    by_cases hc106 : (4 : Int32) = cap
    · refine Jvm.OwnW.icmpNo O38 at_106 (teq hc106).2 (q := 109) rfl ?_
      refine Jvm.OwnW.iconst O38 at_109 (r := (1 : Int32)) rfl (q := 110) rfl ?_
      refine Jvm.OwnW.goto O38 at_110 (by decide) (q := 114) rfl ?_
      refine Jvm.OwnW.istore O38 at_114 (L' := #[.val (.int p0), .val (.int p1), .val (.long p2), .second, .val (.long p4), .second, .val (.int cap), .val (.int (4 : Int32)), .val (.ref a31), .val (.ref a33), .val (.int (1 : Int32))]) rfl (q := 116) rfl ?_
      refine Jvm.OwnW.aload O38 at_116 rfl rfl (q := 118) rfl ?_
      refine Jvm.OwnW.callV0 O38 (y := (⟨"com/example/occupancy/occupancy/hash/internal/CellBatch", "isFull", "()Z"⟩ : MethodName)) (z := (⟨"com/example/occupancy/occupancy/hash/internal/CellBatch", "isFull", "()Z"⟩ : MethodName)) (a := a33) (argsL := []) (rest := []) at_118 (hw _ (List.mem_of_getElem? (i := 85) rfl)) (hw _ (List.mem_of_getElem? (i := 79) rfl)) (hw _ (List.mem_of_getElem? (i := 81) rfl)) rfl (hw _ (List.mem_of_getElem? (i := 80) rfl)) (hw _ (List.mem_of_getElem? (i := 21) rfl)) (hw _ (List.mem_of_getElem? (i := 82) rfl)) (by decide) (rm_f l Z a0 hw a33 sa (4 : Int32) cap nn f38 h38 E_a33 F_sums_a33 F_size_a33 V_sa hnn) E_a33 rfl pd_4 rfl (hst := rfl) (W := 0) (Nat.le_of_eq rfl) (by decide) (by decide) (c2 := 9) (s2 := 53) rfl rfl (by decide) (by decide) rfl rfl (q := 121) rfl ?_
      intro v39 T39 O39 q39
      obtain rfl := q39
      show Go C _ _ _ _ (T39.setTop (mkF C.m 121 #[.val (.int p0), .val (.int p1), .val (.long p2), .second, .val (.long p4), .second, .val (.int cap), .val (.int (4 : Int32)), .val (.ref a31), .val (.ref a33), .val (.int (1 : Int32))] [(.int (fn_f (4 : Int32) cap))]))
      refine Jvm.OwnW.iload O39 at_121 rfl (q := 123) rfl ?_
      refine Jvm.OwnW.icmpNo O39 at_123 (teq (show (fn_f (4 : Int32) cap) = (1 : Int32) from (by rw [fn_f, if_pos hc106]))).2 (q := 126) rfl ?_
      refine Jvm.OwnW.iconst O39 at_126 (r := (1 : Int32)) rfl (q := 127) rfl ?_
      refine Jvm.OwnW.goto O39 at_127 (by decide) (q := 131) rfl ?_
      exact Jvm.OwnW.retB O39 at_131 rfl (Or.inr rfl) (by decide) (by decide) rfl
    · refine Jvm.OwnW.icmpYes O38 at_106 (feq hc106).2 (by decide) (q := 113) rfl ?_
      refine Jvm.OwnW.iconst O38 at_113 (r := (0 : Int32)) rfl (q := 114) rfl ?_
      refine Jvm.OwnW.istore O38 at_114 (L' := #[.val (.int p0), .val (.int p1), .val (.long p2), .second, .val (.long p4), .second, .val (.int cap), .val (.int (4 : Int32)), .val (.ref a31), .val (.ref a33), .val (.int (0 : Int32))]) rfl (q := 116) rfl ?_
      refine Jvm.OwnW.aload O38 at_116 rfl rfl (q := 118) rfl ?_
      refine Jvm.OwnW.callV0 O38 (y := (⟨"com/example/occupancy/occupancy/hash/internal/CellBatch", "isFull", "()Z"⟩ : MethodName)) (z := (⟨"com/example/occupancy/occupancy/hash/internal/CellBatch", "isFull", "()Z"⟩ : MethodName)) (a := a33) (argsL := []) (rest := []) at_118 (hw _ (List.mem_of_getElem? (i := 85) rfl)) (hw _ (List.mem_of_getElem? (i := 79) rfl)) (hw _ (List.mem_of_getElem? (i := 81) rfl)) rfl (hw _ (List.mem_of_getElem? (i := 80) rfl)) (hw _ (List.mem_of_getElem? (i := 21) rfl)) (hw _ (List.mem_of_getElem? (i := 82) rfl)) (by decide) (rm_f l Z a0 hw a33 sa (4 : Int32) cap nn f38 h38 E_a33 F_sums_a33 F_size_a33 V_sa hnn) E_a33 rfl pd_4 rfl (hst := rfl) (W := 0) (Nat.le_of_eq rfl) (by decide) (by decide) (c2 := 9) (s2 := 53) rfl rfl (by decide) (by decide) rfl rfl (q := 121) rfl ?_
      intro v40 T40 O40 q40
      obtain rfl := q40
      show Go C _ _ _ _ (T40.setTop (mkF C.m 121 #[.val (.int p0), .val (.int p1), .val (.long p2), .second, .val (.long p4), .second, .val (.int cap), .val (.int (4 : Int32)), .val (.ref a31), .val (.ref a33), .val (.int (0 : Int32))] [(.int (fn_f (4 : Int32) cap))]))
      refine Jvm.OwnW.iload O40 at_121 rfl (q := 123) rfl ?_
      refine Jvm.OwnW.icmpNo O40 at_123 (teq (show (fn_f (4 : Int32) cap) = (0 : Int32) from (by rw [fn_f, if_neg hc106]))).2 (q := 126) rfl ?_
      refine Jvm.OwnW.iconst O40 at_126 (r := (1 : Int32)) rfl (q := 127) rfl ?_
      refine Jvm.OwnW.goto O40 at_127 (by decide) (q := 131) rfl ?_
      exact Jvm.OwnW.retB O40 at_131 rfl (Or.inr rfl) (by decide) (by decide) rfl
set_option maxRecDepth 65536 in
set_option maxHeartbeats 40000000 in
theorem comes_1 {Post : Tables → Env → Array Value → State → Outcome → State → Prop} (hpost : ∀ tb e args s v u, (limb_1_1.after args s (.returned v) u = true ∧ limb_1_2.after args s (.returned v) u = true ∧ True) → FramedW s (.returned v) u (Jvm.fieldLocs frame_1_writes args s ++ Jvm.arrayLocs frame_1_arrays args s ++ Jvm.staticLocs frame_1_statics s) 24 1216 → Post tb e args s (.returned v) u) :
    ArmFor flags0 classFile x code maxLocals ret World_1 tables_1 room_1 Calls_1 rest_1 Pre_1 Post := by
  intro l hfl _ _ p e ha hc hk s m args below hf hA hF happ hP
  obtain ⟨hcalls, hrest, hpre⟩ := hP
  obtain ⟨-, -, -, hnamed, -, -, -, hat⟩ := (Spec.applies_iff hf).mp happ
  obtain ⟨hg, hn⟩ := and_e (Cond.before_iff.mp (show (Jvm.Cond.and given_1 narrow_1).before args s = true from hpre))
  obtain ⟨hn1, hg⟩ := and_e hg
  obtain ⟨w0, w1, w2, w3, rfl⟩ : ∃ w0 w1 w2 w3 : Value, args = #[w0, w1, w2, w3] := by
    have hs : args.size = 4 := by simpa [Cond.value, given_1] using hn1
    obtain ⟨L⟩ := args
    match L, hs with
    | [w0, w1, w2, w3], _ => exact ⟨w0, w1, w2, w3, rfl⟩
  have hw := fun d (hd : d ∈ tables_1) => atoms_spec (ws := Jvm.Cond.code x code maxLocals ret :: tables_1) hat d (List.mem_cons_of_mem _ hd)
  obtain ⟨hg0, hg⟩ := and_e hg
  obtain ⟨i0, e0⟩ := is_v hg0
  obtain rfl : w0 = (.int i0) := Option.some.inj e0
  obtain ⟨hg1, hg⟩ := and_e hg
  obtain ⟨i1, e1⟩ := is_v hg1
  obtain rfl : w1 = (.int i1) := Option.some.inj e1
  obtain ⟨hg2, hg⟩ := and_e hg
  obtain ⟨i2, e2⟩ := isL_v hg2
  obtain rfl : w2 = (.long i2) := Option.some.inj e2
  obtain ⟨i3, e3⟩ := isL_v hg
  obtain rfl : w3 = (.long i3) := Option.some.inj e3

  obtain ⟨n, o, h1, h2, h3, _, L, rfl, ⟨N, -, -, rfl⟩, hq⟩ := rm_0 l s _ hw tables_1 i0 i1 i2 i3 s.heap  p e ha hc hk s m _ below hf ((Spec.applies_iff_loose hf).mp happ).1 ⟨rfl, State.Warmed39.refl s, rfl⟩ trivial
  refine ⟨n, _, h1, h2, h3, hpost _ _ _ _ _ _ ⟨Cond.after_iff.mpr rfl, Cond.after_iff.mpr (eq_i res_at (Term.int_eval (1)) rfl), trivial⟩ ⟨hq.1, hq.2.1, hq.2.2.1, (hq.2.2.2.sift fun y hy => Or.inr ((N y hy).elim (fun z => nomatch z) id)).mono (by decide) (by decide)⟩⟩
theorem main_1_1 : Claimed_1_1 := comes_1 fun _ _ _ _ _ _ h hF => ⟨h.1, hF⟩
theorem main_1_2 : Claimed_1_2 := comes_1 fun _ _ _ _ _ _ h hF => ⟨h.2.1, hF⟩
end Jvm.Pilot.@@N@@
namespace Jvm.Pilot.@@N@@
open Jvm Jvm.ClassFile Sem Op Lib Jvm.Free Jvm.Stand Jvm.Pilot.@@N@@.Jvm.D
/-! MADE BY PROGRAM (witnessworld.py) out of the Statement's table words and the real class files: 20 classes; the members and pool entries that the words name. The judged class is class 1, her method 1. -/
namespace start1
open Jvm.ClassFile
def u (s : String) : CpInfo := .utf8 (stringToUtf16 s)
/-- a pool by its gaps: so many unusable entries, then the entry; so many at the end -/
def gap : Nat → List CpInfo → List CpInfo
  | 0, r => r
  | n + 1, r => .unusable :: gap n r
def poolList (es : List (Nat × CpInfo)) (last : Nat) : List CpInfo := es.foldr (fun e r => gap e.1 (e.2 :: r)) (gap last [])
def pool (es : List (Nat × CpInfo)) (last : Nat) : Array CpInfo := ⟨poolList es last⟩
def fileOf (pool : Array CpInfo) (this : Nat) (attrs : Array Attribute := #[]) (ms : Array MethodInfo := #[]) (fl : Nat := 33) (sup : Nat := 0) (ifs : Array Nat := #[]) (fds : Array FieldInfo := #[]) : ClassFile where
  minorVersion := 0
  majorVersion := 65
  constantPool := pool
  accessFlags := fl
  thisClass := this
  superClass := sup
  interfaces := ifs
  fields := fds
  methods := ms
  attributes := attrs
def plain (name : String) (sup : Option ClassId) : Class where
  name := name
  kind := .ordinary
  loader := none
  accessFlags := 33
  super := sup
  interfaces := #[]
  cf := none
  fields := #[]
  methods := #[]
  instanceTypes := #[]
  staticTypes := #[]
  resolved := #[]
  callSites := []
  init := .initialized
  statics := none
  mirror := none

def pool0 : Array CpInfo := pool [(5, u "<init>"), (0, u "()V"), (1, .class_ 10), (1, u "java/lang/Object")] 113

def k0c0 : Code := { maxStack := 0, maxLocals := 1, code := object_method_1_code, exceptionTable := #[], attributes := #[] }
def k0m0 : Method := { name := "<init>", desc := "()V", sig := { parameters := [], returnType := none }, accessFlags := 1, code := some k0c0 }
/-- java/lang/Object -/
def k0 : Class := { plain "java/lang/Object" none with
  accessFlags := 33
  interfaces := #[]
  cf := some (fileOf pool0 8 #[] #[{ accessFlags := 1, nameIndex := 5, descriptorIndex := 6, attributes := #[] }] 33 0 #[] #[])
  fields := #[]
  methods := #[k0m0]
  instanceTypes := #[]
  staticTypes := #[]
  resolved := Array.replicate 124 none
  statics := none }

def pool1 : Array CpInfo := pool [(2, .class_ 4), (1, u "java/lang/Object"), (0, u "<init>"), (0, u "()V"), (0, .integer 2147483647), (0, .class_ 9), (0, u "com/example/occupancy/occupancy/hash/internal/CellRule"), (0, .methodref 8 11), (0, .nameAndType 5 12), (0, u "(J)V"), (0, .class_ 14), (0, u "com/example/occupancy/occupancy/hash/internal/CellBatch"), (0, .methodref 13 16), (0, .nameAndType 5 17), (0, u "(Lcom/example/occupancy/occupancy/hash/internal/CellRule;I)V"), (0, .methodref 13 19), (0, .nameAndType 20 21), (0, u "add"), (0, u "(JJ)V"), (0, .methodref 13 23), (0, .nameAndType 24 25), (0, u "isFull"), (0, u "()Z"), (0, .class_ 27), (0, u "com/example/occupancy/occupancy/hash/internal/CellBatchIsFullPinLaw"), (2, u "law"), (0, u "(IIJJ)Z")] 3

def k1m0 : Method := { name := "<init>", desc := "()V", sig := { parameters := [], returnType := none }, accessFlags := 1, code := none }
def k1c1 : Code := { maxStack := 7, maxLocals := 11, code := code, exceptionTable := #[], attributes := #[] }
def k1m1 : Method := { name := "law", desc := "(IIJJ)Z", sig := { parameters := [.int, .int, .long, .long], returnType := some .boolean }, accessFlags := 9, code := some k1c1 }
/-- com/example/occupancy/occupancy/hash/internal/CellBatchIsFullPinLaw -/
def k1 : Class := { plain "com/example/occupancy/occupancy/hash/internal/CellBatchIsFullPinLaw" (some 0) with
  accessFlags := 49
  interfaces := #[]
  cf := some (fileOf pool1 26 #[] #[{ accessFlags := 1, nameIndex := 5, descriptorIndex := 6, attributes := #[] }, { accessFlags := 9, nameIndex := 30, descriptorIndex := 31, attributes := #[] }] 49 2 #[] #[])
  fields := #[]
  methods := #[k1m0, k1m1]
  instanceTypes := #[]
  staticTypes := #[]
  resolved := Array.replicate 35 none
  statics := none }

def pool2 : Array CpInfo := pool [(1, .methodref 2 3), (0, .class_ 4), (0, .nameAndType 5 6), (0, u "java/lang/Object"), (0, u "<init>"), (0, u "()V"), (9, .fieldref 17 18), (0, .class_ 19), (0, .nameAndType 20 21), (0, u "com/example/occupancy/occupancy/hash/internal/CellRule"), (0, u "cellCount"), (0, u "J"), (0, .long 4), (1, .long 4611686018427387904), (1, .fieldref 17 27), (0, .nameAndType 28 29), (0, u "dividesOutright"), (0, u "Z"), (0, .fieldref 17 31), (0, .nameAndType 32 21), (0, u "reciprocal"), (0, .fieldref 17 34), (0, .nameAndType 35 36), (0, u "shift"), (0, u "I"), (0, .class_ 38), (0, u "java/lang/Long"), (13, u "()J"), (5, u "cellOf"), (0, u "(J)J"), (10, .methodref 37 71), (0, .nameAndType 72 73), (0, u "remainderUnsigned"), (0, u "(JJ)J"), (16, u "LEAST_RECIPROCAL_CELLS"), (1, u "MOST_RECIPROCAL_CELLS"), (0, u "LOW_HALF"), (0, u "(J)V")] 30

def k2c0 : Code := { maxStack := 5, maxLocals := 4, code := prog_32_method_1_code, exceptionTable := #[], attributes := #[] }
def k2m0 : Method := { name := "<init>", desc := "(J)V", sig := { parameters := [.long], returnType := none }, accessFlags := 1, code := some k2c0 }
def k2c1 : Code := { maxStack := 2, maxLocals := 1, code := prog_32_method_2_code, exceptionTable := #[], attributes := #[] }
def k2m1 : Method := { name := "cellCount", desc := "()J", sig := { parameters := [], returnType := some .long }, accessFlags := 1, code := some k2c1 }
def k2c2 : Code := { maxStack := 6, maxLocals := 9, code := prog_32_method_7_code, exceptionTable := #[], attributes := #[] }
def k2m2 : Method := { name := "cellOf", desc := "(J)J", sig := { parameters := [.long], returnType := some .long }, accessFlags := 1, code := some k2c2 }
/-- com/example/occupancy/occupancy/hash/internal/CellRule -/
def k2 : Class := { plain "com/example/occupancy/occupancy/hash/internal/CellRule" (some 0) with
  accessFlags := 33
  interfaces := #[]
  cf := some (fileOf pool2 17 #[] #[{ accessFlags := 1, nameIndex := 5, descriptorIndex := 94, attributes := #[] }, { accessFlags := 1, nameIndex := 20, descriptorIndex := 52, attributes := #[] }, { accessFlags := 1, nameIndex := 58, descriptorIndex := 59, attributes := #[] }] 33 2 #[] #[{ accessFlags := 26, nameIndex := 90, descriptorIndex := 21, attributes := #[] }, { accessFlags := 26, nameIndex := 92, descriptorIndex := 21, attributes := #[] }, { accessFlags := 26, nameIndex := 93, descriptorIndex := 21, attributes := #[] }, { accessFlags := 18, nameIndex := 20, descriptorIndex := 21, attributes := #[] }, { accessFlags := 18, nameIndex := 28, descriptorIndex := 29, attributes := #[] }, { accessFlags := 18, nameIndex := 32, descriptorIndex := 21, attributes := #[] }, { accessFlags := 18, nameIndex := 35, descriptorIndex := 36, attributes := #[] }])
  fields := #[{ name := "LEAST_RECIPROCAL_CELLS", type := .long, accessFlags := 26, slot := 0, constantValue := 0 }, { name := "MOST_RECIPROCAL_CELLS", type := .long, accessFlags := 26, slot := 1, constantValue := 0 }, { name := "LOW_HALF", type := .long, accessFlags := 26, slot := 2, constantValue := 0 }, { name := "cellCount", type := .long, accessFlags := 18, slot := 0, constantValue := 0 }, { name := "dividesOutright", type := .boolean, accessFlags := 18, slot := 1, constantValue := 0 }, { name := "reciprocal", type := .long, accessFlags := 18, slot := 2, constantValue := 0 }, { name := "shift", type := .int, accessFlags := 18, slot := 3, constantValue := 0 }]
  methods := #[k2m0, k2m1, k2m2]
  instanceTypes := #[.long, .boolean, .long, .int]
  staticTypes := #[.long, .long, .long]
  resolved := Array.replicate 125 none
  statics := none }

def pool3 : Array CpInfo := pool [(1, .methodref 2 3), (0, .class_ 4), (0, .nameAndType 5 6), (0, u "java/lang/Object"), (0, u "<init>"), (0, u "()V"), (9, .string 17), (0, u "rule"), (0, .methodref 19 20), (0, .class_ 21), (0, .nameAndType 22 23), (0, u "java/util/Objects"), (0, u "requireNonNull"), (0, u "(Ljava/lang/Object;Ljava/lang/String;)Ljava/lang/Object;"), (0, .class_ 25), (0, u "com/example/occupancy/occupancy/hash/internal/CellRule"), (0, .fieldref 27 28), (0, .class_ 29), (0, .nameAndType 17 30), (0, u "com/example/occupancy/occupancy/hash/internal/CellBatch"), (0, u "Lcom/example/occupancy/occupancy/hash/internal/CellRule;"), (0, .methodref 24 32), (0, .nameAndType 33 34), (0, u "cellCount"), (0, u "()J"), (0, .fieldref 27 36), (0, .nameAndType 33 37), (0, u "J"), (0, .long 18446744073709551615), (1, .methodref 24 41), (0, .nameAndType 42 43), (0, u "cellOf"), (0, u "(J)J"), (0, .fieldref 27 45), (0, .nameAndType 46 37), (0, u "wrapLoss"), (0, .fieldref 27 48), (0, .nameAndType 49 50), (0, u "sums"), (0, u "[J"), (0, .fieldref 27 52), (0, .nameAndType 53 50), (0, u "steps"), (0, .fieldref 27 55), (0, .nameAndType 56 50), (0, u "cells"), (0, .fieldref 27 58), (0, .nameAndType 59 50), (0, u "plainSteps"), (0, .fieldref 27 61), (0, .nameAndType 62 50), (0, u "wrapFlips"), (8, u "(Lcom/example/occupancy/occupancy/hash/internal/CellRule;I)V"), (0, .fieldref 27 73), (0, .nameAndType 74 75), (0, u "size"), (0, u "I"), (10, u "add"), (0, u "(JJ)V"), (16, .class_ 106), (1, u "com/example/occupancy/occupancy/hash/internal/CellBatch$Taker"), (24, .methodref 27 132), (0, .nameAndType 133 134), (0, u "isFull"), (0, u "()Z")] 60

def k3c0 : Code := { maxStack := 5, maxLocals := 3, code := prog_29_method_1_code, exceptionTable := #[], attributes := #[] }
def k3m0 : Method := { name := "<init>", desc := "(Lcom/example/occupancy/occupancy/hash/internal/CellRule;I)V", sig := { parameters := [(.object "com/example/occupancy/occupancy/hash/internal/CellRule"), .int], returnType := none }, accessFlags := 1, code := some k3c0 }
def k3c1 : Code := { maxStack := 2, maxLocals := 1, code := prog_29_method_4_code, exceptionTable := #[], attributes := #[] }
def k3m1 : Method := { name := "isFull", desc := "()Z", sig := { parameters := [], returnType := some .boolean }, accessFlags := 1, code := some k3c1 }
def k3c2 : Code := { maxStack := 4, maxLocals := 6, code := prog_29_method_14_code, exceptionTable := #[], attributes := #[] }
def k3m2 : Method := { name := "add", desc := "(JJ)V", sig := { parameters := [.long, .long], returnType := none }, accessFlags := 0, code := some k3c2 }
/-- com/example/occupancy/occupancy/hash/internal/CellBatch -/
def k3 : Class := { plain "com/example/occupancy/occupancy/hash/internal/CellBatch" (some 0) with
  accessFlags := 33
  interfaces := #[]
  cf := some (fileOf pool3 27 #[.nestMembers #[104]] #[{ accessFlags := 1, nameIndex := 5, descriptorIndex := 71, attributes := #[] }, { accessFlags := 1, nameIndex := 133, descriptorIndex := 134, attributes := #[] }, { accessFlags := 0, nameIndex := 86, descriptorIndex := 87, attributes := #[] }] 33 2 #[] #[{ accessFlags := 18, nameIndex := 17, descriptorIndex := 30, attributes := #[] }, { accessFlags := 18, nameIndex := 33, descriptorIndex := 37, attributes := #[] }, { accessFlags := 18, nameIndex := 46, descriptorIndex := 37, attributes := #[] }, { accessFlags := 18, nameIndex := 49, descriptorIndex := 50, attributes := #[] }, { accessFlags := 18, nameIndex := 53, descriptorIndex := 50, attributes := #[] }, { accessFlags := 18, nameIndex := 56, descriptorIndex := 50, attributes := #[] }, { accessFlags := 18, nameIndex := 59, descriptorIndex := 50, attributes := #[] }, { accessFlags := 18, nameIndex := 62, descriptorIndex := 50, attributes := #[] }, { accessFlags := 2, nameIndex := 74, descriptorIndex := 75, attributes := #[] }])
  fields := #[{ name := "rule", type := (.object "com/example/occupancy/occupancy/hash/internal/CellRule"), accessFlags := 18, slot := 0, constantValue := 0 }, { name := "cellCount", type := .long, accessFlags := 18, slot := 1, constantValue := 0 }, { name := "wrapLoss", type := .long, accessFlags := 18, slot := 2, constantValue := 0 }, { name := "sums", type := (.array .long), accessFlags := 18, slot := 3, constantValue := 0 }, { name := "steps", type := (.array .long), accessFlags := 18, slot := 4, constantValue := 0 }, { name := "cells", type := (.array .long), accessFlags := 18, slot := 5, constantValue := 0 }, { name := "plainSteps", type := (.array .long), accessFlags := 18, slot := 6, constantValue := 0 }, { name := "wrapFlips", type := (.array .long), accessFlags := 18, slot := 7, constantValue := 0 }, { name := "size", type := .int, accessFlags := 2, slot := 8, constantValue := 0 }]
  methods := #[k3m0, k3m1, k3m2]
  instanceTypes := #[(.object "com/example/occupancy/occupancy/hash/internal/CellRule"), .long, .long, (.array .long), (.array .long), (.array .long), (.array .long), (.array .long), .int]
  staticTypes := #[]
  resolved := Array.replicate 195 none
  statics := none }

def pool4 : Array CpInfo := pool [(1, .class_ 2), (0, u "java/io/Serializable"), (0, .class_ 4), (0, u "java/lang/Object")] 2

/-- java/io/Serializable -/
def k4 : Class := { plain "java/io/Serializable" (some 0) with
  accessFlags := 1537
  interfaces := #[]
  cf := some (fileOf pool4 1 #[] #[] 1537 3 #[] #[])
  fields := #[]
  methods := #[]
  instanceTypes := #[]
  staticTypes := #[]
  resolved := Array.replicate 7 none
  statics := none }

def pool5 : Array CpInfo := pool [(1, .class_ 2), (0, u "java/lang/Comparable"), (0, .class_ 4), (0, u "java/lang/Object")] 7

/-- java/lang/Comparable -/
def k5 : Class := { plain "java/lang/Comparable" (some 0) with
  accessFlags := 1537
  interfaces := #[]
  cf := some (fileOf pool5 1 #[] #[] 1537 3 #[] #[])
  fields := #[]
  methods := #[]
  instanceTypes := #[]
  staticTypes := #[]
  resolved := Array.replicate 12 none
  statics := none }

def pool6 : Array CpInfo := pool [(2, .class_ 4), (1, u "java/lang/CharSequence"), (42, .class_ 48), (0, u "java/lang/CharSequence$1CodePointIterator"), (10, .class_ 60), (0, u "java/lang/CharSequence$1CharIterator"), (5, .class_ 67), (0, u "java/lang/Object")] 63

/-- java/lang/CharSequence -/
def k6 : Class := { plain "java/lang/CharSequence" (some 0) with
  accessFlags := 1537
  interfaces := #[]
  cf := some (fileOf pool6 2 #[.nestMembers #[47, 59]] #[] 1537 66 #[] #[])
  fields := #[]
  methods := #[]
  instanceTypes := #[]
  staticTypes := #[]
  resolved := Array.replicate 131 none
  statics := none }

def pool7 : Array CpInfo := pool [(1, .class_ 2), (0, u "java/lang/constant/Constable"), (0, .class_ 4), (0, u "java/lang/Object")] 6

/-- java/lang/constant/Constable -/
def k7 : Class := { plain "java/lang/constant/Constable" (some 0) with
  accessFlags := 1537
  interfaces := #[]
  cf := some (fileOf pool7 1 #[] #[] 1537 3 #[] #[])
  fields := #[]
  methods := #[]
  instanceTypes := #[]
  staticTypes := #[]
  resolved := Array.replicate 11 none
  statics := none }

def pool8 : Array CpInfo := pool [(1, .class_ 2), (0, u "java/lang/constant/ConstantDesc"), (0, .class_ 4), (0, u "java/lang/Object")] 32

/-- java/lang/constant/ConstantDesc -/
def k8 : Class := { plain "java/lang/constant/ConstantDesc" (some 0) with
  accessFlags := 1537
  interfaces := #[]
  cf := some (fileOf pool8 1 #[] #[] 1537 3 #[] #[])
  fields := #[]
  methods := #[]
  instanceTypes := #[]
  staticTypes := #[]
  resolved := Array.replicate 37 none
  statics := none }

def pool9 : Array CpInfo := pool [(2, .class_ 4), (1, u "java/lang/Object"), (0, u "<init>"), (0, u "()V"), (3, .class_ 12), (1, u "java/lang/String"), (0, u "value"), (0, u "[B"), (2, u "coder"), (0, u "B"), (2, u "hash"), (0, u "I"), (2, u "hashIsZero"), (0, u "Z"), (13, u "COMPACT_STRINGS"), (534, .class_ 576), (0, u "java/lang/CharSequence"), (22, u "CASE_INSENSITIVE_ORDER"), (0, u "Ljava/util/Comparator;"), (500, u "serialPersistentFields"), (0, u "[Ljava/io/ObjectStreamField;"), (0, .class_ 1104), (0, u "java/lang/String$CaseInsensitiveComparator"), (1, .class_ 1107), (0, u "java/io/Serializable"), (0, .class_ 1109), (0, u "java/lang/Comparable"), (0, .class_ 1111), (0, u "java/lang/constant/Constable"), (0, .class_ 1113), (0, u "java/lang/constant/ConstantDesc"), (2, u "serialVersionUID"), (0, u "J"), (3, u "REPL"), (0, u "C"), (2, u "LATIN1"), (1, u "UTF16")] 323

def k9m0 : Method := { name := "<init>", desc := "()V", sig := { parameters := [], returnType := none }, accessFlags := 1, code := none }
/-- java/lang/String -/
def k9 : Class := { plain "java/lang/String" (some 0) with
  accessFlags := 49
  interfaces := #[4, 5, 6, 7, 8]
  cf := some (fileOf pool9 10 #[.nestMembers #[1103]] #[{ accessFlags := 1, nameIndex := 5, descriptorIndex := 6, attributes := #[] }] 49 2 #[1106, 1108, 575, 1110, 1112] #[{ accessFlags := 18, nameIndex := 13, descriptorIndex := 14, attributes := #[] }, { accessFlags := 18, nameIndex := 17, descriptorIndex := 18, attributes := #[] }, { accessFlags := 2, nameIndex := 21, descriptorIndex := 22, attributes := #[] }, { accessFlags := 2, nameIndex := 25, descriptorIndex := 26, attributes := #[] }, { accessFlags := 26, nameIndex := 1116, descriptorIndex := 1117, attributes := #[] }, { accessFlags := 24, nameIndex := 40, descriptorIndex := 26, attributes := #[] }, { accessFlags := 26, nameIndex := 1101, descriptorIndex := 1102, attributes := #[] }, { accessFlags := 26, nameIndex := 1121, descriptorIndex := 1122, attributes := #[] }, { accessFlags := 25, nameIndex := 599, descriptorIndex := 600, attributes := #[] }, { accessFlags := 24, nameIndex := 1125, descriptorIndex := 18, attributes := #[] }, { accessFlags := 24, nameIndex := 1127, descriptorIndex := 18, attributes := #[] }])
  fields := #[{ name := "value", type := (.array .byte), accessFlags := 18, slot := 0, constantValue := 0 }, { name := "coder", type := .byte, accessFlags := 18, slot := 1, constantValue := 0 }, { name := "hash", type := .int, accessFlags := 2, slot := 2, constantValue := 0 }, { name := "hashIsZero", type := .boolean, accessFlags := 2, slot := 3, constantValue := 0 }, { name := "serialVersionUID", type := .long, accessFlags := 26, slot := 0, constantValue := 0 }, { name := "COMPACT_STRINGS", type := .boolean, accessFlags := 24, slot := 1, constantValue := 0 }, { name := "serialPersistentFields", type := (.array (.object "java/io/ObjectStreamField")), accessFlags := 26, slot := 2, constantValue := 0 }, { name := "REPL", type := .char, accessFlags := 26, slot := 3, constantValue := 0 }, { name := "CASE_INSENSITIVE_ORDER", type := (.object "java/util/Comparator"), accessFlags := 25, slot := 4, constantValue := 0 }, { name := "LATIN1", type := .byte, accessFlags := 24, slot := 5, constantValue := 0 }, { name := "UTF16", type := .byte, accessFlags := 24, slot := 6, constantValue := 0 }]
  methods := #[k9m0]
  instanceTypes := #[(.array .byte), .byte, .int, .boolean]
  staticTypes := #[.long, .boolean, (.array (.object "java/io/ObjectStreamField")), .char, (.object "java/util/Comparator"), .byte, .byte]
  resolved := Array.replicate 1451 none
  statics := none }

def pool10 : Array CpInfo := pool [(2, .class_ 4), (1, u "java/lang/Object"), (0, u "<init>"), (0, u "()V"), (35, .class_ 44), (1, u "java/util/Objects"), (0, u "requireNonNull"), (48, u "(Ljava/lang/Object;Ljava/lang/String;)Ljava/lang/Object;")] 89

def k10m0 : Method := { name := "<init>", desc := "()V", sig := { parameters := [], returnType := none }, accessFlags := 2, code := none }
def k10c1 : Code := { maxStack := 3, maxLocals := 2, code := jdk_31_method_11_code, exceptionTable := #[], attributes := #[] }
def k10m1 : Method := { name := "requireNonNull", desc := "(Ljava/lang/Object;Ljava/lang/String;)Ljava/lang/Object;", sig := { parameters := [(.object "java/lang/Object"), (.object "java/lang/String")], returnType := some (.object "java/lang/Object") }, accessFlags := 9, code := some k10c1 }
/-- java/util/Objects -/
def k10 : Class := { plain "java/util/Objects" (some 0) with
  accessFlags := 49
  interfaces := #[]
  cf := some (fileOf pool10 42 #[] #[{ accessFlags := 2, nameIndex := 5, descriptorIndex := 6, attributes := #[] }, { accessFlags := 9, nameIndex := 45, descriptorIndex := 94, attributes := #[] }] 49 2 #[] #[])
  fields := #[]
  methods := #[k10m0, k10m1]
  instanceTypes := #[]
  staticTypes := #[]
  resolved := Array.replicate 184 none
  statics := none }

def pool11 : Array CpInfo := pool [(2, .class_ 4), (1, u "java/lang/Object"), (0, u "<init>"), (0, u "()V"), (1, .class_ 10), (1, u "java/lang/Number"), (2, .class_ 14), (0, u "java/io/Serializable"), (0, u "serialVersionUID"), (0, u "J")] 20

def k11m0 : Method := { name := "<init>", desc := "()V", sig := { parameters := [], returnType := none }, accessFlags := 1, code := none }
/-- java/lang/Number -/
def k11 : Class := { plain "java/lang/Number" (some 0) with
  accessFlags := 1057
  interfaces := #[4]
  cf := some (fileOf pool11 8 #[] #[{ accessFlags := 1, nameIndex := 5, descriptorIndex := 6, attributes := #[] }] 1057 2 #[13] #[{ accessFlags := 26, nameIndex := 15, descriptorIndex := 16, attributes := #[] }])
  fields := #[{ name := "serialVersionUID", type := .long, accessFlags := 26, slot := 0, constantValue := 0 }]
  methods := #[k11m0]
  instanceTypes := #[]
  staticTypes := #[.long]
  resolved := Array.replicate 37 none
  statics := none }

def pool12 : Array CpInfo := pool [(1, .class_ 2), (0, u "java/lang/Long"), (232, .class_ 237), (1, u "java/lang/Long$LongCache"), (33, .class_ 272), (0, u "java/lang/Number"), (2, u "value"), (0, u "J"), (29, .long 18446744073709551615), (26, u "(JJ)J"), (27, u "TYPE"), (0, u "Ljava/lang/Class;"), (0, .class_ 364), (0, u "java/lang/Comparable"), (0, .class_ 366), (0, u "java/lang/constant/Constable"), (0, .class_ 368), (0, u "java/lang/constant/ConstantDesc"), (0, u "MIN_VALUE"), (1, u "MAX_VALUE"), (4, u "SIZE"), (0, u "I"), (1, u "BYTES"), (1, u "serialVersionUID"), (91, u "remainderUnsigned")] 50

def k12c0 : Code := { maxStack := 8, maxLocals := 8, code := jdk_35_method_45_code, exceptionTable := #[], attributes := #[] }
def k12m0 : Method := { name := "remainderUnsigned", desc := "(JJ)J", sig := { parameters := [.long, .long], returnType := some .long }, accessFlags := 9, code := some k12c0 }
/-- java/lang/Long -/
def k12 : Class := { plain "java/lang/Long" (some 11) with
  accessFlags := 49
  interfaces := #[5, 7, 8]
  cf := some (fileOf pool12 1 #[.nestMembers #[235]] #[{ accessFlags := 9, nameIndex := 473, descriptorIndex := 333, attributes := #[] }] 49 271 #[363, 365, 367] #[{ accessFlags := 25, nameIndex := 369, descriptorIndex := 276, attributes := #[] }, { accessFlags := 25, nameIndex := 371, descriptorIndex := 276, attributes := #[] }, { accessFlags := 25, nameIndex := 361, descriptorIndex := 362, attributes := #[] }, { accessFlags := 18, nameIndex := 275, descriptorIndex := 276, attributes := #[] }, { accessFlags := 25, nameIndex := 376, descriptorIndex := 377, attributes := #[] }, { accessFlags := 25, nameIndex := 379, descriptorIndex := 377, attributes := #[] }, { accessFlags := 26, nameIndex := 381, descriptorIndex := 276, attributes := #[] }])
  fields := #[{ name := "MIN_VALUE", type := .long, accessFlags := 25, slot := 0, constantValue := 0 }, { name := "MAX_VALUE", type := .long, accessFlags := 25, slot := 1, constantValue := 0 }, { name := "TYPE", type := (.object "java/lang/Class"), accessFlags := 25, slot := 2, constantValue := 0 }, { name := "value", type := .long, accessFlags := 18, slot := 0, constantValue := 0 }, { name := "SIZE", type := .int, accessFlags := 25, slot := 3, constantValue := 0 }, { name := "BYTES", type := .int, accessFlags := 25, slot := 4, constantValue := 0 }, { name := "serialVersionUID", type := .long, accessFlags := 26, slot := 5, constantValue := 0 }]
  methods := #[k12m0]
  instanceTypes := #[.long]
  staticTypes := #[.long, .long, (.object "java/lang/Class"), .int, .int, .long]
  resolved := Array.replicate 524 none
  statics := none }

def pool13 : Array CpInfo := pool [(1, u "java/lang/Cloneable"), (0, .class_ 1), (0, u "java/lang/Object"), (0, .class_ 3)] 3

/-- java/lang/Cloneable -/
def k13 : Class := { plain "java/lang/Cloneable" (some 0) with
  accessFlags := 1537
  interfaces := #[]
  cf := some (fileOf pool13 2 #[] #[] 1537 4 #[] #[])
  fields := #[]
  methods := #[]
  instanceTypes := #[]
  staticTypes := #[]
  resolved := Array.replicate 8 none
  statics := none }

/-- the primitive byte -/
def k14 : Class := { plain "byte" none with kind := .primitive 'B', accessFlags := 0x411 }
/-- [B -/
def k15 : Class := { plain "[B" (some 0) with kind := .array 14 .byte, interfaces := #[13, 4], accessFlags := 1041 }

/-- the primitive int -/
def k16 : Class := { plain "int" none with kind := .primitive 'I', accessFlags := 0x411 }
/-- [I -/
def k17 : Class := { plain "[I" (some 0) with kind := .array 16 .int, interfaces := #[13, 4], accessFlags := 1041 }

/-- the primitive long -/
def k18 : Class := { plain "long" none with kind := .primitive 'J', accessFlags := 0x411 }
/-- [J -/
def k19 : Class := { plain "[J" (some 0) with kind := .array 18 .long, interfaces := #[13, 4], accessFlags := 1041 }

def heap : Heap := #[]
def classes : Array Class := #[k0, k1, k2, k3, k4, k5, k6, k7, k8, k9, k10, k11, k12, k13, k14, k15, k16, k17, k18, k19]
def interned : List (Array UInt16 × Addr) := []
def slotsUsed : Nat := 0
def theMethod : MethodId := ⟨1, 1⟩
def args0 : Array Value := #[.int 5, .int 7, .long 3, .long 4]
def aboutOver (below : List Frame) : State where
  vm := { classes := classes, interned := interned.toArray }
  heap := heap
  slotsUsed := slotsUsed
  threads := #[{ frames := .invoking theMethod args0 :: below }]
def below0 : List Frame := [.native { method := ⟨0, 0⟩, args := #[] }]
def about1 : State := aboutOver below0
def p0 : Program := .bare "" "" ""
def e0 : Env := launch0.env 0 0 0
theorem w_frames : about1.frames = Frame.invoking theMethod args0 :: below0 := rfl
set_option maxRecDepth 65536 in
theorem w_args : argsFit about1.vm theMethod args0 = true := by decide +kernel
set_option maxRecDepth 65536 in
theorem w_heap : heapFits about1 = true := by decide +kernel
set_option maxRecDepth 65536 in
theorem w_runnable : about1.curStatus? = some .runnable := by decide +kernel
set_option maxRecDepth 65536 in
theorem w_alone : about1.alone = true := by decide +kernel
set_option maxRecDepth 65536 in
theorem w_named : about1.methodNamed? x = some theMethod := by decide +kernel
set_option maxRecDepth 65536 in
theorem w_hears : about1.hears theMethod below0 = true := by decide +kernel
set_option maxRecDepth 65536 in
theorem w_ripe : about1.ripe theMethod args0 below0 = true := by decide +kernel
theorem w_running : about1.status = .running := rfl
set_option maxRecDepth 65536 in
theorem w_room : about1.hasRoom e0.platform room_1 = true :=
  launch0.hasRoom_least _ room_1 (by decide +kernel) (by decide +kernel) (by decide +kernel) (by decide +kernel) (by decide +kernel) (by decide +kernel)
theorem allAtoms_all (ts : List Jvm.Cond) (a : Array Jvm.Value) (st : Jvm.State) : (allAtoms ts).before a st = ts.all (fun c => c.before a st) := by
  induction ts with
  | nil => rfl
  | cons c t ih =>
    show (Jvm.Cond.and c (allAtoms t)).before a st = _
    rw [Jvm.Cond.before_and, ih, List.all_cons]
def words1 : List Jvm.Cond := Jvm.Cond.code x code maxLocals ret :: tables_1
/-- a 'code' word, met by the world's own term for the bytes: nothing is compared byte by byte -/
theorem code_word {y : MethodName} {bytes : ByteArray} {mx : Nat} {rt : Option FieldType} {a : Array Value} {s : State} {m : MethodId} {meth : Method} {c : Code} (h1 : s.methodNamed? y = some m) (h2 : s.vm.method? m = some meth) (h3 : meth.code = some c) (h4 : c.code = bytes)
    (h5 : (c.maxLocals == mx && c.exceptionTable.isEmpty && decide (c.maxStack ≤ mostOperands) && decide (meth.sig.returnType = rt) && !meth.locks && decide (parseMethodDescriptor y.desc = some meth.sig)) = true) : (Jvm.Cond.code y bytes mx rt).before a s = true := by
  simp only [Bool.and_eq_true, beq_iff_eq, Bool.not_eq_true', decide_eq_true_eq] at h5
  obtain ⟨⟨⟨⟨⟨g1, g2⟩, g3⟩, g4⟩, g5⟩, g6⟩ := h5
  simp [Cond.before, Cond.holds, Cond.value, h1, h2, h3, h4, g1, g2, g3, g4, g5, g6]
def isCode : Jvm.Cond → Bool
  | .code _ _ _ _ => true
  | _ => false
theorem all_split {L : List Jvm.Cond} {P : Jvm.Cond → Bool} (h1 : L.all (fun c => isCode c || P c) = true) (h2 : ∀ c ∈ L.filter isCode, P c = true) : L.all P = true := by
  refine List.all_eq_true.mpr fun c hc => ?_
  have h := List.all_eq_true.mp h1 c hc
  rcases Bool.eq_false_or_eq_true (isCode c) with hi | hi
  · exact h2 c (List.mem_filter.mpr ⟨hc, hi⟩)
  · simpa [hi] using h
set_option maxRecDepth 65536 in
theorem w_c0 : (Jvm.Cond.code x code maxLocals ret).before args0 about1 = true := code_word (m := ⟨1, 1⟩) (meth := k1m1) (c := k1c1) (by decide +kernel) rfl rfl rfl (by decide +kernel)
set_option maxRecDepth 65536 in
theorem w_c1 : (Jvm.Cond.code ({ cls := "com/example/occupancy/occupancy/hash/internal/CellRule", name := "<init>", desc := "(J)V" } : Jvm.MethodName) prog_32_method_1_code (4 : Nat) (Option.none : Option Jvm.ClassFile.FieldType)).before args0 about1 = true := code_word (m := ⟨2, 0⟩) (meth := k2m0) (c := k2c0) (by decide +kernel) rfl rfl rfl (by decide +kernel)
set_option maxRecDepth 65536 in
theorem w_c2 : (Jvm.Cond.code ({ cls := "java/lang/Object", name := "<init>", desc := "()V" } : Jvm.MethodName) object_method_1_code (1 : Nat) (Option.none : Option Jvm.ClassFile.FieldType)).before args0 about1 = true := code_word (m := ⟨0, 0⟩) (meth := k0m0) (c := k0c0) (by decide +kernel) rfl rfl rfl (by decide +kernel)
set_option maxRecDepth 65536 in
theorem w_c3 : (Jvm.Cond.code ({ cls := "com/example/occupancy/occupancy/hash/internal/CellBatch", name := "<init>", desc := "(Lcom/example/occupancy/occupancy/hash/internal/CellRule;I)V" } : Jvm.MethodName) prog_29_method_1_code (3 : Nat) (Option.none : Option Jvm.ClassFile.FieldType)).before args0 about1 = true := code_word (m := ⟨3, 0⟩) (meth := k3m0) (c := k3c0) (by decide +kernel) rfl rfl rfl (by decide +kernel)
set_option maxRecDepth 65536 in
theorem w_c4 : (Jvm.Cond.code ({ cls := "java/util/Objects", name := "requireNonNull", desc := "(Ljava/lang/Object;Ljava/lang/String;)Ljava/lang/Object;" } : Jvm.MethodName) jdk_31_method_11_code (2 : Nat) (Option.some (Jvm.ClassFile.FieldType.object "java/lang/Object"))).before args0 about1 = true := code_word (m := ⟨10, 1⟩) (meth := k10m1) (c := k10c1) (by decide +kernel) rfl rfl rfl (by decide +kernel)
set_option maxRecDepth 65536 in
theorem w_c5 : (Jvm.Cond.code ({ cls := "com/example/occupancy/occupancy/hash/internal/CellRule", name := "cellCount", desc := "()J" } : Jvm.MethodName) prog_32_method_2_code (1 : Nat) (Option.some Jvm.ClassFile.FieldType.long)).before args0 about1 = true := code_word (m := ⟨2, 1⟩) (meth := k2m1) (c := k2c1) (by decide +kernel) rfl rfl rfl (by decide +kernel)
set_option maxRecDepth 65536 in
theorem w_c6 : (Jvm.Cond.code ({ cls := "com/example/occupancy/occupancy/hash/internal/CellRule", name := "cellOf", desc := "(J)J" } : Jvm.MethodName) prog_32_method_7_code (9 : Nat) (Option.some Jvm.ClassFile.FieldType.long)).before args0 about1 = true := code_word (m := ⟨2, 2⟩) (meth := k2m2) (c := k2c2) (by decide +kernel) rfl rfl rfl (by decide +kernel)
set_option maxRecDepth 65536 in
theorem w_c7 : (Jvm.Cond.code ({ cls := "java/lang/Long", name := "remainderUnsigned", desc := "(JJ)J" } : Jvm.MethodName) jdk_35_method_45_code (8 : Nat) (Option.some Jvm.ClassFile.FieldType.long)).before args0 about1 = true := code_word (m := ⟨12, 0⟩) (meth := k12m0) (c := k12c0) (by decide +kernel) rfl rfl rfl (by decide +kernel)
set_option maxRecDepth 65536 in
theorem w_c8 : (Jvm.Cond.code ({ cls := "com/example/occupancy/occupancy/hash/internal/CellBatch", name := "add", desc := "(JJ)V" } : Jvm.MethodName) prog_29_method_14_code (6 : Nat) (Option.none : Option Jvm.ClassFile.FieldType)).before args0 about1 = true := code_word (m := ⟨3, 2⟩) (meth := k3m2) (c := k3c2) (by decide +kernel) rfl rfl rfl (by decide +kernel)
set_option maxRecDepth 65536 in
theorem w_c9 : (Jvm.Cond.code ({ cls := "com/example/occupancy/occupancy/hash/internal/CellBatch", name := "isFull", desc := "()Z" } : Jvm.MethodName) prog_29_method_4_code (1 : Nat) (Option.some Jvm.ClassFile.FieldType.boolean)).before args0 about1 = true := code_word (m := ⟨3, 1⟩) (meth := k3m1) (c := k3c1) (by decide +kernel) rfl rfl rfl (by decide +kernel)
def codes1 : List Jvm.Cond := [Jvm.Cond.code x code maxLocals ret, Jvm.Cond.code ({ cls := "com/example/occupancy/occupancy/hash/internal/CellRule", name := "<init>", desc := "(J)V" } : Jvm.MethodName) prog_32_method_1_code (4 : Nat) (Option.none : Option Jvm.ClassFile.FieldType), Jvm.Cond.code ({ cls := "java/lang/Object", name := "<init>", desc := "()V" } : Jvm.MethodName) object_method_1_code (1 : Nat) (Option.none : Option Jvm.ClassFile.FieldType), Jvm.Cond.code ({ cls := "com/example/occupancy/occupancy/hash/internal/CellBatch", name := "<init>", desc := "(Lcom/example/occupancy/occupancy/hash/internal/CellRule;I)V" } : Jvm.MethodName) prog_29_method_1_code (3 : Nat) (Option.none : Option Jvm.ClassFile.FieldType), Jvm.Cond.code ({ cls := "java/util/Objects", name := "requireNonNull", desc := "(Ljava/lang/Object;Ljava/lang/String;)Ljava/lang/Object;" } : Jvm.MethodName) jdk_31_method_11_code (2 : Nat) (Option.some (Jvm.ClassFile.FieldType.object "java/lang/Object")), Jvm.Cond.code ({ cls := "com/example/occupancy/occupancy/hash/internal/CellRule", name := "cellCount", desc := "()J" } : Jvm.MethodName) prog_32_method_2_code (1 : Nat) (Option.some Jvm.ClassFile.FieldType.long), Jvm.Cond.code ({ cls := "com/example/occupancy/occupancy/hash/internal/CellRule", name := "cellOf", desc := "(J)J" } : Jvm.MethodName) prog_32_method_7_code (9 : Nat) (Option.some Jvm.ClassFile.FieldType.long), Jvm.Cond.code ({ cls := "java/lang/Long", name := "remainderUnsigned", desc := "(JJ)J" } : Jvm.MethodName) jdk_35_method_45_code (8 : Nat) (Option.some Jvm.ClassFile.FieldType.long), Jvm.Cond.code ({ cls := "com/example/occupancy/occupancy/hash/internal/CellBatch", name := "add", desc := "(JJ)V" } : Jvm.MethodName) prog_29_method_14_code (6 : Nat) (Option.none : Option Jvm.ClassFile.FieldType), Jvm.Cond.code ({ cls := "com/example/occupancy/occupancy/hash/internal/CellBatch", name := "isFull", desc := "()Z" } : Jvm.MethodName) prog_29_method_4_code (1 : Nat) (Option.some Jvm.ClassFile.FieldType.boolean)]
set_option maxRecDepth 65536 in
theorem codes_eq : words1.filter isCode = codes1 := rfl
theorem w_codes : ∀ c ∈ words1.filter isCode, c.before args0 about1 = true := by
  rw [codes_eq]
  intro c hc
  simp only [codes1, List.mem_cons, List.not_mem_nil, or_false] at hc
  rcases hc with rfl | rfl | rfl | rfl | rfl | rfl | rfl | rfl | rfl | rfl
  · exact w_c0
  · exact w_c1
  · exact w_c2
  · exact w_c3
  · exact w_c4
  · exact w_c5
  · exact w_c6
  · exact w_c7
  · exact w_c8
  · exact w_c9
set_option maxRecDepth 65536 in
theorem w_t1 : (words1.take 24).all (fun c => isCode c || c.before args0 about1) = true := by decide +kernel
set_option maxRecDepth 65536 in
theorem w_t2 : ((words1.drop 24).take 24).all (fun c => isCode c || c.before args0 about1) = true := by decide +kernel
set_option maxRecDepth 65536 in
theorem w_t3 : (((words1.drop 24).drop 24).take 24).all (fun c => isCode c || c.before args0 about1) = true := by decide +kernel
set_option maxRecDepth 65536 in
theorem w_t4 : (((words1.drop 24).drop 24).drop 24).all (fun c => isCode c || c.before args0 about1) = true := by decide +kernel
theorem w_tables : (allAtoms (Jvm.Cond.code x code maxLocals ret :: tables_1)).before args0 about1 = true := by
  rw [allAtoms_all]
  show words1.all (fun c => c.before args0 about1) = true
  refine all_split ?_ w_codes
  rw [← List.take_append_drop 24 words1, List.all_append, w_t1, ← List.take_append_drop 24 (words1.drop 24), List.all_append, w_t2, ← List.take_append_drop 24 ((words1.drop 24).drop 24), List.all_append, w_t3, w_t4]
  rfl
set_option maxRecDepth 65536 in
theorem w_case : (Jvm.Cond.and given_1 narrow_1).before args0 about1 = true := by decide +kernel
theorem w_applies : (headSpec (Jvm.Cond.code x code maxLocals ret :: tables_1) room_1).applies x e0.platform about1 = true :=
  (Spec.applies_iff w_frames).mpr ⟨w_running, w_runnable, w_alone, w_named, w_hears, w_ripe, w_room, w_tables⟩
theorem atStart : AtStart classFile x code maxLocals ret World_1 tables_1 room_1 Calls_1 rest_1 Pre_1 launch0 p0 e0 about1 theMethod args0 below0 :=
  ⟨lists_1, trivial, launch0.admits_env _ _ _, launch0.least_env, fairChoices_fair.cas, fairChoices_fair.clock, w_frames, w_args, w_heap, w_applies, trivial, trivial, w_case⟩
end start1
theorem witness_1 : WitnessClaimed_1 := ⟨start1.p0, start1.e0, start1.about1, start1.theMethod, start1.args0, start1.below0, start1.atStart⟩
end Jvm.Pilot.@@N@@
