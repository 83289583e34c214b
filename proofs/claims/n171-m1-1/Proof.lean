import JvmDerived
import JvmDerived.Pilot.@@N@@Statement
import JvmDerived.Pilot.@@N@@Code
set_option linter.unusedVariables false
set_option linter.unusedSimpArgs false
namespace Jvm.RoadKit
open Sem ClassFile Op Lib Jvm.Stand Jvm.Free Jvm.LawKit
section OwnGo
variable {p : Program} {l : Launch} {e : Env} {R : Room} {s : State} {m : MethodId} {args : Array Value} {below : List Frame} {meth : Method} {c : Code} {T : State} {locs : List Loc} {cells slots : Nat} {Z : State} {a0 : Array Value} {h : Heap} {Q : Option Value → Heap → List Loc → Prop} {P : Option Value → State → Prop} {K N : Nat} {by_ : ByteArray} {pc pc' : Nat} {Ls : Array Slot} {rest : List Value}
/-- from S the run comes to its end, and P says what it leaves -/
def Go (p : Program) (e : Env) (below : List Frame) (P : Option Value → State → Prop) (S : State) : Prop :=
  ∃ U v, Steps p.tables e below S U ∧ U.status = .running ∧ Ended U below (.returned v) ∧ P v U
/-- an end within a frame: the narrow one, and the wide one (String constants may have been interned) -/
def Nr (s : State) (Q : Option Value → Heap → List Loc → Prop) (K N : Nat) (v : Option Value) (U : State) : Prop := ∃ L, Q v U.heap L ∧ FrameEnd s (.returned v) U L K N
def Wd (s : State) (Q : Option Value → Heap → List Loc → Prop) (K N : Nat) (v : Option Value) (U : State) : Prop := ∃ L, Q v U.heap L ∧ ReturnedEndW s (.returned v) U L K N
theorem Go.st {A B : State} (f : ∀ t, Steps p.tables e below A t → Steps p.tables e below B t) (k : Go p e below P A) : Go p e below P B := by
  obtain ⟨U, v, h1, h2⟩ := k
  exact ⟨U, v, f _ h1, h2⟩
theorem Go.via {A B : State} (f : Steps p.tables e below B A) (k : Go p e below P A) : Go p e below P B := by
  obtain ⟨U, v, h1, h2⟩ := k
  exact ⟨U, v, f.trans h1, h2⟩
/-- the contract of a body -/
abbrev Con (l : Launch) (Z : State) (y : MethodName) (bytes : ByteArray) (maxL : Nat) (ret : Option FieldType) (ws : List Jvm.Cond) (rm : Room) (as : Array Value) (h : Heap) (Q : Option Value → Heap → List Loc → Prop) : Prop :=
  MetFree l y (head1 (Jvm.Cond.code y bytes maxL ret :: ws) rm) (fun a U => a = as ∧ Z.Warmed39 U.vm ∧ U.heap = h) (fun _ _ _ _ _ => True) (fun _ U o U' => ∃ v L, o = .returned v ∧ Q v U'.heap L ∧ FrameEnd U o U' L rm.cells rm.slots)
theorem Con.of {y : MethodName} {bytes : ByteArray} {maxL : Nat} {ret : Option FieldType} {ws : List Jvm.Cond} {rm : Room} {as : Array Value} (hpn : plainFor y = true)
    (body : ∀ (p : Program) (e : Env) (s : State) (m : MethodId) (below : List Frame) (meth : Method) (c : Code) (s₁ : State), p.tables.exec = Jvm.exec → c.code = bytes → c.maxLocals = maxL → s.vm.findClass y.cls = some m.cls → meth.name = y.name → meth.sig.returnType = ret → meth.locks = false → Z.Warmed39 s.vm →
      Stand p l e rm s m as below meth c s₁ [] 0 0 → s₁.heap = h → Go p e below (Nr s Q rm.cells rm.slots) (s₁.setTop (entryFrame m as maxL))) : Con l Z y bytes maxL ret ws rm as h Q := by
  refine MetFree.of_bodySF hpn hisR ?_
  intro p e s m args below meth c s₁ Bd hml0 hP hK
  obtain ⟨rfl, hZ, hh⟩ := hP
  have hown := findClass_of_methodNamed Bd.named
  have hnm := (name_of_methodNamed Bd.named Bd.method).1
  have X0 := Stand.of_body Bd
  have e0 : s₁.heap = h := by rw [← hh, Bd.state]; rfl
  obtain ⟨U, v, h1, h2, h3, L, h4, h5⟩ := body p e s m below meth c s₁ Bd.exec Bd.bytes hml0 hown hnm Bd.returns Bd.notSynchronized hZ X0 e0
  exact ⟨U, _, h1, h2, h3, v, L, rfl, h4, h5⟩
theorem Go.cast {g g' : JFrame} (q : g = g') (k : Go p e below P (T.setTop g')) : Go p e below P (T.setTop g) := q ▸ k
/-- a body that only reads numbers: what it returns, and nothing moved -/
def PQ (w : Option Value) (h0 : Heap) (v : Option Value) (h : Heap) (L : List Loc) : Prop := v = w ∧ L = [] ∧ h = h0
theorem Go.end_ {w : Option Value} {A : State} (X : Stand p l e R s m args below meth c T locs cells slots) (hlk : meth.locks = false) (hr0 : meth.sig.returnType = none → w = none) (f : ∀ fs, (∀ (f : JFrame) (acts : List Action), f.method = m → f.locked = none → f.entered = [] → (doReturn e (T.setTop f) acts w).1 = T.setFrames fs) → Steps p.tables e below A (T.setFrames fs))
    (hc : cells ≤ K) (hn : slots ≤ N) (q : Q w T.heap locs) : Go p e below (Nr s Q K N) A := by
  obtain ⟨fs, hr, hrun, hended, hW, hsame⟩ := X.leave (v := w) hr0 hlk
  exact ⟨_, _, f fs hr, hrun, hended, locs, q, ⟨_, rfl⟩, hW, hsame.mono hc hn⟩
theorem Go.ret0 (X : Stand p l e R s m args below meth c T locs cells slots) (hx : p.tables.exec = Jvm.exec) (hby : c.code = by_) (hlk : meth.locks = false) (hret : meth.sig.returnType = none) (hd : decode by_ pc = .ok (.return_, 1)) (hc : cells ≤ K) (hn : slots ≤ N) (q : Q none T.heap locs) : Go p e below (Nr s Q K N) (T.setTop (mkF m pc Ls [])) :=
  Go.end_ X hlk (fun _ => rfl) (fun fs hr => X.returnOut hx hret (hb hby hd) hr) hc hn q
theorem Go.retV {w : Value} {t : FieldType} {i : Instr} (X : Stand p l e R s m args below meth c T locs cells slots) (hx : p.tables.exec = Jvm.exec) (hby : c.code = by_) (hlk : meth.locks = false) (hret : meth.sig.returnType = some t) (hnw : narrow t w = w)
    (hi : (i = .ireturn ∧ (t = .int ∨ t = .boolean ∨ t = .byte ∨ t = .char ∨ t = .short) ∧ ∃ z, w = .int z) ∨ (i = .lreturn ∧ t = .long ∧ ∃ z, w = .long z) ∨ (i = .dreturn ∧ t = .double ∧ ∃ z, w = .double z) ∨ (i = .freturn ∧ t = .float ∧ ∃ z, w = .float z) ∨ (i = .areturn ∧ t.isReference = true ∧ w.isRef = true))
    (hd : decode by_ pc = .ok (i, 1)) (hc : cells ≤ K) (hn : slots ≤ N) (q : Q (some w) T.heap locs) : Go p e below (Nr s Q K N) (T.setTop (mkF m pc Ls (w :: rest))) :=
  Go.end_ X hlk (fun h => by rw [hret] at h; cases h) (fun fs hr => retOut X hx hret hnw hi (hb hby hd) hr) hc hn q
theorem Go.retI {z : Int32} (X : Stand p l e R s m args below meth c T locs cells slots) (hx : p.tables.exec = Jvm.exec) (hby : c.code = by_) (hlk : meth.locks = false) (hret : meth.sig.returnType = some .int) (hd : decode by_ pc = .ok (.ireturn, 1)) (hc : cells ≤ K) (hn : slots ≤ N) (q : Q (some (.int z)) T.heap locs) : Go p e below (Nr s Q K N) (T.setTop (mkF m pc Ls (.int z :: rest))) :=
  Go.retV X hx hby hlk hret rfl (Or.inl ⟨rfl, Or.inl rfl, z, rfl⟩) hd hc hn q
theorem Go.retZ {z : Int32} {t : FieldType} (X : Stand p l e R s m args below meth c T locs cells slots) (hx : p.tables.exec = Jvm.exec) (hby : c.code = by_) (hlk : meth.locks = false) (hret : meth.sig.returnType = some t) (ht : t = .boolean ∨ t = .byte ∨ t = .char ∨ t = .short) (hd : decode by_ pc = .ok (.ireturn, 1)) (hc : cells ≤ K) (hn : slots ≤ N) (q : Q (some (.int (nar t z))) T.heap locs) : Go p e below (Nr s Q K N) (T.setTop (mkF m pc Ls (.int z :: rest))) :=
  Go.end_ X hlk (fun h => by rw [hret] at h; cases h) (fun fs hr => retN X hx hret ht (hb hby hd) hr) hc hn q
theorem Go.retJ {z : Int64} (X : Stand p l e R s m args below meth c T locs cells slots) (hx : p.tables.exec = Jvm.exec) (hby : c.code = by_) (hlk : meth.locks = false) (hret : meth.sig.returnType = some .long) (hd : decode by_ pc = .ok (.lreturn, 1)) (hc : cells ≤ K) (hn : slots ≤ N) (q : Q (some (.long z)) T.heap locs) : Go p e below (Nr s Q K N) (T.setTop (mkF m pc Ls (.long z :: rest))) :=
  Go.retV X hx hby hlk hret rfl (Or.inr (Or.inl ⟨rfl, rfl, z, rfl⟩)) hd hc hn q
theorem Go.retA {w : Value} {t : FieldType} (X : Stand p l e R s m args below meth c T locs cells slots) (hx : p.tables.exec = Jvm.exec) (hby : c.code = by_) (hlk : meth.locks = false) (hret : meth.sig.returnType = some t) (hnw : narrow t w = w) (ht : t.isReference = true) (hw : w.isRef = true) (hd : decode by_ pc = .ok (.areturn, 1)) (hc : cells ≤ K) (hn : slots ≤ N) (q : Q (some w) T.heap locs) : Go p e below (Nr s Q K N) (T.setTop (mkF m pc Ls (w :: rest))) :=
  Go.retV X hx hby hlk hret hnw (Or.inr (Or.inr (Or.inr (Or.inr ⟨rfl, ht, hw⟩)))) hd hc hn q
def icP : ClassFile.Cond → Int32 → Int32 → Prop
  | .eq, x, y => x = y
  | .ne, x, y => x ≠ y
  | .lt, x, y => x < y
  | .ge, x, y => y ≤ x
  | .gt, x, y => y < x
  | .le, x, y => x ≤ y
theorem icP_iff (cd : ClassFile.Cond) (x y : Int32) : if_icmp.holds cd x y = true ↔ icP cd x y := by cases cd <;> simp [if_icmp.holds, icP]
theorem icP_not {cd : ClassFile.Cond} {x y : Int32} (q : ¬ icP cd x y) : if_icmp.holds cd x y = false := by
  cases hq : if_icmp.holds cd x y
  · rfl
  · exact absurd ((icP_iff cd x y).mp hq) q

theorem Go.iadd {x y : Int32} (X : Stand p l e R s m args below meth c T locs cells slots) (hx : p.tables.exec = Jvm.exec) (hby : c.code = by_) (hd : decode by_ pc = .ok (.iadd, 1)) (hp : pc + 1 = pc') (k : Go p e below P (T.setTop (mkF m pc' Ls (.int (x + y) :: rest)))) : Go p e below P (T.setTop (mkF m pc Ls (.int y :: .int x :: rest))) := by
  subst hp; exact Go.st (fun t k => XS.iadd X.here hx rfl (hb hby hd) rfl k) k
theorem Go.isub {x y : Int32} (X : Stand p l e R s m args below meth c T locs cells slots) (hx : p.tables.exec = Jvm.exec) (hby : c.code = by_) (hd : decode by_ pc = .ok (.isub, 1)) (hp : pc + 1 = pc') (k : Go p e below P (T.setTop (mkF m pc' Ls (.int (x - y) :: rest)))) : Go p e below P (T.setTop (mkF m pc Ls (.int y :: .int x :: rest))) := by
  subst hp; exact Go.st (fun t k => XS.isub X.here hx rfl (hb hby hd) rfl k) k
theorem Go.imul {x y : Int32} (X : Stand p l e R s m args below meth c T locs cells slots) (hx : p.tables.exec = Jvm.exec) (hby : c.code = by_) (hd : decode by_ pc = .ok (.imul, 1)) (hp : pc + 1 = pc') (k : Go p e below P (T.setTop (mkF m pc' Ls (.int (x * y) :: rest)))) : Go p e below P (T.setTop (mkF m pc Ls (.int y :: .int x :: rest))) := by
  subst hp; exact Go.st (fun t k => XS.imul X.here hx rfl (hb hby hd) rfl k) k
theorem Go.iand {x y : Int32} (X : Stand p l e R s m args below meth c T locs cells slots) (hx : p.tables.exec = Jvm.exec) (hby : c.code = by_) (hd : decode by_ pc = .ok (.iand, 1)) (hp : pc + 1 = pc') (k : Go p e below P (T.setTop (mkF m pc' Ls (.int (x &&& y) :: rest)))) : Go p e below P (T.setTop (mkF m pc Ls (.int y :: .int x :: rest))) := by
  subst hp; exact Go.st (fun t k => XS.iand X.here hx rfl (hb hby hd) rfl k) k
theorem Go.ior {x y : Int32} (X : Stand p l e R s m args below meth c T locs cells slots) (hx : p.tables.exec = Jvm.exec) (hby : c.code = by_) (hd : decode by_ pc = .ok (.ior, 1)) (hp : pc + 1 = pc') (k : Go p e below P (T.setTop (mkF m pc' Ls (.int (x ||| y) :: rest)))) : Go p e below P (T.setTop (mkF m pc Ls (.int y :: .int x :: rest))) := by
  subst hp; exact Go.st (fun t k => XS.ior X.here hx rfl (hb hby hd) rfl k) k
theorem Go.ixor {x y : Int32} (X : Stand p l e R s m args below meth c T locs cells slots) (hx : p.tables.exec = Jvm.exec) (hby : c.code = by_) (hd : decode by_ pc = .ok (.ixor, 1)) (hp : pc + 1 = pc') (k : Go p e below P (T.setTop (mkF m pc' Ls (.int (x ^^^ y) :: rest)))) : Go p e below P (T.setTop (mkF m pc Ls (.int y :: .int x :: rest))) := by
  subst hp; exact Go.st (fun t k => XS.ixor X.here hx rfl (hb hby hd) rfl k) k
theorem Go.ladd {x y : Int64} (X : Stand p l e R s m args below meth c T locs cells slots) (hx : p.tables.exec = Jvm.exec) (hby : c.code = by_) (hd : decode by_ pc = .ok (.ladd, 1)) (hp : pc + 1 = pc') (k : Go p e below P (T.setTop (mkF m pc' Ls (.long (x + y) :: rest)))) : Go p e below P (T.setTop (mkF m pc Ls (.long y :: .long x :: rest))) := by
  subst hp; exact Go.st (fun t k => XS.ladd X.here hx rfl (hb hby hd) rfl k) k
theorem Go.lsub {x y : Int64} (X : Stand p l e R s m args below meth c T locs cells slots) (hx : p.tables.exec = Jvm.exec) (hby : c.code = by_) (hd : decode by_ pc = .ok (.lsub, 1)) (hp : pc + 1 = pc') (k : Go p e below P (T.setTop (mkF m pc' Ls (.long (x - y) :: rest)))) : Go p e below P (T.setTop (mkF m pc Ls (.long y :: .long x :: rest))) := by
  subst hp; exact Go.st (fun t k => XS.lsub X.here hx rfl (hb hby hd) rfl k) k
theorem Go.lmul {x y : Int64} (X : Stand p l e R s m args below meth c T locs cells slots) (hx : p.tables.exec = Jvm.exec) (hby : c.code = by_) (hd : decode by_ pc = .ok (.lmul, 1)) (hp : pc + 1 = pc') (k : Go p e below P (T.setTop (mkF m pc' Ls (.long (x * y) :: rest)))) : Go p e below P (T.setTop (mkF m pc Ls (.long y :: .long x :: rest))) := by
  subst hp; exact Go.st (fun t k => XS.lmul X.here hx rfl (hb hby hd) rfl k) k
theorem Go.land {x y : Int64} (X : Stand p l e R s m args below meth c T locs cells slots) (hx : p.tables.exec = Jvm.exec) (hby : c.code = by_) (hd : decode by_ pc = .ok (.land, 1)) (hp : pc + 1 = pc') (k : Go p e below P (T.setTop (mkF m pc' Ls (.long (x &&& y) :: rest)))) : Go p e below P (T.setTop (mkF m pc Ls (.long y :: .long x :: rest))) := by
  subst hp; exact Go.st (fun t k => XS.land X.here hx rfl (hb hby hd) rfl k) k
theorem Go.lor {x y : Int64} (X : Stand p l e R s m args below meth c T locs cells slots) (hx : p.tables.exec = Jvm.exec) (hby : c.code = by_) (hd : decode by_ pc = .ok (.lor, 1)) (hp : pc + 1 = pc') (k : Go p e below P (T.setTop (mkF m pc' Ls (.long (x ||| y) :: rest)))) : Go p e below P (T.setTop (mkF m pc Ls (.long y :: .long x :: rest))) := by
  subst hp; exact Go.st (fun t k => XS.lor X.here hx rfl (hb hby hd) rfl k) k
theorem Go.lxor {x y : Int64} (X : Stand p l e R s m args below meth c T locs cells slots) (hx : p.tables.exec = Jvm.exec) (hby : c.code = by_) (hd : decode by_ pc = .ok (.lxor, 1)) (hp : pc + 1 = pc') (k : Go p e below P (T.setTop (mkF m pc' Ls (.long (x ^^^ y) :: rest)))) : Go p e below P (T.setTop (mkF m pc Ls (.long y :: .long x :: rest))) := by
  subst hp; exact Go.st (fun t k => XS.lxor X.here hx rfl (hb hby hd) rfl k) k
theorem Go.ishl {x y : Int32} (X : Stand p l e R s m args below meth c T locs cells slots) (hx : p.tables.exec = Jvm.exec) (hby : c.code = by_) (hd : decode by_ pc = .ok (.ishl, 1)) (hp : pc + 1 = pc') (k : Go p e below P (T.setTop (mkF m pc' Ls (.int (x <<< (y &&& 31)) :: rest)))) : Go p e below P (T.setTop (mkF m pc Ls (.int y :: .int x :: rest))) := by
  subst hp; exact Go.st (fun t k => XS.ishl X.here hx rfl (hb hby hd) rfl k) k
theorem Go.ishr {x y : Int32} (X : Stand p l e R s m args below meth c T locs cells slots) (hx : p.tables.exec = Jvm.exec) (hby : c.code = by_) (hd : decode by_ pc = .ok (.ishr, 1)) (hp : pc + 1 = pc') (k : Go p e below P (T.setTop (mkF m pc' Ls (.int (x >>> (y &&& 31)) :: rest)))) : Go p e below P (T.setTop (mkF m pc Ls (.int y :: .int x :: rest))) := by
  subst hp; exact Go.st (fun t k => XS.ishr X.here hx rfl (hb hby hd) rfl k) k
theorem Go.iushr {x y : Int32} (X : Stand p l e R s m args below meth c T locs cells slots) (hx : p.tables.exec = Jvm.exec) (hby : c.code = by_) (hd : decode by_ pc = .ok (.iushr, 1)) (hp : pc + 1 = pc') (k : Go p e below P (T.setTop (mkF m pc' Ls (.int ((x.toUInt32 >>> (y &&& 31).toUInt32).toInt32) :: rest)))) : Go p e below P (T.setTop (mkF m pc Ls (.int y :: .int x :: rest))) := by
  subst hp; exact Go.st (fun t k => XS.iushr X.here hx rfl (hb hby hd) rfl k) k
theorem Go.lshl {x : Int64} {y : Int32} (X : Stand p l e R s m args below meth c T locs cells slots) (hx : p.tables.exec = Jvm.exec) (hby : c.code = by_) (hd : decode by_ pc = .ok (.lshl, 1)) (hp : pc + 1 = pc') (k : Go p e below P (T.setTop (mkF m pc' Ls (.long (x <<< (y &&& 0x3f).toInt64) :: rest)))) : Go p e below P (T.setTop (mkF m pc Ls (.int y :: .long x :: rest))) := by
  subst hp; exact Go.st (fun t k => XS.lshl X.here hx rfl (hb hby hd) rfl k) k
theorem Go.lshr {x : Int64} {y : Int32} (X : Stand p l e R s m args below meth c T locs cells slots) (hx : p.tables.exec = Jvm.exec) (hby : c.code = by_) (hd : decode by_ pc = .ok (.lshr, 1)) (hp : pc + 1 = pc') (k : Go p e below P (T.setTop (mkF m pc' Ls (.long (x >>> (y &&& 0x3f).toInt64) :: rest)))) : Go p e below P (T.setTop (mkF m pc Ls (.int y :: .long x :: rest))) := by
  subst hp; exact Go.st (fun t k => XS.lshr X.here hx rfl (hb hby hd) rfl k) k
theorem Go.lushr {x : Int64} {y : Int32} (X : Stand p l e R s m args below meth c T locs cells slots) (hx : p.tables.exec = Jvm.exec) (hby : c.code = by_) (hd : decode by_ pc = .ok (.lushr, 1)) (hp : pc + 1 = pc') (k : Go p e below P (T.setTop (mkF m pc' Ls (.long ((x.toUInt64 >>> (y &&& 0x3f).toInt64.toUInt64).toInt64) :: rest)))) : Go p e below P (T.setTop (mkF m pc Ls (.int y :: .long x :: rest))) := by
  subst hp; exact Go.st (fun t k => XS.lushr X.here hx rfl (hb hby hd) rfl k) k
theorem Go.ineg {x : Int32} (X : Stand p l e R s m args below meth c T locs cells slots) (hx : p.tables.exec = Jvm.exec) (hby : c.code = by_) (hd : decode by_ pc = .ok (.ineg, 1)) (hp : pc + 1 = pc') (k : Go p e below P (T.setTop (mkF m pc' Ls (.int (-x) :: rest)))) : Go p e below P (T.setTop (mkF m pc Ls (.int x :: rest))) := by
  subst hp; exact Go.st (fun t k => XS.ineg X.here hx rfl (hb hby hd) rfl k) k
theorem Go.lneg {x : Int64} (X : Stand p l e R s m args below meth c T locs cells slots) (hx : p.tables.exec = Jvm.exec) (hby : c.code = by_) (hd : decode by_ pc = .ok (.lneg, 1)) (hp : pc + 1 = pc') (k : Go p e below P (T.setTop (mkF m pc' Ls (.long (-x) :: rest)))) : Go p e below P (T.setTop (mkF m pc Ls (.long x :: rest))) := by
  subst hp; exact Go.st (fun t k => XS.lneg X.here hx rfl (hb hby hd) rfl k) k
theorem Go.i2b {x : Int32} (X : Stand p l e R s m args below meth c T locs cells slots) (hx : p.tables.exec = Jvm.exec) (hby : c.code = by_) (hd : decode by_ pc = .ok (.i2b, 1)) (hp : pc + 1 = pc') (k : Go p e below P (T.setTop (mkF m pc' Ls (.int (x.toInt8.toInt32) :: rest)))) : Go p e below P (T.setTop (mkF m pc Ls (.int x :: rest))) := by
  subst hp; exact Go.st (fun t k => XS.i2b X.here hx rfl (hb hby hd) rfl k) k
theorem Go.i2c {x : Int32} (X : Stand p l e R s m args below meth c T locs cells slots) (hx : p.tables.exec = Jvm.exec) (hby : c.code = by_) (hd : decode by_ pc = .ok (.i2c, 1)) (hp : pc + 1 = pc') (k : Go p e below P (T.setTop (mkF m pc' Ls (.int (x.toUInt32.toUInt16.toUInt32.toInt32) :: rest)))) : Go p e below P (T.setTop (mkF m pc Ls (.int x :: rest))) := by
  subst hp; exact Go.st (fun t k => XS.i2c X.here hx rfl (hb hby hd) rfl k) k
theorem Go.i2s {x : Int32} (X : Stand p l e R s m args below meth c T locs cells slots) (hx : p.tables.exec = Jvm.exec) (hby : c.code = by_) (hd : decode by_ pc = .ok (.i2s, 1)) (hp : pc + 1 = pc') (k : Go p e below P (T.setTop (mkF m pc' Ls (.int (x.toInt16.toInt32) :: rest)))) : Go p e below P (T.setTop (mkF m pc Ls (.int x :: rest))) := by
  subst hp; exact Go.st (fun t k => XS.i2s X.here hx rfl (hb hby hd) rfl k) k
theorem Go.i2l {x : Int32} (X : Stand p l e R s m args below meth c T locs cells slots) (hx : p.tables.exec = Jvm.exec) (hby : c.code = by_) (hd : decode by_ pc = .ok (.i2l, 1)) (hp : pc + 1 = pc') (k : Go p e below P (T.setTop (mkF m pc' Ls (.long (x.toInt64) :: rest)))) : Go p e below P (T.setTop (mkF m pc Ls (.int x :: rest))) := by
  subst hp; exact Go.st (fun t k => XS.i2l X.here hx rfl (hb hby hd) rfl k) k
theorem Go.l2i {x : Int64} (X : Stand p l e R s m args below meth c T locs cells slots) (hx : p.tables.exec = Jvm.exec) (hby : c.code = by_) (hd : decode by_ pc = .ok (.l2i, 1)) (hp : pc + 1 = pc') (k : Go p e below P (T.setTop (mkF m pc' Ls (.int (x.toInt32) :: rest)))) : Go p e below P (T.setTop (mkF m pc Ls (.long x :: rest))) := by
  subst hp; exact Go.st (fun t k => XS.l2i X.here hx rfl (hb hby hd) rfl k) k
theorem Go.lcmp {x y : Int64} (X : Stand p l e R s m args below meth c T locs cells slots) (hx : p.tables.exec = Jvm.exec) (hby : c.code = by_) (hd : decode by_ pc = .ok (.lcmp, 1)) (hp : pc + 1 = pc') (k : Go p e below P (T.setTop (mkF m pc' Ls (.int (lcmpW x y) :: rest)))) : Go p e below P (T.setTop (mkF m pc Ls (.long y :: .long x :: rest))) := by
  subst hp; exact Go.st (fun t k => XS.lcmp X.here hx rfl (hb hby hd) rfl k) k
theorem Go.idiv {x y : Int32} (X : Stand p l e R s m args below meth c T locs cells slots) (hx : p.tables.exec = Jvm.exec) (hby : c.code = by_) (hd : decode by_ pc = .ok (.idiv, 1)) (hp : pc + 1 = pc') (hy : y ≠ 0) (k : Go p e below P (T.setTop (mkF m pc' Ls (.int (x / y) :: rest)))) : Go p e below P (T.setTop (mkF m pc Ls (.int y :: .int x :: rest))) := by
  subst hp; exact Go.st (fun t k => XS.idiv X.here hx rfl (hb hby hd) rfl hy k) k
theorem Go.irem {x y : Int32} (X : Stand p l e R s m args below meth c T locs cells slots) (hx : p.tables.exec = Jvm.exec) (hby : c.code = by_) (hd : decode by_ pc = .ok (.irem, 1)) (hp : pc + 1 = pc') (hy : y ≠ 0) (k : Go p e below P (T.setTop (mkF m pc' Ls (.int (x % y) :: rest)))) : Go p e below P (T.setTop (mkF m pc Ls (.int y :: .int x :: rest))) := by
  subst hp; exact Go.st (fun t k => iremM X hx rfl (hb hby hd) rfl hy k) k
theorem Go.ldiv {x y : Int64} (X : Stand p l e R s m args below meth c T locs cells slots) (hx : p.tables.exec = Jvm.exec) (hby : c.code = by_) (hd : decode by_ pc = .ok (.ldiv, 1)) (hp : pc + 1 = pc') (hy : y ≠ 0) (k : Go p e below P (T.setTop (mkF m pc' Ls (.long (x / y) :: rest)))) : Go p e below P (T.setTop (mkF m pc Ls (.long y :: .long x :: rest))) := by
  subst hp; exact Go.st (fun t k => XS.ldiv X.here hx rfl (hb hby hd) rfl hy k) k
theorem Go.lrem {x y : Int64} (X : Stand p l e R s m args below meth c T locs cells slots) (hx : p.tables.exec = Jvm.exec) (hby : c.code = by_) (hd : decode by_ pc = .ok (.lrem, 1)) (hp : pc + 1 = pc') (hy : y ≠ 0) (k : Go p e below P (T.setTop (mkF m pc' Ls (.long (x - (x / y) * y) :: rest)))) : Go p e below P (T.setTop (mkF m pc Ls (.long y :: .long x :: rest))) := by
  subst hp; exact Go.st (fun t k => XS.lrem X.here hx rfl (hb hby hd) rfl hy k) k
theorem Go.dup {w : Value} (X : Stand p l e R s m args below meth c T locs cells slots) (hx : p.tables.exec = Jvm.exec) (hby : c.code = by_) (hd : decode by_ pc = .ok (.dup, 1)) (hp : pc + 1 = pc') (hc : w.category = 1) (k : Go p e below P (T.setTop (mkF m pc' Ls (w :: w :: rest)))) : Go p e below P (T.setTop (mkF m pc Ls (w :: rest))) := by
  subst hp; exact Go.st (fun t k => XS.dup X.here hx rfl (hb hby hd) rfl hc k) k
theorem Go.pop {w : Value} (X : Stand p l e R s m args below meth c T locs cells slots) (hx : p.tables.exec = Jvm.exec) (hby : c.code = by_) (hd : decode by_ pc = .ok (.pop, 1)) (hp : pc + 1 = pc') (hc : w.category = 1) (k : Go p e below P (T.setTop (mkF m pc' Ls rest))) : Go p e below P (T.setTop (mkF m pc Ls (w :: rest))) := by
  subst hp; exact Go.st (fun t k => XS.pop X.here hx rfl (hb hby hd) rfl hc k) k
theorem Go.dupX1 {w u : Value} (X : Stand p l e R s m args below meth c T locs cells slots) (hx : p.tables.exec = Jvm.exec) (hby : c.code = by_) (hd : decode by_ pc = .ok (.dup_x1, 1)) (hp : pc + 1 = pc') (hc : w.category = 1) (hc2 : u.category = 1) (k : Go p e below P (T.setTop (mkF m pc' Ls (w :: u :: w :: rest)))) : Go p e below P (T.setTop (mkF m pc Ls (w :: u :: rest))) := by
  subst hp; exact Go.st (fun t k => XS.dupX1 X.here hx rfl (hb hby hd) rfl hc hc2 k) k
theorem Go.dup2 {w u : Value} (X : Stand p l e R s m args below meth c T locs cells slots) (hx : p.tables.exec = Jvm.exec) (hby : c.code = by_) (hd : decode by_ pc = .ok (.dup2, 1)) (hp : pc + 1 = pc') (hc : w.category = 1) (hc2 : u.category = 1) (k : Go p e below P (T.setTop (mkF m pc' Ls (w :: u :: w :: u :: rest)))) : Go p e below P (T.setTop (mkF m pc Ls (w :: u :: rest))) := by
  subst hp; exact Go.st (fun t k => XT.dup2 X.here hx rfl (hb hby hd) rfl hc hc2 k) k
theorem Go.iconst {i : Int} {v : Int32} (X : Stand p l e R s m args below meth c T locs cells slots) (hx : p.tables.exec = Jvm.exec) (hby : c.code = by_) (hd : decode by_ pc = .ok (.iconst i, 1)) (hp : pc + 1 = pc') (hv : Int32.ofInt i = v) (k : Go p e below P (T.setTop (mkF m pc' Ls (.int v :: rest)))) : Go p e below P (T.setTop (mkF m pc Ls rest)) := by
  subst hp; exact Go.st (fun t k => XS.iconst X.here hx rfl (hb hby hd) (by rw [hv]; exact k)) k
theorem Go.bipush {i : Int} {v : Int32} (X : Stand p l e R s m args below meth c T locs cells slots) (hx : p.tables.exec = Jvm.exec) (hby : c.code = by_) (hd : decode by_ pc = .ok (.bipush i, 2)) (hp : pc + 2 = pc') (hv : (Int8.ofInt i).toInt32 = v) (k : Go p e below P (T.setTop (mkF m pc' Ls (.int v :: rest)))) : Go p e below P (T.setTop (mkF m pc Ls rest)) := by
  subst hp; exact Go.st (fun t k => XS.bipush X.here hx rfl (hb hby hd) (by rw [hv]; exact k)) k
theorem Go.sipush {i : Int} {v : Int32} (X : Stand p l e R s m args below meth c T locs cells slots) (hx : p.tables.exec = Jvm.exec) (hby : c.code = by_) (hd : decode by_ pc = .ok (.sipush i, 3)) (hp : pc + 3 = pc') (hv : (Int16.ofInt i).toInt32 = v) (k : Go p e below P (T.setTop (mkF m pc' Ls (.int v :: rest)))) : Go p e below P (T.setTop (mkF m pc Ls rest)) := by
  subst hp; exact Go.st (fun t k => XS.sipush X.here hx rfl (hb hby hd) (by rw [hv]; exact k)) k
theorem Go.lconst {i : Fin 2} {v : Int64} (X : Stand p l e R s m args below meth c T locs cells slots) (hx : p.tables.exec = Jvm.exec) (hby : c.code = by_) (hd : decode by_ pc = .ok (.lconst i, 1)) (hp : pc + 1 = pc') (hv : Int64.ofNat i = v) (k : Go p e below P (T.setTop (mkF m pc' Ls (.long v :: rest)))) : Go p e below P (T.setTop (mkF m pc Ls rest)) := by
  subst hp; exact Go.st (fun t k => XS.lconst X.here hx rfl (hb hby hd) (by rw [hv]; exact k)) k
theorem Go.aconstNull  (X : Stand p l e R s m args below meth c T locs cells slots) (hx : p.tables.exec = Jvm.exec) (hby : c.code = by_) (hd : decode by_ pc = .ok (.aconst_null, 1)) (hp : pc + 1 = pc') (k : Go p e below P (T.setTop (mkF m pc' Ls (.null :: rest)))) : Go p e below P (T.setTop (mkF m pc Ls rest)) := by
  subst hp; exact Go.st (fun t k => XS.aconstNull X.here hx rfl (hb hby hd) k) k
theorem Go.iloadN {i : Fin 4} {v : Int32} (X : Stand p l e R s m args below meth c T locs cells slots) (hx : p.tables.exec = Jvm.exec) (hby : c.code = by_) (hd : decode by_ pc = .ok (.iload_n i, 1)) (hp : pc + 1 = pc') (hl : Ls[i.val]? = some (.val (.int v))) (k : Go p e below P (T.setTop (mkF m pc' Ls (.int v :: rest)))) : Go p e below P (T.setTop (mkF m pc Ls rest)) := by
  subst hp; exact Go.st (fun t k => XS.iloadN X.here hx rfl (hb hby hd) hl k) k
theorem Go.iload {i : Nat} {v : Int32} (X : Stand p l e R s m args below meth c T locs cells slots) (hx : p.tables.exec = Jvm.exec) (hby : c.code = by_) (hd : decode by_ pc = .ok (.iload i, 2)) (hp : pc + 2 = pc') (hl : Ls[i]? = some (.val (.int v))) (k : Go p e below P (T.setTop (mkF m pc' Ls (.int v :: rest)))) : Go p e below P (T.setTop (mkF m pc Ls rest)) := by
  subst hp; exact Go.st (fun t k => XS.iload X.here hx rfl (hb hby hd) hl k) k
theorem Go.lloadN {i : Fin 4} {v : Int64} (X : Stand p l e R s m args below meth c T locs cells slots) (hx : p.tables.exec = Jvm.exec) (hby : c.code = by_) (hd : decode by_ pc = .ok (.lload_n i, 1)) (hp : pc + 1 = pc') (hl : Ls[i.val]? = some (.val (.long v))) (k : Go p e below P (T.setTop (mkF m pc' Ls (.long v :: rest)))) : Go p e below P (T.setTop (mkF m pc Ls rest)) := by
  subst hp; exact Go.st (fun t k => XS.lloadN X.here hx rfl (hb hby hd) hl k) k
theorem Go.lload {i : Nat} {v : Int64} (X : Stand p l e R s m args below meth c T locs cells slots) (hx : p.tables.exec = Jvm.exec) (hby : c.code = by_) (hd : decode by_ pc = .ok (.lload i, 2)) (hp : pc + 2 = pc') (hl : Ls[i]? = some (.val (.long v))) (k : Go p e below P (T.setTop (mkF m pc' Ls (.long v :: rest)))) : Go p e below P (T.setTop (mkF m pc Ls rest)) := by
  subst hp; exact Go.st (fun t k => XS.lload X.here hx rfl (hb hby hd) hl k) k
theorem Go.aloadN {i : Fin 4} {v : Value} (X : Stand p l e R s m args below meth c T locs cells slots) (hx : p.tables.exec = Jvm.exec) (hby : c.code = by_) (hd : decode by_ pc = .ok (.aload_n i, 1)) (hp : pc + 1 = pc') (hl : Ls[i.val]? = some (.val v)) (hv : v.isRef = true) (k : Go p e below P (T.setTop (mkF m pc' Ls (v :: rest)))) : Go p e below P (T.setTop (mkF m pc Ls rest)) := by
  subst hp; exact Go.st (fun t k => XS.aloadN X.here hx rfl (hb hby hd) hl hv k) k
theorem Go.aload {i : Nat} {v : Value} (X : Stand p l e R s m args below meth c T locs cells slots) (hx : p.tables.exec = Jvm.exec) (hby : c.code = by_) (hd : decode by_ pc = .ok (.aload i, 2)) (hp : pc + 2 = pc') (hl : Ls[i]? = some (.val v)) (hv : v.isRef = true) (k : Go p e below P (T.setTop (mkF m pc' Ls (v :: rest)))) : Go p e below P (T.setTop (mkF m pc Ls rest)) := by
  subst hp; exact Go.st (fun t k => XS.aload X.here hx rfl (hb hby hd) hl hv k) k
theorem Go.ldcI {own : String} {index : Nat} {v : Int32} (X : Stand p l e R s m args below meth c T locs cells slots) (hx : p.tables.exec = Jvm.exec) (hby : c.code = by_) (hd : decode by_ pc = .ok (.ldc index, 2)) (hp : pc + 2 = pc') (hown : s.vm.findClass own = some m.cls) (hk : (Jvm.Cond.constant own index v).before args s = true) (k : Go p e below P (T.setTop (mkF m pc' Ls (.int v :: rest)))) : Go p e below P (T.setTop (mkF m pc Ls rest)) := by
  subst hp; exact Go.st (fun t k => X.ldcI hx hown hk rfl (hb hby hd) k) k
theorem Go.ldcWI {own : String} {index : Nat} {v : Int32} (X : Stand p l e R s m args below meth c T locs cells slots) (hx : p.tables.exec = Jvm.exec) (hby : c.code = by_) (hd : decode by_ pc = .ok (.ldc_w index, 3)) (hp : pc + 3 = pc') (hown : s.vm.findClass own = some m.cls) (hk : (Jvm.Cond.constant own index v).before args s = true) (k : Go p e below P (T.setTop (mkF m pc' Ls (.int v :: rest)))) : Go p e below P (T.setTop (mkF m pc Ls rest)) := by
  subst hp; exact Go.st (fun t k => X.ldcWI hx hown hk rfl (hb hby hd) k) k
theorem Go.ldc2J {own : String} {index : Nat} {v : Int64} (X : Stand p l e R s m args below meth c T locs cells slots) (hx : p.tables.exec = Jvm.exec) (hby : c.code = by_) (hd : decode by_ pc = .ok (.ldc2_w index, 3)) (hp : pc + 3 = pc') (hown : s.vm.findClass own = some m.cls) (hk : (Jvm.Cond.constantLong own index v).before args s = true) (k : Go p e below P (T.setTop (mkF m pc' Ls (.long v :: rest)))) : Go p e below P (T.setTop (mkF m pc Ls rest)) := by
  subst hp; exact Go.st (fun t k => X.ldc2J hx hown hk rfl (hb hby hd) k) k
theorem Go.istoreN {i : Fin 4} {v : Int32} {Ls' : Array Slot} (X : Stand p l e R s m args below meth c T locs cells slots) (hx : p.tables.exec = Jvm.exec) (hby : c.code = by_) (hd : decode by_ pc = .ok (.istore_n i, 1)) (hp : pc + 1 = pc') (hl : storeLocals Ls i.val (.int v) = some Ls') (k : Go p e below P (T.setTop (mkF m pc' Ls' rest))) : Go p e below P (T.setTop (mkF m pc Ls (.int v :: rest))) := by
  subst hp; exact Go.st (fun t k => XS.istoreN X.here hx rfl (hb hby hd) rfl hl k) k
theorem Go.istore {i : Nat} {v : Int32} {Ls' : Array Slot} (X : Stand p l e R s m args below meth c T locs cells slots) (hx : p.tables.exec = Jvm.exec) (hby : c.code = by_) (hd : decode by_ pc = .ok (.istore i, 2)) (hp : pc + 2 = pc') (hl : storeLocals Ls i (.int v) = some Ls') (k : Go p e below P (T.setTop (mkF m pc' Ls' rest))) : Go p e below P (T.setTop (mkF m pc Ls (.int v :: rest))) := by
  subst hp; exact Go.st (fun t k => XS.istore X.here hx rfl (hb hby hd) rfl hl k) k
theorem Go.lstoreN {i : Fin 4} {v : Int64} {Ls' : Array Slot} (X : Stand p l e R s m args below meth c T locs cells slots) (hx : p.tables.exec = Jvm.exec) (hby : c.code = by_) (hd : decode by_ pc = .ok (.lstore_n i, 1)) (hp : pc + 1 = pc') (hl : storeLocals Ls i.val (.long v) = some Ls') (k : Go p e below P (T.setTop (mkF m pc' Ls' rest))) : Go p e below P (T.setTop (mkF m pc Ls (.long v :: rest))) := by
  subst hp; exact Go.st (fun t k => XS.lstoreN X.here hx rfl (hb hby hd) rfl hl k) k
theorem Go.lstore {i : Nat} {v : Int64} {Ls' : Array Slot} (X : Stand p l e R s m args below meth c T locs cells slots) (hx : p.tables.exec = Jvm.exec) (hby : c.code = by_) (hd : decode by_ pc = .ok (.lstore i, 2)) (hp : pc + 2 = pc') (hl : storeLocals Ls i (.long v) = some Ls') (k : Go p e below P (T.setTop (mkF m pc' Ls' rest))) : Go p e below P (T.setTop (mkF m pc Ls (.long v :: rest))) := by
  subst hp; exact Go.st (fun t k => XS.lstore X.here hx rfl (hb hby hd) rfl hl k) k
theorem Go.astoreN {i : Fin 4} {v : Value} {Ls' : Array Slot} (X : Stand p l e R s m args below meth c T locs cells slots) (hx : p.tables.exec = Jvm.exec) (hby : c.code = by_) (hd : decode by_ pc = .ok (.astore_n i, 1)) (hp : pc + 1 = pc') (hv : v.isRef = true) (hl : storeLocals Ls i.val v = some Ls') (k : Go p e below P (T.setTop (mkF m pc' Ls' rest))) : Go p e below P (T.setTop (mkF m pc Ls (v :: rest))) := by
  subst hp; exact Go.st (fun t k => XS.astoreN X.here hx rfl (hb hby hd) rfl hv hl k) k
theorem Go.astore {i : Nat} {v : Value} {Ls' : Array Slot} (X : Stand p l e R s m args below meth c T locs cells slots) (hx : p.tables.exec = Jvm.exec) (hby : c.code = by_) (hd : decode by_ pc = .ok (.astore i, 2)) (hp : pc + 2 = pc') (hv : v.isRef = true) (hl : storeLocals Ls i v = some Ls') (k : Go p e below P (T.setTop (mkF m pc' Ls' rest))) : Go p e below P (T.setTop (mkF m pc Ls (v :: rest))) := by
  subst hp; exact Go.st (fun t k => XS.astore X.here hx rfl (hb hby hd) rfl hv hl k) k
theorem Go.iinc {i : Nat} {cst : Int} {v w : Int32} {Ls' : Array Slot} (X : Stand p l e R s m args below meth c T locs cells slots) (hx : p.tables.exec = Jvm.exec) (hby : c.code = by_) (hd : decode by_ pc = .ok (.iinc i cst, 3)) (hp : pc + 3 = pc') (hl : Ls[i]? = some (.val (.int v))) (hv : v + Int32.ofInt cst = w) (hl' : storeLocals Ls i (.int w) = some Ls') (k : Go p e below P (T.setTop (mkF m pc' Ls' rest))) : Go p e below P (T.setTop (mkF m pc Ls rest)) := by
  subst hp hv; exact Go.st (fun t k => XS.iinc X.here hx rfl (hb hby hd) hl hl' k) k
theorem Go.goto {o : Int} (X : Stand p l e R s m args below meth c T locs cells slots) (hx : p.tables.exec = Jvm.exec) (hby : c.code = by_) (hd : decode by_ pc = .ok (.goto o, 3)) (ho : 0 ≤ (pc : Int) + o) (hp : ((pc : Int) + o).toNat = pc') (k : Go p e below P (T.setTop (mkF m pc' Ls rest))) : Go p e below P (T.setTop (mkF m pc Ls rest)) :=
  Go.st (fun t k => XS.goto X.here hx rfl rfl (hb hby hd) ho hp k) k
theorem Go.icmpY {cd : ClassFile.Cond} {o : Int} {x y : Int32} (X : Stand p l e R s m args below meth c T locs cells slots) (hx : p.tables.exec = Jvm.exec) (hby : c.code = by_) (hd : decode by_ pc = .ok (.if_icmp cd o, 3)) (ho : 0 ≤ (pc : Int) + o) (hp : ((pc : Int) + o).toNat = pc') (q : icP cd x y) (k : Go p e below P (T.setTop (mkF m pc' Ls rest))) : Go p e below P (T.setTop (mkF m pc Ls (.int y :: .int x :: rest))) :=
  Go.st (fun t k => XS.icmpYes X.here hx rfl rfl (hb hby hd) rfl ((icP_iff cd x y).mpr q) ho hp k) k
theorem Go.icmpN {cd : ClassFile.Cond} {o : Int} {x y : Int32} (X : Stand p l e R s m args below meth c T locs cells slots) (hx : p.tables.exec = Jvm.exec) (hby : c.code = by_) (hd : decode by_ pc = .ok (.if_icmp cd o, 3)) (hp : pc + 3 = pc') (q : ¬ icP cd x y) (k : Go p e below P (T.setTop (mkF m pc' Ls rest))) : Go p e below P (T.setTop (mkF m pc Ls (.int y :: .int x :: rest))) := by
  subst hp; exact Go.st (fun t k => XS.icmpNo X.here hx rfl (hb hby hd) rfl (icP_not q) k) k
theorem Go.icmp {cd : ClassFile.Cond} {o : Int} {x y : Int32} {pn : Nat} (X : Stand p l e R s m args below meth c T locs cells slots) (hx : p.tables.exec = Jvm.exec) (hby : c.code = by_) (hd : decode by_ pc = .ok (.if_icmp cd o, 3)) (ho : 0 ≤ (pc : Int) + o) (hp : ((pc : Int) + o).toNat = pc') (hp2 : pc + 3 = pn) (k : icP cd x y → Go p e below P (T.setTop (mkF m pc' Ls rest))) (k2 : ¬ icP cd x y → Go p e below P (T.setTop (mkF m pn Ls rest))) : Go p e below P (T.setTop (mkF m pc Ls (.int y :: .int x :: rest))) := by
  by_cases q : icP cd x y
  · exact Go.icmpY X hx hby hd ho hp q (k q)
  · exact Go.icmpN X hx hby hd hp2 q (k2 q)
theorem Go.ifY {cd : ClassFile.Cond} {o : Int} {x : Int32} (X : Stand p l e R s m args below meth c T locs cells slots) (hx : p.tables.exec = Jvm.exec) (hby : c.code = by_) (hd : decode by_ pc = .ok (.ifCond cd o, 3)) (ho : 0 ≤ (pc : Int) + o) (hp : ((pc : Int) + o).toNat = pc') (q : icP cd x 0) (k : Go p e below P (T.setTop (mkF m pc' Ls rest))) : Go p e below P (T.setTop (mkF m pc Ls (.int x :: rest))) :=
  Go.st (fun t k => XS.ifYes X.here hx rfl rfl (hb hby hd) rfl (by rw [if0]; exact (icP_iff cd x 0).mpr q) ho hp k) k
theorem Go.ifN {cd : ClassFile.Cond} {o : Int} {x : Int32} (X : Stand p l e R s m args below meth c T locs cells slots) (hx : p.tables.exec = Jvm.exec) (hby : c.code = by_) (hd : decode by_ pc = .ok (.ifCond cd o, 3)) (hp : pc + 3 = pc') (q : ¬ icP cd x 0) (k : Go p e below P (T.setTop (mkF m pc' Ls rest))) : Go p e below P (T.setTop (mkF m pc Ls (.int x :: rest))) := by
  subst hp; exact Go.st (fun t k => XS.ifNo X.here hx rfl (hb hby hd) rfl (by rw [if0]; exact icP_not q) k) k
theorem Go.if_ {cd : ClassFile.Cond} {o : Int} {x : Int32} {pn : Nat} (X : Stand p l e R s m args below meth c T locs cells slots) (hx : p.tables.exec = Jvm.exec) (hby : c.code = by_) (hd : decode by_ pc = .ok (.ifCond cd o, 3)) (ho : 0 ≤ (pc : Int) + o) (hp : ((pc : Int) + o).toNat = pc') (hp2 : pc + 3 = pn) (k : icP cd x 0 → Go p e below P (T.setTop (mkF m pc' Ls rest))) (k2 : ¬ icP cd x 0 → Go p e below P (T.setTop (mkF m pn Ls rest))) : Go p e below P (T.setTop (mkF m pc Ls (.int x :: rest))) := by
  by_cases q : icP cd x 0
  · exact Go.ifY X hx hby hd ho hp q (k q)
  · exact Go.ifN X hx hby hd hp2 q (k2 q)
theorem Go.ifnullY {o : Int} (X : Stand p l e R s m args below meth c T locs cells slots) (hx : p.tables.exec = Jvm.exec) (hby : c.code = by_) (hd : decode by_ pc = .ok (.ifnull o, 3)) (ho : 0 ≤ (pc : Int) + o) (hp : ((pc : Int) + o).toNat = pc') (k : Go p e below P (T.setTop (mkF m pc' Ls rest))) : Go p e below P (T.setTop (mkF m pc Ls (.null :: rest))) :=
  Go.st (fun t k => XS.ifnullYes X.here hx rfl rfl (hb hby hd) rfl ho hp k) k
theorem Go.ifnullN {o : Int} {b : Addr} (X : Stand p l e R s m args below meth c T locs cells slots) (hx : p.tables.exec = Jvm.exec) (hby : c.code = by_) (hd : decode by_ pc = .ok (.ifnull o, 3)) (hp : pc + 3 = pc') (k : Go p e below P (T.setTop (mkF m pc' Ls rest))) : Go p e below P (T.setTop (mkF m pc Ls (.ref b :: rest))) := by
  subst hp; exact Go.st (fun t k => XS.ifnullNo X.here hx rfl (hb hby hd) rfl k) k
theorem Go.ifnonnullY {o : Int} {b : Addr} (X : Stand p l e R s m args below meth c T locs cells slots) (hx : p.tables.exec = Jvm.exec) (hby : c.code = by_) (hd : decode by_ pc = .ok (.ifnonnull o, 3)) (ho : 0 ≤ (pc : Int) + o) (hp : ((pc : Int) + o).toNat = pc') (k : Go p e below P (T.setTop (mkF m pc' Ls rest))) : Go p e below P (T.setTop (mkF m pc Ls (.ref b :: rest))) :=
  Go.st (fun t k => XS.ifnonnullYes X.here hx rfl rfl (hb hby hd) rfl ho hp k) k
theorem Go.ifnonnullN {o : Int} (X : Stand p l e R s m args below meth c T locs cells slots) (hx : p.tables.exec = Jvm.exec) (hby : c.code = by_) (hd : decode by_ pc = .ok (.ifnonnull o, 3)) (hp : pc + 3 = pc') (k : Go p e below P (T.setTop (mkF m pc' Ls rest))) : Go p e below P (T.setTop (mkF m pc Ls (.null :: rest))) := by
  subst hp; exact Go.st (fun t k => XS.ifnonnullNo X.here hx rfl (hb hby hd) rfl k) k
theorem Go.acmpEq {o : Int} {b : Addr} (X : Stand p l e R s m args below meth c T locs cells slots) (hx : p.tables.exec = Jvm.exec) (hby : c.code = by_) (hd : decode by_ pc = .ok (.if_acmp .eq o, 3)) (ho : 0 ≤ (pc : Int) + o) (hp : ((pc : Int) + o).toNat = pc') (k : Go p e below P (T.setTop (mkF m pc' Ls rest))) : Go p e below P (T.setTop (mkF m pc Ls (.ref b :: .ref b :: rest))) :=
  Go.st (fun t k => acmp X hx rfl (x := .ref b) (y := .ref b) rfl rfl rfl (hb hby hd) rfl (same := true) (by simp) ho (hp.symm.trans (if_pos rfl).symm) k) k
theorem Go.callS {own : String} {index : Nat} {y : MethodName} {bytes : ByteArray} {maxL : Nat} {ret : Option FieldType} {rm : Room} {W : Nat} {as : Array Value} {Qc : Option Value → Heap → List Loc → Prop} {argsL st : List Value} {ps : List FieldType} {rt : Option FieldType} (X : Stand p l e R s m args below meth c T locs cells slots) (hx : p.tables.exec = Jvm.exec) (hby : c.code = by_) (hZ : Z.Warmed39 s.vm) (hown : s.vm.findClass own = some m.cls)
    (w1 : (Jvm.Cond.methodLink own index y).before a0 Z = true) (w2 : (Jvm.Cond.static y).before a0 Z = true) (w3 : (Jvm.Cond.initialized y.cls).before a0 Z = true) (w4 : (Jvm.Cond.code y bytes maxL ret).before a0 Z = true) (hy : y.cls ≠ "java/lang/invoke/MethodHandle" ∧ y.cls ≠ "java/lang/invoke/VarHandle")
    (hM : Con l Z y bytes maxL ret [] rm as h Qc) (eT : T.heap = h) (hf : rm.frames + 1 ≤ R.frames) (hl : W + (maxL + 11) + rm.locals ≤ R.locals) (hsize : Ls.size = c.maxLocals) (hpd : parseMethodDescriptor y.desc = some ⟨ps, rt⟩) (hlen : argsL.length = ps.length) (hst : st = argsL.reverse ++ rest) (has : argsL.toArray = as) (hW : 0 + (rest.map fun v => v.category).sum ≤ W)
    (hd : decode by_ pc = .ok (.invokestatic index, 3)) (hp : pc + 3 = pc') (hc : cells + rm.cells ≤ R.cells) (hs : slots + rm.slots ≤ R.slots)
    (k : ∀ (v : Option Value) (T' : State) (L : List Loc), Stand p l e R s m args below meth c T' (locs ++ L) (cells + rm.cells) (slots + rm.slots) → Qc v T'.heap L → Go p e below P (T'.setTop (mkF m pc' Ls (v.toList ++ rest)))) : Go p e below P (T.setTop (mkF m pc Ls st)) := by
  subst hp
  obtain ⟨v, _, ⟨T3, L3, k3, n3⟩, -, X3, ⟨Lc3, hQ3, l3, y3, z3⟩, st3⟩ := Jvm.LawKit.callS X hx (y := y) hown (mvT hZ w1) (mvT hZ w2) (mvT hZ w3) (mvT hZ w4) hy (backOf (W := W) hM hZ w4 w3 hf hl) (g := mkF m pc Ls st) rfl hsize (argsL := argsL) (rest := rest) (lenOf hpd hlen) hst hW (hb hby hd) (fun _ _ => ⟨has, eT, hc, hs⟩)
  dsimp only [Pt.U, Pt.locs, Pt.cells, Pt.slots] at X3 l3 y3 z3 st3 hQ3
  subst l3 y3 z3
  exact Go.st st3 (k v T3 Lc3 X3 hQ3)
theorem Go.callI {own : String} {index : Nat} {y : MethodName} {bytes : ByteArray} {maxL : Nat} {rm : Room} {W : Nat} {as : Array Value} {Qc : Option Value → Heap → List Loc → Prop} {argsL st : List Value} {ps : List FieldType} {rt : Option FieldType} {a : Addr} (X : Stand p l e R s m args below meth c T locs cells slots) (hx : p.tables.exec = Jvm.exec) (hby : c.code = by_) (hy1 : y.name = "<init>") (hZ : Z.Warmed39 s.vm) (hown : s.vm.findClass own = some m.cls)
    (w1 : (Jvm.Cond.methodLink own index y).before a0 Z = true) (w2 : (Jvm.Cond.instanceMethod y).before a0 Z = true) (w3 : (Jvm.Cond.initialized y.cls).before a0 Z = true) (w4 : (Jvm.Cond.code y bytes maxL none).before a0 Z = true) (hy : y.cls ≠ "java/lang/invoke/MethodHandle" ∧ y.cls ≠ "java/lang/invoke/VarHandle")
    (hM : Con l Z y bytes maxL none [] rm as h Qc) (eT : T.heap = h) (hf : rm.frames + 1 ≤ R.frames) (hl : W + (maxL + 11) + rm.locals ≤ R.locals) (hsize : Ls.size = c.maxLocals) (hpd : parseMethodDescriptor y.desc = some ⟨ps, rt⟩) (hlen : argsL.length = ps.length) (hst : st = argsL.reverse ++ .ref a :: rest) (has : (.ref a :: argsL).toArray = as) (hW : 0 + (rest.map fun v => v.category).sum ≤ W)
    (hd : decode by_ pc = .ok (.invokespecial index, 3)) (hp : pc + 3 = pc') (hc : cells + rm.cells ≤ R.cells) (hs : slots + rm.slots ≤ R.slots)
    (k : ∀ (v : Option Value) (T' : State) (L : List Loc), Stand p l e R s m args below meth c T' (locs ++ L) (cells + rm.cells) (slots + rm.slots) → Qc v T'.heap L → Go p e below P (T'.setTop (mkF m pc' Ls (v.toList ++ rest)))) : Go p e below P (T.setTop (mkF m pc Ls st)) := by
  subst hp
  obtain ⟨v, _, ⟨T3, L3, k3, n3⟩, -, X3, ⟨Lc3, hQ3, l3, y3, z3⟩, st3⟩ := X.specialBack hx (y := y) hy1 hown (mvT hZ w1) (mvT hZ w2) (mvT hZ w4) hy (backOf (W := W) hM hZ w4 w3 hf hl) (g := mkF m pc Ls st) rfl hsize (Steps.refl _) (a := a) (argsL := argsL) (rest := rest) (lenOf hpd hlen) hst hW (hb hby hd) (fun _ _ => ⟨has, eT, hc, hs⟩)
  dsimp only [Pt.U, Pt.locs, Pt.cells, Pt.slots] at X3 l3 y3 z3 st3 hQ3
  subst l3 y3 z3
  exact Go.via st3 (k v T3 Lc3 X3 hQ3)
theorem Go.callV {own C : String} {index : Nat} {y z : MethodName} {bytes : ByteArray} {maxL : Nat} {ret : Option FieldType} {rm : Room} {W : Nat} {as : Array Value} {Qc : Option Value → Heap → List Loc → Prop} {argsL st : List Value} {ps : List FieldType} {rt : Option FieldType} {a : Addr} (X : Stand p l e R s m args below meth c T locs cells slots) (hx : p.tables.exec = Jvm.exec) (hby : c.code = by_) (hZ : Z.Warmed39 s.vm) (hown : s.vm.findClass own = some m.cls)
    (w1 : (Jvm.Cond.methodLink own index y).before a0 Z = true) (w2 : (Jvm.Cond.declares y).before a0 Z = true) (hnf : NotFace s y) (w5 : (Jvm.Cond.selects C y z).before a0 Z = true) (w6 : (Jvm.Cond.instanceMethod z).before a0 Z = true) (w3 : (Jvm.Cond.initialized z.cls).before a0 Z = true) (w4 : (Jvm.Cond.code z bytes maxL ret).before a0 Z = true) (hy : y.cls ≠ "java/lang/invoke/MethodHandle" ∧ y.cls ≠ "java/lang/invoke/VarHandle")
    (hM : Con l Z z bytes maxL ret [] rm as h Qc) (eT : T.heap = h) (hE : Exa Z h a C) (hf : rm.frames + 1 ≤ R.frames) (hl : W + (maxL + 11) + rm.locals ≤ R.locals) (hsize : Ls.size = c.maxLocals) (hpd : parseMethodDescriptor y.desc = some ⟨ps, rt⟩) (hlen : argsL.length = ps.length) (hst : st = argsL.reverse ++ .ref a :: rest) (has : (.ref a :: argsL).toArray = as) (hW : 0 + (rest.map fun v => v.category).sum ≤ W)
    (hd : decode by_ pc = .ok (.invokevirtual index, 3)) (hp : pc + 3 = pc') (hc : cells + rm.cells ≤ R.cells) (hs : slots + rm.slots ≤ R.slots)
    (k : ∀ (v : Option Value) (T' : State) (L : List Loc), Stand p l e R s m args below meth c T' (locs ++ L) (cells + rm.cells) (slots + rm.slots) → Qc v T'.heap L → Go p e below P (T'.setTop (mkF m pc' Ls (v.toList ++ rest)))) : Go p e below P (T.setTop (mkF m pc Ls st)) := by
  subst hp
  obtain ⟨cq, kq, q4a, q4b, q4c⟩ := isOf (T := T) hZ eT hE
  obtain ⟨v, _, ⟨T3, L3, k3, n3⟩, -, X3, ⟨Lc3, hQ3, l3, y3, z3⟩, st3⟩ := X.virtualBack hx (y := y) (z := z) hown (mvT hZ w1) (mvT hZ w2) hnf (mvT hZ w5) (mvT hZ w6) hy (backOf (W := W) hM hZ w4 w3 hf hl) q4a q4c (g := mkF m pc Ls st) rfl hsize (Steps.refl _) (argsL := argsL) (rest := rest) (lenOf hpd hlen) hst hW (hb hby hd) (fun _ _ => ⟨has, eT, hc, hs⟩)
  dsimp only [Pt.U, Pt.locs, Pt.cells, Pt.slots] at X3 l3 y3 z3 st3 hQ3
  subst l3 y3 z3
  exact Go.via st3 (k v T3 Lc3 X3 hQ3)

theorem Go.nmI {x : Int32} (k : ∀ v : Int32, v = x → Go p e below P (T.setTop (mkF m pc Ls (.int v :: rest)))) : Go p e below P (T.setTop (mkF m pc Ls (.int x :: rest))) := k _ rfl
theorem Go.nmJ {x : Int64} (k : ∀ v : Int64, v = x → Go p e below P (T.setTop (mkF m pc Ls (.long v :: rest)))) : Go p e below P (T.setTop (mkF m pc Ls (.long x :: rest))) := k _ rfl
theorem Go.cut {α : Type} {F : α → State} {x : α} {S : State} (k : Go p e below P (F x)) (k2 : (∀ b, b = x → Go p e below P (F b)) → Go p e below P S) : Go p e below P S := k2 (fun b hb => hb ▸ k)
theorem Go.cutAll {α : Type} {F : α → State} {S : State} (k : ∀ b, Go p e below P (F b)) (k2 : (∀ b, Go p e below P (F b)) → Go p e below P S) : Go p e below P S := k2 k
theorem Go.loop {α : Type} {F : α → State} {I : α → Prop} {μ : α → Nat} (step : ∀ x, I x → (∀ y, I y → μ y < μ x → Go p e below P (F y)) → Go p e below P (F x)) (x : α) (hx : I x) : Go p e below P (F x) := by
  have key : ∀ (n : Nat) (x : α), μ x < n → I x → Go p e below P (F x) := by
    intro n
    induction n with
    | zero => intro x hn; exact absurd hn (Nat.not_lt_zero _)
    | succ n ih => intro x hn hi; exact step x hi (fun y hy hlt => ih y (by omega) hy)
  exact key _ x (Nat.lt_succ_self _) hx
/-- what a law leaves: true, and nothing that stood is written -/
def LQ (n0 : Nat) (v : Option Value) (h : Heap) (L : List Loc) : Prop := v = some (.int 1) ∧ Fr n0 L
end OwnGo
section OwnHeap
variable {p : Program} {l : Launch} {e : Env} {R : Room} {s : State} {m : MethodId} {args : Array Value} {below : List Frame} {meth : Method} {c : Code} {T : State} {locs : List Loc} {cells slots : Nat} {Z : State} {a0 : Array Value} {h h' : Heap} {Q : Option Value → Heap → List Loc → Prop} {P : Option Value → State → Prop} {K N : Nat} {by_ : ByteArray} {pc pc' : Nat} {Ls : Array Slot} {rest : List Value} {a b : Addr} {ty : FieldType} {z i : Int} {f g : Int → Value} {sl : Nat} {v : Value} {ws : List Addr}
/-- an array: its length z, what place i holds -/
def Ar (Z : State) (h : Heap) (a : Addr) (ty : FieldType) (z : Int) (f : Int → Value) : Prop := ∃ cl : Cell, Arr Z h a cl ty ∧ (cl.slots.size : Int) = z ∧ z < 2147483648 ∧ ∀ i : Nat, (i : Int) < z → cl.slots[i]? = some (f i)
theorem Ar.ext (F : Ar Z h a ty z f) (E : Ext h h') : Ar Z h' a ty z f := by obtain ⟨cl, A, r⟩ := F; exact ⟨cl, A.ext E, r⟩
theorem Ar.other (F : Ar Z h a ty z f) (W : Wr h h' b sl v) (q : a ≠ b) : Ar Z h' a ty z f := by obtain ⟨cl, A, r⟩ := F; exact ⟨cl, A.other W q, r⟩
theorem Ar.keep (F : Ar Z h a ty z f) (K : Keep h h' ws) (q : a ∉ ws) : Ar Z h' a ty z f := by obtain ⟨cl, A, r⟩ := F; exact ⟨cl, ⟨K.2.1 a cl A.1 q, A.2⟩, r⟩
theorem Ar.lt (F : Ar Z h a ty z f) : a < h.size := by obtain ⟨cl, A, -⟩ := F; exact A.lt
theorem Ar.congr (F : Ar Z h a ty z f) (q : ∀ i, 0 ≤ i → i < z → f i = g i) : Ar Z h a ty z g := by
  obtain ⟨cl, A, r1, r2, r3⟩ := F
  exact ⟨cl, A, r1, r2, fun i hi => by rw [r3 i hi, q i (by omega) hi]⟩
theorem Ar.bound (F : Ar Z h a ty z f) : 0 ≤ z ∧ z < 2147483648 := by obtain ⟨cl, A, r1, r2, -⟩ := F; omega
theorem Ar.set (F : Ar Z h a ty z f) (W : Wr h h' a i.toNat v) (hi : 0 ≤ i) : Ar Z h' a ty z (fun q => if q = i then v else f q) := by
  obtain ⟨cl, A, r1, r2, r3⟩ := F
  obtain ⟨cl2, w1, w2, w3, w4⟩ := W
  cases w1.symm.trans A.1
  refine ⟨_, A.same ⟨cl, A.1, w2, w3, w4⟩, by rw [sz_set]; exact r1, r2, fun k hk => ?_⟩
  by_cases e : (k : Int) = i
  · have e' : k = i.toNat := by omega
    subst e'
    simp only [Cell.setSlot, if_pos e]
    rw [Array.getElem?_setIfInBounds_self_of_lt w3]
  · show _ = some (if (k : Int) = i then v else f k)
    rw [if_neg e]
    simp only [Cell.setSlot]
    rw [Array.getElem?_setIfInBounds_ne (by omega)]
    exact r3 k hk
theorem Ar.new {cA : ClassId} {n : Int32} (A : Arr Z h a (newA cA ty n) ty) (q : n.toInt = z) (q0 : 0 ≤ z) : Ar Z h a ty z (fun _ => defaultValue ty) := by
  have hs : ((newA cA ty n).slots.size : Int) = z := by rw [sz_new]; simp only [Int32.toNatClampNeg]; omega
  refine ⟨_, A, hs, by have := n.toInt_lt; omega, fun i hi => ?_⟩
  have hlt : i < n.toNatClampNeg := by rw [sz_new] at hs; omega
  simp [newA, Array.getElem?_replicate, hlt]
theorem in_of {cl : Cell} {j : Int32} (r1 : (cl.slots.size : Int) = z) (hj : j.toInt = i) (h0 : 0 ≤ i) (h1 : i < z) : ¬ (j < 0 ∨ cl.slots.size ≤ j.toNatClampNeg) ∧ j.toNatClampNeg = i.toNat := by
  have e : j.toNatClampNeg = i.toNat := by simp only [Int32.toNatClampNeg, hj]
  refine ⟨fun q => ?_, e⟩
  rcases q with q | q
  · rw [Int32.lt_iff_toInt_lt, hj, show (0 : Int32).toInt = 0 from by decide] at q; omega
  · rw [e] at q; omega
theorem Go.alen {zv : Int32} (X : Stand p l e R s m args below meth c T locs cells slots) (hx : p.tables.exec = Jvm.exec) (hby : c.code = by_) (hZ : Z.Warmed39 s.vm) (eT : T.heap = h) (A : Ar Z h a ty z f) (hd : decode by_ pc = .ok (.arraylength, 1)) (hp : pc + 1 = pc') (hz : zv.toInt = z) (k : Go p e below P (T.setTop (mkF m pc' Ls (.int zv :: rest)))) : Go p e below P (T.setTop (mkF m pc Ls (.ref a :: rest))) := by
  subst hp
  obtain ⟨cl, A, r1, r2, -⟩ := A
  have e1 : cl.slots.size.toInt32 = zv := Int32.toInt_inj.mp (by rw [len_toInt (by omega), hz]; exact r1)
  exact Go.st (fun t k => X.arraylength hx (cell := cl) (by rw [eT]; exact A.1) (State.isArrayOf_alike hZ.alike A.2.1) (g := mkF m pc Ls (.ref a :: rest)) rfl rfl (hb hby hd) _ (by rw [e1]; exact k)) k
theorem Go.iaload {j : Int32} (X : Stand p l e R s m args below meth c T locs cells slots) (hx : p.tables.exec = Jvm.exec) (hby : c.code = by_) (hZ : Z.Warmed39 s.vm) (eT : T.heap = h) (A : Ar Z h a .int z f) (hd : decode by_ pc = .ok (.iaload, 1)) (hp : pc + 1 = pc') (hj : j.toInt = i) (h0 : 0 ≤ i) (h1 : i < z) (hv : f i = v) (k : Go p e below P (T.setTop (mkF m pc' Ls (v :: rest)))) : Go p e below P (T.setTop (mkF m pc Ls (.int j :: .ref a :: rest))) := by
  subst hp hv
  obtain ⟨cl, A, r1, r2, r3⟩ := A
  obtain ⟨q1, q2⟩ := in_of r1 hj h0 h1
  exact Go.st (fun t k => X.iaload hx (j := j) (v := f i) (by rw [eT]; exact A.1) (State.isArrayOf_alike hZ.alike A.2.1) A.2.2 q1 (by rw [q2, r3 _ (by omega)]; congr 2; omega) (g := mkF m pc Ls (.int j :: .ref a :: rest)) rfl rfl (hb hby hd) _ k) k
theorem Go.caload {j : Int32} (X : Stand p l e R s m args below meth c T locs cells slots) (hx : p.tables.exec = Jvm.exec) (hby : c.code = by_) (hZ : Z.Warmed39 s.vm) (eT : T.heap = h) (A : Ar Z h a .char z f) (hd : decode by_ pc = .ok (.caload, 1)) (hp : pc + 1 = pc') (hj : j.toInt = i) (h0 : 0 ≤ i) (h1 : i < z) (hv : f i = v) (k : Go p e below P (T.setTop (mkF m pc' Ls (v :: rest)))) : Go p e below P (T.setTop (mkF m pc Ls (.int j :: .ref a :: rest))) := by
  subst hp hv
  obtain ⟨cl, A, r1, r2, r3⟩ := A
  obtain ⟨q1, q2⟩ := in_of r1 hj h0 h1
  exact Go.st (fun t k => X.caload hx (j := j) (v := f i) (by rw [eT]; exact A.1) (State.isArrayOf_alike hZ.alike A.2.1) A.2.2 q1 (by rw [q2, r3 _ (by omega)]; congr 2; omega) (g := mkF m pc Ls (.int j :: .ref a :: rest)) rfl rfl (hb hby hd) _ k) k
theorem Go.baload {j : Int32} (X : Stand p l e R s m args below meth c T locs cells slots) (hx : p.tables.exec = Jvm.exec) (hby : c.code = by_) (hZ : Z.Warmed39 s.vm) (eT : T.heap = h) (A : Ar Z h a .byte z f) (hd : decode by_ pc = .ok (.baload, 1)) (hp : pc + 1 = pc') (hj : j.toInt = i) (h0 : 0 ≤ i) (h1 : i < z) (hv : f i = v) (k : Go p e below P (T.setTop (mkF m pc' Ls (v :: rest)))) : Go p e below P (T.setTop (mkF m pc Ls (.int j :: .ref a :: rest))) := by
  subst hp hv
  obtain ⟨cl, A, r1, r2, r3⟩ := A
  obtain ⟨q1, q2⟩ := in_of r1 hj h0 h1
  exact Go.st (fun t k => X.baloadBytes hx (j := j) (v := f i) (by rw [eT]; exact A.1) (State.isArrayOf_alike hZ.alike A.2.1) A.2.2 q1 (by rw [q2, r3 _ (by omega)]; congr 2; omega) (g := mkF m pc Ls (.int j :: .ref a :: rest)) rfl rfl (hb hby hd) _ k) k
theorem Go.laload {j : Int32} (X : Stand p l e R s m args below meth c T locs cells slots) (hx : p.tables.exec = Jvm.exec) (hby : c.code = by_) (hZ : Z.Warmed39 s.vm) (eT : T.heap = h) (A : Ar Z h a .long z f) (hd : decode by_ pc = .ok (.laload, 1)) (hp : pc + 1 = pc') (hj : j.toInt = i) (h0 : 0 ≤ i) (h1 : i < z) (hv : f i = v) (k : Go p e below P (T.setTop (mkF m pc' Ls (v :: rest)))) : Go p e below P (T.setTop (mkF m pc Ls (.int j :: .ref a :: rest))) := by
  subst hp hv
  obtain ⟨cl, A, r1, r2, r3⟩ := A
  obtain ⟨q1, q2⟩ := in_of r1 hj h0 h1
  exact Go.st (fun t k => X.laload hx (j := j) (v := f i) (by rw [eT]; exact A.1) (State.isArrayOf_alike hZ.alike A.2.1) A.2.2 q1 (by rw [q2, r3 _ (by omega)]; congr 2; omega) (g := mkF m pc Ls (.int j :: .ref a :: rest)) rfl rfl (hb hby hd) _ k) k
theorem Go.saload {j : Int32} (X : Stand p l e R s m args below meth c T locs cells slots) (hx : p.tables.exec = Jvm.exec) (hby : c.code = by_) (hZ : Z.Warmed39 s.vm) (eT : T.heap = h) (A : Ar Z h a .short z f) (hd : decode by_ pc = .ok (.saload, 1)) (hp : pc + 1 = pc') (hj : j.toInt = i) (h0 : 0 ≤ i) (h1 : i < z) (hv : f i = v) (k : Go p e below P (T.setTop (mkF m pc' Ls (v :: rest)))) : Go p e below P (T.setTop (mkF m pc Ls (.int j :: .ref a :: rest))) := by
  subst hp hv
  obtain ⟨cl, A, r1, r2, r3⟩ := A
  obtain ⟨q1, q2⟩ := in_of r1 hj h0 h1
  exact Go.st (fun t k => X.saload hx (j := j) (v := f i) (by rw [eT]; exact A.1) (State.isArrayOf_alike hZ.alike A.2.1) A.2.2 q1 (by rw [q2, r3 _ (by omega)]; congr 2; omega) (g := mkF m pc Ls (.int j :: .ref a :: rest)) rfl rfl (hb hby hd) _ k) k
theorem Go.aaload {j : Int32} (X : Stand p l e R s m args below meth c T locs cells slots) (hx : p.tables.exec = Jvm.exec) (hby : c.code = by_) (hZ : Z.Warmed39 s.vm) (eT : T.heap = h) (A : Ar Z h a ty z f) (hty : ty.isReference = true) (hd : decode by_ pc = .ok (.aaload, 1)) (hp : pc + 1 = pc') (hj : j.toInt = i) (h0 : 0 ≤ i) (h1 : i < z) (hv : f i = v) (k : Go p e below P (T.setTop (mkF m pc' Ls (v :: rest)))) : Go p e below P (T.setTop (mkF m pc Ls (.int j :: .ref a :: rest))) := by
  subst hp hv
  obtain ⟨cl, A, r1, r2, r3⟩ := A
  obtain ⟨q1, q2⟩ := in_of r1 hj h0 h1
  exact Go.st (fun t k => X.aaload hx (j := j) (v := f i) (by rw [eT]; exact A.1) (State.isArrayOf_alike hZ.alike A.2.1) hty A.2.2 q1 (by rw [q2, r3 _ (by omega)]; congr 2; omega) (g := mkF m pc Ls (.int j :: .ref a :: rest)) rfl rfl (hb hby hd) _ k) k
theorem Go.iastore {j : Int32} {x : Int32} (X : Stand p l e R s m args below meth c T locs cells slots) (hx : p.tables.exec = Jvm.exec) (hby : c.code = by_) (hZ : Z.Warmed39 s.vm) (eT : T.heap = h) (A : Ar Z h a .int z f) (hd : decode by_ pc = .ok (.iastore, 1)) (hp : pc + 1 = pc') (hj : j.toInt = i) (h0 : 0 ≤ i) (h1 : i < z)
    (k : ∀ (T' : State) (h' : Heap), Stand p l e R s m args below meth c T' (locs ++ [⟨a, i.toNat⟩]) cells slots → T'.heap = h' → Wr h h' a i.toNat (.int x) → Ar Z h' a .int z (fun q => if q = i then (.int x) else f q) → Go p e below P (T'.setTop (mkF m pc' Ls rest))) : Go p e below P (T.setTop (mkF m pc Ls (.int x :: .int j :: .ref a :: rest))) := by
  subst hp
  have A0 := A
  obtain ⟨cl, A, r1, r2, r3⟩ := A
  obtain ⟨q1, q2⟩ := in_of r1 hj h0 h1
  obtain ⟨T', h', X', e', W', st⟩ := stI X hx hZ eT A (j := j) q1 (g := mkF m pc Ls (.int x :: .int j :: .ref a :: rest)) rfl rfl (hb hby hd)
  rw [q2] at X' W'
  exact Go.st st (k T' h' X' e' W' (A0.set W' h0))
theorem Go.castore {j : Int32} {x : Int32} (X : Stand p l e R s m args below meth c T locs cells slots) (hx : p.tables.exec = Jvm.exec) (hby : c.code = by_) (hZ : Z.Warmed39 s.vm) (eT : T.heap = h) (A : Ar Z h a .char z f) (hd : decode by_ pc = .ok (.castore, 1)) (hp : pc + 1 = pc') (hj : j.toInt = i) (h0 : 0 ≤ i) (h1 : i < z)
    (k : ∀ (T' : State) (h' : Heap), Stand p l e R s m args below meth c T' (locs ++ [⟨a, i.toNat⟩]) cells slots → T'.heap = h' → Wr h h' a i.toNat (.int (nar .char x)) → Ar Z h' a .char z (fun q => if q = i then (.int (nar .char x)) else f q) → Go p e below P (T'.setTop (mkF m pc' Ls rest))) : Go p e below P (T.setTop (mkF m pc Ls (.int x :: .int j :: .ref a :: rest))) := by
  subst hp
  have A0 := A
  obtain ⟨cl, A, r1, r2, r3⟩ := A
  obtain ⟨q1, q2⟩ := in_of r1 hj h0 h1
  obtain ⟨T', h', X', e', W', st⟩ := stC X hx hZ eT A (j := j) q1 (g := mkF m pc Ls (.int x :: .int j :: .ref a :: rest)) rfl rfl (hb hby hd)
  rw [q2] at X' W'
  exact Go.st st (k T' h' X' e' W' (A0.set W' h0))
theorem Go.bastore {j : Int32} {x : Int32} (X : Stand p l e R s m args below meth c T locs cells slots) (hx : p.tables.exec = Jvm.exec) (hby : c.code = by_) (hZ : Z.Warmed39 s.vm) (eT : T.heap = h) (A : Ar Z h a .byte z f) (hd : decode by_ pc = .ok (.bastore, 1)) (hp : pc + 1 = pc') (hj : j.toInt = i) (h0 : 0 ≤ i) (h1 : i < z)
    (k : ∀ (T' : State) (h' : Heap), Stand p l e R s m args below meth c T' (locs ++ [⟨a, i.toNat⟩]) cells slots → T'.heap = h' → Wr h h' a i.toNat (.int (nar .byte x)) → Ar Z h' a .byte z (fun q => if q = i then (.int (nar .byte x)) else f q) → Go p e below P (T'.setTop (mkF m pc' Ls rest))) : Go p e below P (T.setTop (mkF m pc Ls (.int x :: .int j :: .ref a :: rest))) := by
  subst hp
  have A0 := A
  obtain ⟨cl, A, r1, r2, r3⟩ := A
  obtain ⟨q1, q2⟩ := in_of r1 hj h0 h1
  obtain ⟨T', h', X', e', W', st⟩ := stB X hx hZ eT A (j := j) q1 (g := mkF m pc Ls (.int x :: .int j :: .ref a :: rest)) rfl rfl (hb hby hd)
  rw [q2] at X' W'
  exact Go.st st (k T' h' X' e' W' (A0.set W' h0))
theorem Go.lastore {j : Int32} {x : Int64} (X : Stand p l e R s m args below meth c T locs cells slots) (hx : p.tables.exec = Jvm.exec) (hby : c.code = by_) (hZ : Z.Warmed39 s.vm) (eT : T.heap = h) (A : Ar Z h a .long z f) (hd : decode by_ pc = .ok (.lastore, 1)) (hp : pc + 1 = pc') (hj : j.toInt = i) (h0 : 0 ≤ i) (h1 : i < z)
    (k : ∀ (T' : State) (h' : Heap), Stand p l e R s m args below meth c T' (locs ++ [⟨a, i.toNat⟩]) cells slots → T'.heap = h' → Wr h h' a i.toNat (.long x) → Ar Z h' a .long z (fun q => if q = i then (.long x) else f q) → Go p e below P (T'.setTop (mkF m pc' Ls rest))) : Go p e below P (T.setTop (mkF m pc Ls (.long x :: .int j :: .ref a :: rest))) := by
  subst hp
  have A0 := A
  obtain ⟨cl, A, r1, r2, r3⟩ := A
  obtain ⟨q1, q2⟩ := in_of r1 hj h0 h1
  obtain ⟨T', h', X', e', W', st⟩ := stJ X hx hZ eT A (j := j) q1 (g := mkF m pc Ls (.long x :: .int j :: .ref a :: rest)) rfl rfl (hb hby hd)
  rw [q2] at X' W'
  exact Go.st st (k T' h' X' e' W' (A0.set W' h0))
theorem Go.aastore {j : Int32} (X : Stand p l e R s m args below meth c T locs cells slots) (hx : p.tables.exec = Jvm.exec) (hby : c.code = by_) (hZ : Z.Warmed39 s.vm) (eT : T.heap = h) (A : Ar Z h a ty z f) (hty : ty.isReference = true) (F : Sto Z h a v) (hd : decode by_ pc = .ok (.aastore, 1)) (hp : pc + 1 = pc') (hj : j.toInt = i) (h0 : 0 ≤ i) (h1 : i < z)
    (k : ∀ (T' : State) (h' : Heap), Stand p l e R s m args below meth c T' (locs ++ [⟨a, i.toNat⟩]) cells slots → T'.heap = h' → Wr h h' a i.toNat v → Ar Z h' a ty z (fun q => if q = i then v else f q) → Go p e below P (T'.setTop (mkF m pc' Ls rest))) : Go p e below P (T.setTop (mkF m pc Ls (v :: .int j :: .ref a :: rest))) := by
  subst hp
  have A0 := A
  obtain ⟨cl, A, r1, r2, r3⟩ := A
  obtain ⟨q1, q2⟩ := in_of r1 hj h0 h1
  obtain ⟨T', h', X', e', W', st⟩ := stR X hx hZ eT A (j := j) q1 hty F (g := mkF m pc Ls (v :: .int j :: .ref a :: rest)) rfl rfl (hb hby hd)
  rw [q2] at X' W'
  exact Go.st st (k T' h' X' e' W' (A0.set W' h0))
theorem Go.newarr {aty : ArrayType} {n : Int32} {cap : Nat} (X : Stand p l e R s m args below meth c T locs cells slots) (hx : p.tables.exec = Jvm.exec) (hby : c.code = by_) (hZ : Z.Warmed39 s.vm) (w : (Jvm.Cond.arrayClass (newarray.typeOf aty)).before a0 Z = true) (eT : T.heap = h) (hd : decode by_ pc = .ok (.newarray aty, 2)) (hp : pc + 2 = pc') (hz : n.toInt = z) (h0 : 0 ≤ z) (hcap : z ≤ cap) (hb0 : cap * 8 ≤ 536870912) (hc : cells + 1 ≤ R.cells) (hl : slots + cap ≤ R.slots)
    (k : ∀ (b : Addr) (T' : State) (h' : Heap), b = h.size → Stand p l e R s m args below meth c T' locs (cells + 1) (slots + cap) → T'.heap = h' → Ext h h' → Ar Z h' b (newarray.typeOf aty) z (fun _ => defaultValue (newarray.typeOf aty)) → Go p e below P (T'.setTop (mkF m pc' Ls (.ref b :: rest)))) : Go p e below P (T.setTop (mkF m pc Ls (.int n :: rest))) := by
  subst hp
  obtain ⟨T', h', cA, X', e', E', A', st⟩ := newP X hx hZ w eT (g := mkF m pc Ls (.int n :: rest)) rfl (hb hby hd) rfl (by rw [Int32.lt_iff_toInt_lt, hz, show (0 : Int32).toInt = 0 from by decide]; omega) (cap := cap) (by simp only [Int32.toNatClampNeg, hz]; omega) hb0 hc hl
  exact Go.st st (k _ T' h' rfl X' e' E' (Ar.new A' hz h0))
theorem Go.new_ {own C : String} {index n : Nat} (X : Stand p l e R s m args below meth c T locs cells slots) (hx : p.tables.exec = Jvm.exec) (hby : c.code = by_) (hZ : Z.Warmed39 s.vm) (hown : s.vm.findClass own = some m.cls) (w : (Jvm.Cond.classLink own index C).before a0 Z = true) (wi : (Jvm.Cond.instantiable C n).before a0 Z = true) (wz : (Jvm.Cond.initialized C).before a0 Z = true) (eT : T.heap = h) (hd : decode by_ pc = .ok (.new index, 3)) (hp : pc + 3 = pc') (hc : cells + 1 ≤ R.cells) (hl : slots + n ≤ R.slots)
    (k : ∀ (b : Addr) (T' : State) (h' : Heap), b = h.size → Stand p l e R s m args below meth c T' locs (cells + 1) (slots + n) → T'.heap = h' → Ext h h' → Exa Z h' b C → (∀ {O nm d : String} {ty : FieldType}, Laid Z a0 C O nm d → parseFieldDescriptor d = some ty → Fld Z h' b O nm d (defaultValue ty)) → Go p e below P (T'.setTop (mkF m pc' Ls (.ref b :: rest)))) : Go p e below P (T.setTop (mkF m pc Ls rest)) := by
  subst hp
  obtain ⟨T', h', X', e', E', A', D', -, st⟩ := newO X hx hZ hown w wi wz eT (g := mkF m pc Ls rest) rfl (hb hby hd) hc hl
  exact Go.st st (k _ T' h' rfl X' e' E' A' D')
theorem Go.getF {own R0 O n d : String} {index : Nat} (X : Stand p l e R s m args below meth c T locs cells slots) (hx : p.tables.exec = Jvm.exec) (hby : c.code = by_) (hZ : Z.Warmed39 s.vm) (hown : s.vm.findClass own = some m.cls) (w : (Jvm.Cond.fieldLink own index R0 n d).before a0 Z = true) (via : Via Z R0 O n d) (eT : T.heap = h) (F : Fld Z h a O n d v) (hd : decode by_ pc = .ok (.getfield index, 3)) (hp : pc + 3 = pc')
    (k : ∀ T' : State, Stand p l e R s m args below meth c T' locs cells slots → T'.heap = h → Go p e below P (T'.setTop (mkF m pc' Ls (v :: rest)))) : Go p e below P (T.setTop (mkF m pc Ls (.ref a :: rest))) := by
  subst hp
  obtain ⟨T', X', e', st⟩ := Jvm.RoadKit.getF X hx hZ hown (host := "") (Or.inl w) via eT F (g := mkF m pc Ls (.ref a :: rest)) rfl rfl (hb hby hd)
  exact Go.st st (k T' X' e')
theorem Go.getSt {own R0 O n d : String} {index : Nat} (X : Stand p l e R s m args below meth c T locs cells slots) (hx : p.tables.exec = Jvm.exec) (hby : c.code = by_) (hZ : Z.Warmed39 s.vm) (hown : s.vm.findClass own = some m.cls) (w : (Jvm.Cond.fieldLink own index R0 n d).before a0 Z = true) (via : Via Z R0 O n d) (eT : T.heap = h) (F : Sta Z h O n d v) (hd : decode by_ pc = .ok (.getstatic index, 3)) (hp : pc + 3 = pc')
    (k : ∀ T' : State, Stand p l e R s m args below meth c T' locs cells slots → T'.heap = h → Go p e below P (T'.setTop (mkF m pc' Ls (v :: rest)))) : Go p e below P (T.setTop (mkF m pc Ls rest)) := by
  subst hp
  obtain ⟨T', X', e', st⟩ := Jvm.RoadKit.getS X hx hZ (host := "") hown w via eT F (g := mkF m pc Ls rest) rfl (hb hby hd)
  exact Go.st st (k T' X' e')
theorem Go.putF {own R0 O n d C : String} {index kk : Nat} {old : Value} (X : Stand p l e R s m args below meth c T locs cells slots) (hx : p.tables.exec = Jvm.exec) (hby : c.code = by_) (hZ : Z.Warmed39 s.vm) (hown : s.vm.findClass own = some m.cls) (w : (Jvm.Cond.fieldLink own index R0 n d).before a0 Z = true) (via : Via Z R0 O n d) (eT : T.heap = h) (F : Fld Z h a O n d old) (E : Exa Z h a C) (L : (Jvm.Cond.lays C O n d).before a0 Z = true ∨ ((Jvm.Cond.laysFinal C O n d).before a0 Z = true ∧ own = O ∧ meth.name = "<init>")) (wi : (Jvm.Cond.instantiable C kk).before a0 Z = true)
    (hty : parseFieldDescriptor d = some ty) (hn : narrow ty v = v) (hf : fits ty v = true) (hd : decode by_ pc = .ok (.putfield index, 3)) (hp : pc + 3 = pc')
    (k : ∀ (T' : State) (h' : Heap), Stand p l e R s m args below meth c T' (locs ++ [⟨a, slotOf Z O n d⟩]) cells slots → T'.heap = h' → Wr h h' a (slotOf Z O n d) v → Go p e below P (T'.setTop (mkF m pc' Ls rest))) : Go p e below P (T.setTop (mkF m pc Ls (v :: .ref a :: rest))) := by
  subst hp
  obtain ⟨T', h', X', e', W', st⟩ := Jvm.RoadKit.putF X hx hZ hown (host := "") (Or.inl w) via eT F E L wi hty hn hf (g := mkF m pc Ls (v :: .ref a :: rest)) rfl rfl (hb hby hd)
  exact Go.st st (k T' h' X' e' W')
theorem Go.initO {own : String} {idx W : Nat} (X : Stand p l e R s m args below meth c T locs cells slots) (hx : p.tables.exec = Jvm.exec) (hby : c.code = by_) (hZ : Z.Warmed39 s.vm) (hown : s.vm.findClass own = some m.cls) (w1 : (Jvm.Cond.methodLink own idx Lib.objectInit).before a0 Z = true) (w2 : (Jvm.Cond.instanceMethod Lib.objectInit).before a0 Z = true) (w3 : (Jvm.Cond.code Lib.objectInit ⟨#[0xb1]⟩ 1 none).before a0 Z = true) (eT : T.heap = h) (hsize : Ls.size = c.maxLocals) (hd : decode by_ pc = .ok (.invokespecial idx, 3)) (hp : pc + 3 = pc') (hf : 1 ≤ R.frames) (hW : 0 + (rest.map fun v => v.category).sum ≤ W) (hl : W + 12 ≤ R.locals)
    (k : ∀ T' : State, Stand p l e R s m args below meth c T' locs cells slots → T'.heap = h → Go p e below P (T'.setTop (mkF m pc' Ls rest))) : Go p e below P (T.setTop (mkF m pc Ls (.ref a :: rest))) := by
  subst hp
  obtain ⟨T', X', e', st⟩ := Jvm.RoadKit.initO X hx hZ hown w1 w2 w3 eT (g := mkF m pc Ls (.ref a :: rest)) rfl hsize rfl (hb hby hd) hf (W := W) hW hl
  exact Go.st st (k T' X' e')
theorem Fr.one {n : Nat} (q : n ≤ a) : Fr n [⟨a, sl⟩] := fun y hy => by cases List.mem_singleton.mp hy; exact q
end OwnHeap

section OwnMore
variable {p : Program} {l : Launch} {e : Env} {R : Room} {s : State} {m : MethodId} {args : Array Value} {below : List Frame} {meth : Method} {c : Code} {T : State} {locs : List Loc} {cells slots : Nat} {Z : State} {a0 : Array Value} {h h' : Heap} {P : Option Value → State → Prop} {by_ : ByteArray} {pc pc' : Nat} {Ls : Array Slot} {rest : List Value} {a b y : Addr} {ty : FieldType} {z i : Int} {f : Int → Value} {sl : Nat} {v : Value} {ws : List Addr} {C : String}
/-- the array at a is one of C's -/
def Ov (Z : State) (h : Heap) (a : Addr) (C : String) : Prop := ∃ cl : Cell, h[a]? = some cl ∧ Ovr Z cl.cls C
theorem Ov.ext (F : Ov Z h a C) (E : Ext h h') : Ov Z h' a C := by obtain ⟨cl, q, r⟩ := F; exact ⟨cl, E.2 _ _ q, r⟩
theorem Ov.wr (F : Ov Z h a C) (W : Wr h h' b sl v) : Ov Z h' a C := by
  obtain ⟨cl, q, r⟩ := F
  obtain ⟨c', e1, e2, -⟩ := wr_at W q
  exact ⟨c', e1, by rw [e2]; exact r⟩
theorem Ov.keep (F : Ov Z h a C) (K : Keep h h' ws) : Ov Z h' a C := by
  obtain ⟨cl, q, r⟩ := F
  obtain ⟨c', e1, e2, -⟩ := K.2.2 _ _ q
  exact ⟨c', e1, by rw [e2]; exact r⟩
theorem Sto.ofA (A : Ar Z h a ty z f) (O : Ov Z h a C) (I : Ins Z h y C true) : Sto Z h a (.ref y) := by
  obtain ⟨cl, A, -⟩ := A
  obtain ⟨cl', q, r⟩ := O
  cases q.symm.trans A.1
  exact Sto.of A r I
theorem Go.anewarr {own : String} {index : Nat} {n : Int32} {cap : Nat} (X : Stand p l e R s m args below meth c T locs cells slots) (hx : p.tables.exec = Jvm.exec) (hby : c.code = by_) (hZ : Z.Warmed39 s.vm) (hown : s.vm.findClass own = some m.cls) (w1 : (Jvm.Cond.classLink own index C).before a0 Z = true) (w2 : (Jvm.Cond.arrayOver (.object C)).before a0 Z = true) (eT : T.heap = h) (hd : decode by_ pc = .ok (.anewarray index, 3)) (hp : pc + 3 = pc') (hz : n.toInt = z) (h0 : 0 ≤ z) (hcap : z ≤ cap) (hb0 : cap * 8 ≤ 536870912) (hc : cells + 1 ≤ R.cells) (hl : slots + cap ≤ R.slots)
    (k : ∀ (b : Addr) (T' : State) (h' : Heap), b = h.size → Stand p l e R s m args below meth c T' locs (cells + 1) (slots + cap) → T'.heap = h' → Ext h h' → Ar Z h' b (.object C) z (fun _ => .null) → Ov Z h' b C → Go p e below P (T'.setTop (mkF m pc' Ls (.ref b :: rest)))) : Go p e below P (T.setTop (mkF m pc Ls (.int n :: rest))) := by
  subst hp
  obtain ⟨T', h', cA, X', e', E', A', O', st⟩ := newR X hx hZ hown w1 w2 eT (g := mkF m pc Ls (.int n :: rest)) rfl (hb hby hd) rfl (by rw [Int32.lt_iff_toInt_lt, hz, show (0 : Int32).toInt = 0 from by decide]; omega) (cap := cap) (by simp only [Int32.toNatClampNeg, hz]; omega) hb0 hc hl
  exact Go.st st (k _ T' h' rfl X' e' E' (Ar.new A' hz h0) ⟨_, A'.1, O'⟩)
theorem Go.callP {own : String} {index : Nat} {y : MethodName} {bytes : ByteArray} {maxL : Nat} {ret : Option FieldType} {rm : Room} {W : Nat} {as : Array Value} {Qc : Option Value → Heap → List Loc → Prop} {argsL st : List Value} {ps : List FieldType} {rt : Option FieldType} {a : Addr} (X : Stand p l e R s m args below meth c T locs cells slots) (hx : p.tables.exec = Jvm.exec) (hby : c.code = by_) (hZ : Z.Warmed39 s.vm) (hown : s.vm.findClass own = some m.cls)
    (w1 : (Jvm.Cond.methodLink own index y).before a0 Z = true) (w2 : (Jvm.Cond.instanceMethod y).before a0 Z = true) (w5 : (Jvm.Cond.selects y.cls y y).before a0 Z = true) (w6 : (Jvm.Cond.privateMethod y).before a0 Z = true) (w3 : (Jvm.Cond.initialized y.cls).before a0 Z = true) (w4 : (Jvm.Cond.code y bytes maxL ret).before a0 Z = true) (hy : y.cls ≠ "java/lang/invoke/MethodHandle" ∧ y.cls ≠ "java/lang/invoke/VarHandle")
    (hM : Con l Z y bytes maxL ret [] rm as h Qc) (eT : T.heap = h) (hE : Exa Z h a C) (hf : rm.frames + 1 ≤ R.frames) (hl : W + (maxL + 11) + rm.locals ≤ R.locals) (hsize : Ls.size = c.maxLocals) (hpd : parseMethodDescriptor y.desc = some ⟨ps, rt⟩) (hlen : argsL.length = ps.length) (hst : st = argsL.reverse ++ .ref a :: rest) (has : (.ref a :: argsL).toArray = as) (hW : 0 + (rest.map fun v => v.category).sum ≤ W)
    (hd : decode by_ pc = .ok (.invokevirtual index, 3)) (hp : pc + 3 = pc') (hc : cells + rm.cells ≤ R.cells) (hs : slots + rm.slots ≤ R.slots)
    (k : ∀ (v : Option Value) (T' : State) (L : List Loc), Stand p l e R s m args below meth c T' (locs ++ L) (cells + rm.cells) (slots + rm.slots) → Qc v T'.heap L → Go p e below P (T'.setTop (mkF m pc' Ls (v.toList ++ rest)))) : Go p e below P (T.setTop (mkF m pc Ls st)) := by
  subst hp
  obtain ⟨cq, q1, q2⟩ := hE.cell
  obtain ⟨v, _, ⟨T3, L3, k3, n3⟩, -, X3, ⟨Lc3, hQ3, l3, y3, z3⟩, st3⟩ := X.privateBack hx (y := y) hown (mvT hZ w1) (mvT hZ w2) (mvT hZ w5) (Cond.privateMethod_at (mvP hZ w6 (args := #[]))) (mvT hZ w4) hy (backOf (W := W) hM hZ w4 w3 hf hl) (g := mkF m pc Ls st) rfl hsize (Steps.refl _) (a := a) (by rw [eT]; exact q1) q2 (argsL := argsL) (rest := rest) (lenOf hpd hlen) hst hW (hb hby hd) (fun _ _ => ⟨has, eT, hc, hs⟩)
  dsimp only [Pt.U, Pt.locs, Pt.cells, Pt.slots] at X3 l3 y3 z3 st3 hQ3
  subst l3 y3 z3
  exact Go.via st3 (k v T3 Lc3 X3 hQ3)
theorem Go.callF {own : String} {index count : Nat} {x y : MethodName} {bytes : ByteArray} {maxL : Nat} {ret : Option FieldType} {rm : Room} {W : Nat} {as : Array Value} {Qc : Option Value → Heap → List Loc → Prop} {argsL st : List Value} {ps : List FieldType} {rt : Option FieldType} {a : Addr} (X : Stand p l e R s m args below meth c T locs cells slots) (hx : p.tables.exec = Jvm.exec) (hby : c.code = by_) (hZ : Z.Warmed39 s.vm) (hown : s.vm.findClass own = some m.cls)
    (w1 : (Jvm.Cond.methodLink own index x).before a0 Z = true) (w2 : (Jvm.Cond.declares x).before a0 Z = true) (w7 : (Jvm.Cond.interfaceMethod x.cls x.cls x.name x.desc).before args s = true) (w5 : (Jvm.Cond.selects C x y).before a0 Z = true) (w6 : (Jvm.Cond.instanceMethod y).before a0 Z = true) (w8 : (Jvm.Cond.publicMethod y).before a0 Z = true) (w9 : (Jvm.Cond.unhidden C x.name x.desc).before a0 Z = true) (w10 : (Jvm.Cond.castable C x.cls).before a0 Z = true) (w3 : (Jvm.Cond.initialized y.cls).before a0 Z = true) (w4 : (Jvm.Cond.code y bytes maxL ret).before a0 Z = true) (hy : x.cls ≠ "java/lang/invoke/MethodHandle" ∧ x.cls ≠ "java/lang/invoke/VarHandle")
    (hM : Con l Z y bytes maxL ret [] rm as h Qc) (eT : T.heap = h) (hE : Exa Z h a C) (hf : rm.frames + 1 ≤ R.frames) (hl : W + (maxL + 11) + rm.locals ≤ R.locals) (hsize : Ls.size = c.maxLocals) (hpd : parseMethodDescriptor x.desc = some ⟨ps, rt⟩) (hlen : argsL.length = ps.length) (hst : st = argsL.reverse ++ .ref a :: rest) (has : (.ref a :: argsL).toArray = as) (hW : 0 + (rest.map fun v => v.category).sum ≤ W)
    (hd : decode by_ pc = .ok (.invokeinterface index count, 5)) (hp : pc + 5 = pc') (hc : cells + rm.cells ≤ R.cells) (hs : slots + rm.slots ≤ R.slots)
    (k : ∀ (v : Option Value) (T' : State) (L : List Loc), Stand p l e R s m args below meth c T' (locs ++ L) (cells + rm.cells) (slots + rm.slots) → Qc v T'.heap L → Go p e below P (T'.setTop (mkF m pc' Ls (v.toList ++ rest)))) : Go p e below P (T.setTop (mkF m pc Ls st)) := by
  subst hp
  obtain ⟨cq, kq, q4a, q4b, q4c⟩ := isOf (T := T) hZ eT hE
  obtain ⟨v, _, ⟨T3, L3, k3, n3⟩, -, X3, ⟨Lc3, hQ3, l3, y3, z3⟩, st3⟩ := X.interfaceBack hx (xi := x) (y := y) hown (mvT hZ w1) (mvT hZ w2) w7 (mvT hZ w5) (mvT hZ w6) (mvT hZ w8) (mvT hZ w9) (mvT hZ w10) hy (backOf (W := W) hM hZ w4 w3 hf hl) q4a q4b q4c (g := mkF m pc Ls st) rfl hsize (Steps.refl _) (argsL := argsL) (rest := rest) (lenOf hpd hlen) hst hW (hb hby hd) (fun _ _ => ⟨has, eT, hc, hs⟩)
  dsimp only [Pt.U, Pt.locs, Pt.cells, Pt.slots] at X3 l3 y3 z3 st3 hQ3
  subst l3 y3 z3
  exact Go.via st3 (k v T3 Lc3 X3 hQ3)
end OwnMore

section OwnArr
variable {p : Program} {l : Launch} {e : Env} {R : Room} {s : State} {m : MethodId} {args : Array Value} {below : List Frame} {meth : Method} {c : Code} {T : State} {locs : List Loc} {cells slots : Nat} {Z : State} {a0 : Array Value} {h h' : Heap} {P : Option Value → State → Prop} {by_ : ByteArray} {pc pc' : Nat} {Ls : Array Slot} {rest : List Value} {a b y : Addr} {ty ty' : FieldType} {z z' i : Int} {f f' : Int → Value} {sl : Nat} {v : Value} {ws : List Addr} {C : String}
theorem Ar.neTy (A : Ar Z h a ty z f) (B : Ar Z h b ty' z' f') (q : ty ≠ ty') : a ≠ b := by
  intro e
  subst e
  obtain ⟨c1, A, -⟩ := A
  obtain ⟨c2, B, -⟩ := B
  cases A.1.symm.trans B.1
  obtain ⟨-, k, hk, comp, hkind⟩ := A.2.1
  obtain ⟨-, k', hk', comp', hkind'⟩ := B.2.1
  cases hk.symm.trans hk'
  rw [hkind] at hkind'
  cases hkind'
  exact q rfl
theorem Ar.neExa {k : Nat} (E : Exa Z h a C) (wi : (Jvm.Cond.instantiable C k).before a0 Z = true) (A : Ar Z h b ty z f) : a ≠ b := by
  obtain ⟨cl, A, -⟩ := A
  exact ne_arr E wi A
/-- the array at a is one of arrays of C -/
def OvA (Z : State) (h : Heap) (a : Addr) (ty : FieldType) (C : String) : Prop := ∃ cl : Cell, h[a]? = some cl ∧ OvrA Z cl.cls ty C
theorem OvA.ext (F : OvA Z h a ty C) (E : Ext h h') : OvA Z h' a ty C := by obtain ⟨cl, q, r⟩ := F; exact ⟨cl, E.2 _ _ q, r⟩
theorem OvA.wr (F : OvA Z h a ty C) (W : Wr h h' b sl v) : OvA Z h' a ty C := by
  obtain ⟨cl, q, r⟩ := F
  obtain ⟨c', e1, e2, -⟩ := wr_at W q
  exact ⟨c', e1, by rw [e2]; exact r⟩
theorem Sto.ofAA (A : Ar Z h a ty z f) (O : OvA Z h a ty' C) (I : Ins Z h y C true) : Sto Z h a (.ref y) := by
  obtain ⟨cl, A, -⟩ := A
  obtain ⟨cl', q, r⟩ := O
  cases q.symm.trans A.1
  exact Sto.ofVA A rfl r I
theorem Go.newarrE {aty : ArrayType} {n : Int32} {cap : Nat} {ad : String} (X : Stand p l e R s m args below meth c T locs cells slots) (hx : p.tables.exec = Jvm.exec) (hby : c.code = by_) (hZ : Z.Warmed39 s.vm) (w : (Jvm.Cond.arrayClass (newarray.typeOf aty)).before a0 Z = true) (eT : T.heap = h) (hd : decode by_ pc = .ok (.newarray aty, 2)) (hp : pc + 2 = pc') (hz : n.toInt = z) (h0 : 0 ≤ z) (hcap : z ≤ cap) (hb0 : cap * 8 ≤ 536870912) (hc : cells + 1 ≤ R.cells) (hl : slots + cap ≤ R.slots) (had : "[" ++ (newarray.typeOf aty).toString = ad)
    (k : ∀ (b : Addr) (T' : State) (h' : Heap), b = h.size → Stand p l e R s m args below meth c T' locs (cells + 1) (slots + cap) → T'.heap = h' → Ext h h' → Ar Z h' b (newarray.typeOf aty) z (fun _ => defaultValue (newarray.typeOf aty)) → Exa Z h' b ad → Go p e below P (T'.setTop (mkF m pc' Ls (.ref b :: rest)))) : Go p e below P (T.setTop (mkF m pc Ls (.int n :: rest))) := by
  subst hp
  obtain ⟨T', h', cA, X', e', E', A', F', st⟩ := newPE X hx hZ w eT (g := mkF m pc Ls (.int n :: rest)) rfl (hb hby hd) rfl (by rw [Int32.lt_iff_toInt_lt, hz, show (0 : Int32).toInt = 0 from by decide]; omega) (cap := cap) (by simp only [Int32.toNatClampNeg, hz]; omega) hb0 hc hl had
  exact Go.st st (k _ T' h' rfl X' e' E' (Ar.new A' hz h0) F')
theorem Go.anewarrA {own : String} {index : Nat} {n : Int32} {cap : Nat} (X : Stand p l e R s m args below meth c T locs cells slots) (hx : p.tables.exec = Jvm.exec) (hby : c.code = by_) (hZ : Z.Warmed39 s.vm) (hown : s.vm.findClass own = some m.cls) (hC : (FieldType.array ty).toString = C) (w1 : (Jvm.Cond.classLink own index C).before a0 Z = true) (w2 : (Jvm.Cond.arrayOver (.array ty)).before a0 Z = true) (eT : T.heap = h) (hd : decode by_ pc = .ok (.anewarray index, 3)) (hp : pc + 3 = pc') (hz : n.toInt = z) (h0 : 0 ≤ z) (hcap : z ≤ cap) (hb0 : cap * 8 ≤ 536870912) (hc : cells + 1 ≤ R.cells) (hl : slots + cap ≤ R.slots)
    (k : ∀ (b : Addr) (T' : State) (h' : Heap), b = h.size → Stand p l e R s m args below meth c T' locs (cells + 1) (slots + cap) → T'.heap = h' → Ext h h' → Ar Z h' b (.array ty) z (fun _ => .null) → OvA Z h' b ty C → Go p e below P (T'.setTop (mkF m pc' Ls (.ref b :: rest)))) : Go p e below P (T.setTop (mkF m pc Ls (.int n :: rest))) := by
  subst hp
  obtain ⟨T', h', cA, X', e', E', A', -, O', st⟩ := newRA X hx hZ hown hC w1 w2 eT (g := mkF m pc Ls (.int n :: rest)) rfl (hb hby hd) rfl (by rw [Int32.lt_iff_toInt_lt, hz, show (0 : Int32).toInt = 0 from by decide]; omega) (cap := cap) (by simp only [Int32.toNatClampNeg, hz]; omega) hb0 hc hl (ad := "[" ++ C) rfl
  exact Go.st st (k _ T' h' rfl X' e' E' (Ar.new A' hz h0) ⟨_, A'.1, O'⟩)
end OwnArr

end Jvm.RoadKit
namespace Jvm.RoadKit
open Sem ClassFile Op Lib Jvm.Stand Jvm.Free Jvm.LawKit
section OwnDbl
variable {p : Program} {l : Launch} {e : Env} {R : Room} {s : State} {m : MethodId} {args : Array Value} {below : List Frame} {meth : Method} {c : Code} {T : State} {locs : List Loc} {cells slots : Nat} {Z : State} {a0 : Array Value} {h h' : Heap} {P : Option Value → State → Prop} {by_ : ByteArray} {pc pc' : Nat} {Ls Ls' : Array Slot} {rest : List Value} {a : Addr} {z i : Int} {f : Int → Value} {v : Value} {x y w : UInt64}
theorem Go.dloadN {k : Fin 4} (X : Stand p l e R s m args below meth c T locs cells slots) (hx : p.tables.exec = Jvm.exec) (hby : c.code = by_) (hd : decode by_ pc = .ok (.dload_n k, 1)) (hp : pc + 1 = pc') (hl : Ls[k.val]? = some (.val (.double x))) (g : Go p e below P (T.setTop (mkF m pc' Ls (.double x :: rest)))) : Go p e below P (T.setTop (mkF m pc Ls rest)) := by
  subst hp; exact Go.st (fun t k => XS.dloadN X.here hx rfl (hb hby hd) hl k) g
theorem Go.dload {k : Nat} (X : Stand p l e R s m args below meth c T locs cells slots) (hx : p.tables.exec = Jvm.exec) (hby : c.code = by_) (hd : decode by_ pc = .ok (.dload k, 2)) (hp : pc + 2 = pc') (hl : Ls[k]? = some (.val (.double x))) (g : Go p e below P (T.setTop (mkF m pc' Ls (.double x :: rest)))) : Go p e below P (T.setTop (mkF m pc Ls rest)) := by
  subst hp; exact Go.st (fun t k => XS.dload X.here hx rfl (hb hby hd) hl k) g
theorem Go.dstoreN {k : Fin 4} (X : Stand p l e R s m args below meth c T locs cells slots) (hx : p.tables.exec = Jvm.exec) (hby : c.code = by_) (hd : decode by_ pc = .ok (.dstore_n k, 1)) (hp : pc + 1 = pc') (hl : storeLocals Ls k.val (.double x) = some Ls') (g : Go p e below P (T.setTop (mkF m pc' Ls' rest))) : Go p e below P (T.setTop (mkF m pc Ls (.double x :: rest))) := by
  subst hp; exact Go.st (fun t k => XS.dstoreN X.here hx rfl (hb hby hd) rfl hl k) g
theorem Go.dstore {k : Nat} (X : Stand p l e R s m args below meth c T locs cells slots) (hx : p.tables.exec = Jvm.exec) (hby : c.code = by_) (hd : decode by_ pc = .ok (.dstore k, 2)) (hp : pc + 2 = pc') (hl : storeLocals Ls k (.double x) = some Ls') (g : Go p e below P (T.setTop (mkF m pc' Ls' rest))) : Go p e below P (T.setTop (mkF m pc Ls (.double x :: rest))) := by
  subst hp; exact Go.st (fun t k => XS.dstore X.here hx rfl (hb hby hd) rfl hl k) g
theorem Go.dconst0 (X : Stand p l e R s m args below meth c T locs cells slots) (hx : p.tables.exec = Jvm.exec) (hby : c.code = by_) (hd : decode by_ pc = .ok (.dconst 0, 1)) (hp : pc + 1 = pc') (hv : FP.dconst0 = w) (g : Go p e below P (T.setTop (mkF m pc' Ls (.double w :: rest)))) : Go p e below P (T.setTop (mkF m pc Ls rest)) := by
  subst hp; exact Go.st (fun t k => XS.dconst0 X.here hx rfl (hb hby hd) hv k) g
theorem Go.dconst1 (X : Stand p l e R s m args below meth c T locs cells slots) (hx : p.tables.exec = Jvm.exec) (hby : c.code = by_) (hd : decode by_ pc = .ok (.dconst 1, 1)) (hp : pc + 1 = pc') (hv : FP.dconst1 = w) (g : Go p e below P (T.setTop (mkF m pc' Ls (.double w :: rest)))) : Go p e below P (T.setTop (mkF m pc Ls rest)) := by
  subst hp; exact Go.st (fun t k => XS.dconst1 X.here hx rfl (hb hby hd) hv k) g
theorem Go.i2d {n : Int32} (X : Stand p l e R s m args below meth c T locs cells slots) (hx : p.tables.exec = Jvm.exec) (hby : c.code = by_) (hd : decode by_ pc = .ok (.i2d, 1)) (hp : pc + 1 = pc') (g : Go p e below P (T.setTop (mkF m pc' Ls (.double (FP.i2d n) :: rest)))) : Go p e below P (T.setTop (mkF m pc Ls (.int n :: rest))) := by
  subst hp; exact Go.st (fun t k => XS.i2dS X.here hx rfl (hb hby hd) rfl rfl k) g
theorem Go.dcmp {o : CmpOp} {n : Int32} (X : Stand p l e R s m args below meth c T locs cells slots) (hx : p.tables.exec = Jvm.exec) (hby : c.code = by_) (hd : decode by_ pc = .ok (.dcmp o, 1)) (hp : pc + 1 = pc') (hv : cmpValue (FP.dcmp x y) o = n) (g : Go p e below P (T.setTop (mkF m pc' Ls (.int n :: rest)))) : Go p e below P (T.setTop (mkF m pc Ls (.double y :: .double x :: rest))) := by
  subst hp; exact Go.st (fun t k => XS.dcmpS X.here hx rfl (hb hby hd) rfl hv k) g
theorem Go.dadd (X : Stand p l e R s m args below meth c T locs cells slots) (hx : p.tables.exec = Jvm.exec) (hby : c.code = by_) (hd : decode by_ pc = .ok (.dadd, 1)) (hp : pc + 1 = pc') (hn : Jvm.Free.Fl.NoNaN64 w) (hv : FP.dadd x y = w) (g : Go p e below P (T.setTop (mkF m pc' Ls (.double w :: rest)))) : Go p e below P (T.setTop (mkF m pc Ls (.double y :: .double x :: rest))) := by
  subst hp hv; exact Go.st (fun t k => XS.daddS X.here hx rfl (hb hby hd) rfl hn rfl k) g
theorem Go.dsub (X : Stand p l e R s m args below meth c T locs cells slots) (hx : p.tables.exec = Jvm.exec) (hby : c.code = by_) (hd : decode by_ pc = .ok (.dsub, 1)) (hp : pc + 1 = pc') (hn : Jvm.Free.Fl.NoNaN64 w) (hv : FP.dsub x y = w) (g : Go p e below P (T.setTop (mkF m pc' Ls (.double w :: rest)))) : Go p e below P (T.setTop (mkF m pc Ls (.double y :: .double x :: rest))) := by
  subst hp hv; exact Go.st (fun t k => XS.dsubS X.here hx rfl (hb hby hd) rfl hn rfl k) g
theorem Go.dmul (X : Stand p l e R s m args below meth c T locs cells slots) (hx : p.tables.exec = Jvm.exec) (hby : c.code = by_) (hd : decode by_ pc = .ok (.dmul, 1)) (hp : pc + 1 = pc') (hn : Jvm.Free.Fl.NoNaN64 w) (hv : FP.dmul x y = w) (g : Go p e below P (T.setTop (mkF m pc' Ls (.double w :: rest)))) : Go p e below P (T.setTop (mkF m pc Ls (.double y :: .double x :: rest))) := by
  subst hp hv; exact Go.st (fun t k => XS.dmulS X.here hx rfl (hb hby hd) rfl hn rfl k) g
theorem Go.ddiv (X : Stand p l e R s m args below meth c T locs cells slots) (hx : p.tables.exec = Jvm.exec) (hby : c.code = by_) (hd : decode by_ pc = .ok (.ddiv, 1)) (hp : pc + 1 = pc') (hn : Jvm.Free.Fl.NoNaN64 w) (hv : FP.ddiv x y = w) (g : Go p e below P (T.setTop (mkF m pc' Ls (.double w :: rest)))) : Go p e below P (T.setTop (mkF m pc Ls (.double y :: .double x :: rest))) := by
  subst hp hv; exact Go.st (fun t k => XS.ddivS X.here hx rfl (hb hby hd) rfl hn rfl k) g
theorem Go.ldc2D {own : String} {index : Nat} (X : Stand p l e R s m args below meth c T locs cells slots) (hx : p.tables.exec = Jvm.exec) (hby : c.code = by_) (hd : decode by_ pc = .ok (.ldc2_w index, 3)) (hp : pc + 3 = pc') (hZ : Z.Warmed39 s.vm) (hown : s.vm.findClass own = some m.cls) (hk : (Jvm.Cond.constantDouble own index x).before a0 Z = true) (g : Go p e below P (T.setTop (mkF m pc' Ls (.double x :: rest)))) : Go p e below P (T.setTop (mkF m pc Ls rest)) := by
  subst hp; exact Go.st (X.ldc2DoubleC hx hown (mvT hZ hk) (g := mkF m pc Ls rest) rfl (hb hby hd)) g
theorem Go.daload {j : Int32} (X : Stand p l e R s m args below meth c T locs cells slots) (hx : p.tables.exec = Jvm.exec) (hby : c.code = by_) (hZ : Z.Warmed39 s.vm) (eT : T.heap = h) (A : Ar Z h a .double z f) (hd : decode by_ pc = .ok (.daload, 1)) (hp : pc + 1 = pc') (hj : j.toInt = i) (h0 : 0 ≤ i) (h1 : i < z) (hv : f i = v) (k : Go p e below P (T.setTop (mkF m pc' Ls (v :: rest)))) : Go p e below P (T.setTop (mkF m pc Ls (.int j :: .ref a :: rest))) := by
  subst hp hv
  obtain ⟨cl, A, r1, r2, r3⟩ := A
  obtain ⟨q1, q2⟩ := in_of r1 hj h0 h1
  exact Go.st (fun t k => X.daload hx (j := j) (v := f i) (by rw [eT]; exact A.1) (State.isArrayOf_alike hZ.alike A.2.1) A.2.2 q1 (by rw [q2, r3 _ (by omega)]; congr 2; omega) (g := mkF m pc Ls (.int j :: .ref a :: rest)) rfl rfl (hb hby hd) _ k) k
theorem Go.dastore {j : Int32} (X : Stand p l e R s m args below meth c T locs cells slots) (hx : p.tables.exec = Jvm.exec) (hby : c.code = by_) (hZ : Z.Warmed39 s.vm) (eT : T.heap = h) (A : Ar Z h a .double z f) (hd : decode by_ pc = .ok (.dastore, 1)) (hp : pc + 1 = pc') (hj : j.toInt = i) (h0 : 0 ≤ i) (h1 : i < z)
    (k : ∀ (T' : State) (h' : Heap), Stand p l e R s m args below meth c T' (locs ++ [⟨a, i.toNat⟩]) cells slots → T'.heap = h' → Wr h h' a i.toNat (.double x) → Ar Z h' a .double z (fun q => if q = i then (.double x) else f q) → Go p e below P (T'.setTop (mkF m pc' Ls rest))) : Go p e below P (T.setTop (mkF m pc Ls (.double x :: .int j :: .ref a :: rest))) := by
  subst hp
  have A0 := A
  obtain ⟨cl, A, r1, r2, r3⟩ := A
  obtain ⟨q1, q2⟩ := in_of r1 hj h0 h1
  obtain ⟨T', h', X', e', W', st⟩ := stD X hx hZ eT A (j := j) q1 (g := mkF m pc Ls (.double x :: .int j :: .ref a :: rest)) rfl rfl (hb hby hd)
  rw [q2] at X' W'
  exact Go.st st (k T' h' X' e' W' (A0.set W' h0))
/-- a static method of a nest-mate -/
theorem Go.callSNest {own host : String} {index : Nat} {y : MethodName} {bytes : ByteArray} {maxL : Nat} {ret : Option FieldType} {rm : Room} {W : Nat} {as : Array Value} {Qc : Option Value → Heap → List Loc → Prop} {argsL st : List Value} {ps : List FieldType} {rt : Option FieldType} (X : Stand p l e R s m args below meth c T locs cells slots) (hx : p.tables.exec = Jvm.exec) (hby : c.code = by_) (hZ : Z.Warmed39 s.vm) (hown : s.vm.findClass own = some m.cls)
    (w1 : (Jvm.Cond.methodLinkNest own index y host).before a0 Z = true) (w2 : (Jvm.Cond.static y).before a0 Z = true) (w3 : (Jvm.Cond.initialized y.cls).before a0 Z = true) (w4 : (Jvm.Cond.code y bytes maxL ret).before a0 Z = true) (hy : y.cls ≠ "java/lang/invoke/MethodHandle" ∧ y.cls ≠ "java/lang/invoke/VarHandle")
    (hM : Con l Z y bytes maxL ret [] rm as h Qc) (eT : T.heap = h) (hf : rm.frames + 1 ≤ R.frames) (hl : W + (maxL + 11) + rm.locals ≤ R.locals) (hsize : Ls.size = c.maxLocals) (hpd : parseMethodDescriptor y.desc = some ⟨ps, rt⟩) (hlen : argsL.length = ps.length) (hst : st = argsL.reverse ++ rest) (has : argsL.toArray = as) (hW : 0 + (rest.map fun v => v.category).sum ≤ W)
    (hd : decode by_ pc = .ok (.invokestatic index, 3)) (hp : pc + 3 = pc') (hc : cells + rm.cells ≤ R.cells) (hs : slots + rm.slots ≤ R.slots)
    (k : ∀ (v : Option Value) (T' : State) (L : List Loc), Stand p l e R s m args below meth c T' (locs ++ L) (cells + rm.cells) (slots + rm.slots) → Qc v T'.heap L → Go p e below P (T'.setTop (mkF m pc' Ls (v.toList ++ rest)))) : Go p e below P (T.setTop (mkF m pc Ls st)) := by
  subst hp
  obtain ⟨v, _, ⟨T3, L3, k3, n3⟩, -, X3, ⟨Lc3, hQ3, l3, y3, z3⟩, st3⟩ := callSN X hx (y := y) hown (Cond.methodLinkNest_wide hZ w1 :) (mvT hZ w2) (mvT hZ w3) (mvT hZ w4) hy (backOf (W := W) hM hZ w4 w3 hf hl) (g := mkF m pc Ls st) rfl hsize (argsL := argsL) (rest := rest) (lenOf hpd hlen) hst hW (hb hby hd) (fun _ _ => ⟨has, eT, hc, hs⟩)
  dsimp only [Pt.U, Pt.locs, Pt.cells, Pt.slots] at X3 l3 y3 z3 st3 hQ3
  subst l3 y3 z3
  exact Go.via st3 (k v T3 Lc3 X3 hQ3)
/-- <init> through an entry that is resolved -/
theorem Go.callIRef {own : String} {index : Nat} {y : MethodName} {bytes : ByteArray} {maxL : Nat} {rm : Room} {W : Nat} {as : Array Value} {Qc : Option Value → Heap → List Loc → Prop} {argsL st : List Value} {ps : List FieldType} {rt : Option FieldType} {a : Addr} (X : Stand p l e R s m args below meth c T locs cells slots) (hx : p.tables.exec = Jvm.exec) (hby : c.code = by_) (hy1 : y.name = "<init>") (hZ : Z.Warmed39 s.vm) (hown : s.vm.findClass own = some m.cls)
    (w1 : (Jvm.Cond.methodRef own index y).before a0 Z = true) (w2 : (Jvm.Cond.instanceMethod y).before a0 Z = true) (w3 : (Jvm.Cond.initialized y.cls).before a0 Z = true) (w4 : (Jvm.Cond.code y bytes maxL none).before a0 Z = true) (hy : y.cls ≠ "java/lang/invoke/MethodHandle" ∧ y.cls ≠ "java/lang/invoke/VarHandle")
    (hM : Con l Z y bytes maxL none [] rm as h Qc) (eT : T.heap = h) (hf : rm.frames + 1 ≤ R.frames) (hl : W + (maxL + 11) + rm.locals ≤ R.locals) (hsize : Ls.size = c.maxLocals) (hpd : parseMethodDescriptor y.desc = some ⟨ps, rt⟩) (hlen : argsL.length = ps.length) (hst : st = argsL.reverse ++ .ref a :: rest) (has : (.ref a :: argsL).toArray = as) (hW : 0 + (rest.map fun v => v.category).sum ≤ W)
    (hd : decode by_ pc = .ok (.invokespecial index, 3)) (hp : pc + 3 = pc') (hc : cells + rm.cells ≤ R.cells) (hs : slots + rm.slots ≤ R.slots)
    (k : ∀ (v : Option Value) (T' : State) (L : List Loc), Stand p l e R s m args below meth c T' (locs ++ L) (cells + rm.cells) (slots + rm.slots) → Qc v T'.heap L → Go p e below P (T'.setTop (mkF m pc' Ls (v.toList ++ rest)))) : Go p e below P (T.setTop (mkF m pc Ls st)) := by
  subst hp
  have hZT : Z.Warmed39 T.vm := wtrans hZ X.warmed
  obtain ⟨mz, methz, hnz, -, -, -⟩ := Cond.instanceMethod_spec w2
  have href : (Jvm.Cond.methodRef own index y).before a0 (Z.setVm T.vm) = true := Cond.methodRef_warmed39 hZT hnz hy w1
  obtain ⟨mk, methM, hn, hm, hst', hab⟩ := Cond.instanceMethod_spec (mvT hZ w2 : (Jvm.Cond.instanceMethod y).before args s = true)
  obtain ⟨methM', cM, hm', -, -, -, -, -, -, hsig⟩ := Cond.code_spec hn (mvT hZ w4 : (Jvm.Cond.code y bytes maxL none).before args s = true)
  cases hm.symm.trans hm'
  have al := X.warmed.alike
  have X1 := X.noted X.warmed
  have hnT : (Z.setVm T.vm).methodNamed? y = some mk := X1.named hn
  have hmT : T.vm.method? mk = some methM := by rw [al.method?]; exact hm
  obtain ⟨m1, c1, f1, r1, f2, nr⟩ := Cond.methodRef_named e (s := Z.setVm T.vm) (show T.vm.findClass own = some m.cls by rw [al.findClass]; exact hown) href
  have e1 : m1 = mk := by
    have q := State.methodFound?_of_named hnT hy
    rw [f1] at q; exact Option.some.inj q
  subst e1
  have e2 : c1 = m1.cls := by
    have q := findClass_of_methodNamed hnT
    rw [f2] at q; exact Option.some.inj q
  subst e2
  obtain ⟨kO, hkO, -⟩ := className_of_methodNamed hnT
  obtain ⟨hnm, hds⟩ := name_of_methodNamed hn hm
  have hfound : lookupSpecial T.vm m1.cls "<init>" methM.desc = .method m1 := by rw [hds, ← hy1]; exact lookupSpecial_of_named (s := Z.setVm T.vm) hnT hmT hst'
  obtain ⟨v, B, X', ⟨Lc3, hQ3, l3, y3, z3⟩, hsteps⟩ := backOf (W := W) (len := 3) hM hZ w4 w3 hf hl m meth c ⟨T.setVm T.vm, locs, cells, slots⟩ { mkF m pc Ls st with stack := rest } (.invokespecial index) m1 (.ref a :: argsL).toArray X1 rfl hsize (hb hby hd) hW (X1.named hn) ⟨has, eT, hc, hs⟩
  obtain ⟨T3, L3, k3, n3⟩ := B
  dsimp only [Pt.U, Pt.locs, Pt.cells, Pt.slots] at X' l3 y3 z3 hsteps hQ3
  subst l3 y3 z3
  refine Go.via ?_ (k v T3 Lc3 X' hQ3)
  have hd' := hb (c := c) hby hd
  refine Steps.trans ?_ hsteps
  jvm_step X.here [hx, hd', invokespecial.wp_init (e := e) (s := T) (k := kO) (meth := methM) (m := m1) (a := a) (args := argsL) (rest := rest) (f := mkF m pc Ls st) X.here.top nr r1 hkO hmT (by rw [hnm]; exact hy1) hst' hab hfound (lenOf hpd hlen _ hsig) hst]
  intro acts
  rw [doInvoke_state]
  exact Steps.refl _
end OwnDbl
end Jvm.RoadKit
namespace Jvm.RoadKit
open Sem ClassFile Op Lib Jvm.Stand Jvm.Free Jvm.LawKit
section OwnSel
variable {Z : State} {a0 : Array Value}
/-- a private method's 'selects', from one of another method of its class -/
theorem own_sel {C : String} {w y : MethodName} (h1 : (Jvm.Cond.selects C w w).before a0 Z = true) (hcl : w.cls = y.cls) (h2 : (Jvm.Cond.privateMethod y).before a0 Z = true) (h3 : (Jvm.Cond.instanceMethod y).before a0 Z = true) (hy : y.cls ≠ "java/lang/invoke/MethodHandle" ∧ y.cls ≠ "java/lang/invoke/VarHandle") : (Jvm.Cond.selects y.cls y y).before a0 Z = true := by
  obtain ⟨c2, r2, m2, q1, q2, q3, q4, kP, hkP, hkPi⟩ := Cond.selects_spec h1
  exact Jvm.Stand.selects_self_of_private (by rw [← hcl]; exact findClass_of_methodNamed q3) hkP hkPi (Cond.privateMethod_at h2) h3 hy
end OwnSel
end Jvm.RoadKit
namespace Jvm.Pilot.@@N@@
open Jvm Jvm.ClassFile Sem Op Lib Jvm.Free Jvm.Stand Jvm.LawKit Jvm.RoadKit Bundle Jvm.Pilot.@@N@@.Jvm.D
open Jvm.FP.Core in
/-- the double n / 2^20 -/
def own_dy (n : Nat) : UInt64 := of64 (round b64 (.fin false n (-20)))
theorem own_cv {c A N M : Nat} {q : Int} (h : c * 2 ^ (q + N).toNat = A * 2 ^ M) (hq : -(N : Int) ≤ q) : c * 2 ^ (q + N - M).toNat = A * 2 ^ (M - (q + N)).toNat := by
  obtain ⟨t, ht⟩ := Int.eq_ofNat_of_zero_le (show 0 ≤ q + N by omega)
  rw [ht] at h ⊢
  rw [Int.toNat_natCast] at h
  by_cases g : M ≤ t
  · rw [show ((t : Int) - M).toNat = t - M by omega, show ((M : Int) - t).toNat = 0 by omega, Nat.pow_zero, Nat.mul_one]
    have e : 2 ^ t = 2 ^ (t - M) * 2 ^ M := by rw [← Nat.pow_add]; congr 1; omega
    rw [e, ← Nat.mul_assoc] at h
    exact Nat.eq_of_mul_eq_mul_right (Nat.two_pow_pos M) h
  · rw [show ((t : Int) - M).toNat = 0 by omega, show ((M : Int) - t).toNat = M - t by omega, Nat.pow_zero, Nat.mul_one]
    have e : 2 ^ M = 2 ^ (M - t) * 2 ^ t := by rw [← Nat.pow_add]; congr 1; omega
    rw [e, ← Nat.mul_assoc] at h
    exact Nat.eq_of_mul_eq_mul_right (Nat.two_pow_pos t) h
open Jvm.FP.Core in
theorem own_dv {n : Nat} (h : n < 9007199254740992) : ∃ c q, val64 (own_dy n) = .fin false c q ∧ -1074 ≤ q ∧ c * 2 ^ (q + (1074 : Nat)).toNat = n * 2 ^ 1054 := by
  have e : val64 (own_dy n) = round b64 (.fin false n (-20)) := val64_of64 (round_fits good_b64 _)
  have qm : b64.qmin = -1074 := by decide
  obtain ⟨c, q, e1, e2⟩ := round_exact good_b64 false (c := n) (q := -20) (by show n < 2 ^ 53; omega) (by rw [qm]; decide) (by decide)
  refine ⟨c, q, by rw [e, e1], ?_, ?_⟩
  · have f := round_fits good_b64 (.fin false n (-20))
    rw [e1] at f
    have := f.2.1
    rw [qm] at this; exact this
  · unfold inUnits at e2
    rw [qm] at e2
    rw [show (-20 - (-1074) : Int).toNat = 1054 by decide] at e2
    rw [show q + (1074 : Nat) = q - -1074 by omega]
    exact e2
open Jvm.FP.Core in
theorem own_dadd {a b : Nat} (ha : a < 9007199254740992) (hb : b < 9007199254740992) : Jvm.FP.dadd (own_dy a) (own_dy b) = own_dy (a + b) := by
  obtain ⟨c, q, e1, q1, h1⟩ := own_dv ha
  obtain ⟨d, r, e2, q2, h2⟩ := own_dv hb
  show of64 (round b64 (exactSum (val64 (own_dy a)) (val64 (own_dy b)))) = of64 (round b64 (.fin false (a + b) (-20)))
  rw [e1, e2]
  have sv : sumUnits false c q false d r (min q r) = ((inUnits c q (min q r) + inUnits d r (min q r) : Nat) : Int) := by simp [sumUnits, signed]
  have ss : ∀ v : Nat, sumSign false false (v : Int) = false := fun v => by unfold sumSign; split <;> simp
  simp only [exactSum, sv, ss, Int.natAbs_natCast]
  congr 1
  show roundRatio b64 false _ 1 _ = roundRatio b64 false _ 1 _
  refine roundRatio_congr (by decide) (by decide) ?_
  generalize hm : min q r = k
  have k1 : -1074 ≤ k := by omega
  have key : (inUnits c q k + inUnits d r k) * 2 ^ (k + (1074 : Nat)).toNat = (a + b) * 2 ^ 1054 := by
    unfold inUnits
    rw [Nat.add_mul, Nat.mul_assoc, Nat.mul_assoc, ← Nat.pow_add, ← Nat.pow_add, Nat.add_mul, ← h1, ← h2]
    congr 3 <;> omega
  have w := own_cv (N := 1074) (M := 1054) key (by omega)
  rw [Nat.mul_one, Nat.mul_one]
  rw [show (k - -20).toNat = (k + (1074 : Nat) - (1054 : Nat)).toNat by omega, show (-20 - k).toNat = ((1054 : Nat) - (k + (1074 : Nat))).toNat by omega]
  exact w
open Jvm.FP.Core in
theorem own_dsub {a b : Nat} (ha : a < 9007199254740992) (hb : b ≤ a) : Jvm.FP.dsub (own_dy a) (own_dy b) = own_dy (a - b) := by
  obtain ⟨c, q, e1, q1, h1⟩ := own_dv ha
  obtain ⟨d, r, e2, q2, h2⟩ := own_dv (n := b) (by omega)
  show of64 (round b64 (exactSum (val64 (own_dy a)) (negate (val64 (own_dy b))))) = of64 (round b64 (.fin false (a - b) (-20)))
  rw [e1, e2]
  generalize hm : min q r = k
  have k1 : -1074 ≤ k := by omega
  have kc : inUnits c q k * 2 ^ (k + (1074 : Nat)).toNat = a * 2 ^ 1054 := by
    unfold inUnits; rw [Nat.mul_assoc, ← Nat.pow_add, ← h1]; congr 2; omega
  have kd : inUnits d r k * 2 ^ (k + (1074 : Nat)).toNat = b * 2 ^ 1054 := by
    unfold inUnits; rw [Nat.mul_assoc, ← Nat.pow_add, ← h2]; congr 2; omega
  have le : inUnits d r k ≤ inUnits c q k := by
    refine Nat.le_of_mul_le_mul_right ?_ (Nat.two_pow_pos (k + (1074 : Nat)).toNat)
    rw [kc, kd]; exact Nat.mul_le_mul_right _ hb
  have sv : sumUnits false c q (!false) d r k = ((inUnits c q k - inUnits d r k : Nat) : Int) := by simp [sumUnits, signed]; omega
  have ss : ∀ v : Nat, sumSign false (!false) (v : Int) = false := fun v => by unfold sumSign; split <;> simp
  simp only [negate, exactSum, hm, sv, ss, Int.natAbs_natCast]
  congr 1
  show roundRatio b64 false _ 1 _ = roundRatio b64 false _ 1 _
  refine roundRatio_congr (by decide) (by decide) ?_
  have key : (inUnits c q k - inUnits d r k) * 2 ^ (k + (1074 : Nat)).toNat = (a - b) * 2 ^ 1054 := by
    rw [Nat.sub_mul, kc, kd, Nat.sub_mul]
  have w := own_cv (N := 1074) (M := 1054) key (by omega)
  rw [Nat.mul_one, Nat.mul_one]
  rw [show (k - -20).toNat = (k + (1074 : Nat) - (1054 : Nat)).toNat by omega, show (-20 - k).toNat = ((1054 : Nat) - (k + (1074 : Nat))).toNat by omega]
  exact w
open Jvm.FP.Core in
theorem own_dmul {a b n : Nat} (ha : a < 9007199254740992) (hb : b < 9007199254740992) (h : a * b = n * 2 ^ 20) : Jvm.FP.dmul (own_dy a) (own_dy b) = own_dy n := by
  obtain ⟨c, q, e1, q1, h1⟩ := own_dv ha
  obtain ⟨d, r, e2, q2, h2⟩ := own_dv hb
  show of64 (round b64 (exactProduct (val64 (own_dy a)) (val64 (own_dy b)))) = of64 (round b64 (.fin false n (-20)))
  rw [e1, e2]
  simp only [exactProduct]
  congr 1
  show roundRatio b64 _ _ 1 _ = roundRatio b64 false _ 1 _
  refine roundRatio_congr (by decide) (by decide) ?_
  have key : (c * d) * 2 ^ ((q + r) + (2148 : Nat)).toNat = n * 2 ^ 2128 := by
    rw [show ((q + r) + (2148 : Nat)).toNat = (q + (1074 : Nat)).toNat + (r + (1074 : Nat)).toNat by omega, Nat.pow_add]
    calc c * d * (2 ^ (q + (1074 : Nat)).toNat * 2 ^ (r + (1074 : Nat)).toNat) = (c * 2 ^ (q + (1074 : Nat)).toNat) * (d * 2 ^ (r + (1074 : Nat)).toNat) := Nat.mul_mul_mul_comm ..
      _ = (a * 2 ^ 1054) * (b * 2 ^ 1054) := by rw [h1, h2]
      _ = (a * b) * (2 ^ 1054 * 2 ^ 1054) := Nat.mul_mul_mul_comm ..
      _ = n * (2 ^ 20 * (2 ^ 1054 * 2 ^ 1054)) := by rw [h, Nat.mul_assoc]
      _ = n * 2 ^ 2128 := by rw [← Nat.pow_add, ← Nat.pow_add]
  have w := own_cv (N := 2148) (M := 2128) key (by omega)
  rw [Nat.mul_one, Nat.mul_one]
  rw [show (q + r - -20).toNat = ((q + r) + (2148 : Nat) - (2128 : Nat)).toNat by omega, show (-20 - (q + r)).toNat = ((2128 : Nat) - ((q + r) + (2148 : Nat))).toNat by omega]
  exact w
open Jvm.FP.Core in
theorem own_ddiv {i : Int32} (h0 : 0 ≤ i.toInt) (h1 : i.toInt ≤ 1024) : Jvm.FP.ddiv (Jvm.FP.i2d i) 4652218415073722368 = own_dy (i.toInt.toNat * 1024) := by
  obtain ⟨n, hn⟩ := Int.eq_ofNat_of_zero_le h0
  have ei : Jvm.FP.i2d i = own_dy (n * 2 ^ 20) := by
    show of64 (round b64 (ofInt i.toInt)) = of64 (round b64 (.fin false (n * 2 ^ 20) (-20)))
    rw [hn]
    congr 1
    have s0 : decide ((n : Int) < 0) = false := by simp
    show roundRatio b64 (decide ((n : Int) < 0)) (n : Int).natAbs 1 0 = roundRatio b64 false (n * 2 ^ 20) 1 (-20)
    rw [s0, Int.natAbs_natCast]
    exact roundRatio_congr (by decide) (by decide) (by simp)
  obtain ⟨c, q, e1, q1, h2⟩ := own_dv (n := n * 2 ^ 20) (by omega)
  have e2 : val64 4652218415073722368 = .fin false (2 ^ 52) (-42) := by decide +kernel
  rw [ei, hn, Int.toNat_natCast]
  show of64 (quotient b64 (val64 (own_dy (n * 2 ^ 20))) (val64 4652218415073722368)) = of64 (round b64 (.fin false (n * 1024) (-20)))
  rw [e1, e2]
  simp only [quotient]
  rw [if_neg (by decide)]
  congr 1
  show roundRatio b64 _ c (2 ^ 52) (q - -42) = roundRatio b64 false (n * 1024) 1 (-20)
  refine roundRatio_congr (by decide) (by decide) ?_
  have key : c * 2 ^ (q + (1074 : Nat)).toNat = (n * 1024 * 2 ^ 52) * 2 ^ 1012 := by
    rw [h2, show (1024 : Nat) = 2 ^ 10 by decide, Nat.mul_assoc, Nat.mul_assoc, Nat.mul_assoc, ← Nat.pow_add, ← Nat.pow_add, ← Nat.pow_add]
  have w := own_cv (N := 1074) (M := 1012) key (by omega)
  rw [Nat.mul_one]
  rw [show (q - -42 - -20).toNat = (q + (1074 : Nat) - (1012 : Nat)).toNat by omega, show (-20 - (q - -42)).toNat = ((1012 : Nat) - (q + (1074 : Nat))).toNat by omega]
  exact w
theorem own_d0 : (0 : UInt64) = own_dy 0 := by decide +kernel
theorem own_d1 : (4607182418800017408 : UInt64) = own_dy 1048576 := by decide +kernel
open Jvm.FP.Core in
theorem own_dcmp {n : Nat} (h : n < 9007199254740992) (o : CmpOp) : cmpValue (Jvm.FP.dcmp (own_dy n) (own_dy n)) o = 0 := by
  obtain ⟨c, q, e1, -, -⟩ := own_dv h
  have hn : val64 (own_dy n) ≠ .nan := by rw [e1]; simp
  have e : Jvm.FP.dcmp (own_dy n) (own_dy n) = some .eq := by
    refine (dcmp_zval hn hn).trans ?_
    congr 1
    exact (compare_eq_iff _ _).mpr rfl
  rw [e]; cases o <;> rfl

theorem pd_0 : parseMethodDescriptor "()I" = some ⟨[], some .int⟩ := by decide +kernel
theorem pd_1 : parseMethodDescriptor "()V" = some ⟨[], none⟩ := by decide +kernel
theorem pd_2 : parseMethodDescriptor "()[D" = some ⟨[], some (.array .double)⟩ := by decide +kernel
theorem pd_3 : parseMethodDescriptor "(D)I" = some ⟨[.double], some .int⟩ := by decide +kernel
theorem pd_4 : parseMethodDescriptor "(I)I" = some ⟨[.int], some .int⟩ := by decide +kernel
theorem pd_5 : parseMethodDescriptor "(I)V" = some ⟨[.int], none⟩ := by decide +kernel
theorem pd_6 : parseMethodDescriptor "(II)I" = some ⟨[.int, .int], some .int⟩ := by decide +kernel
theorem pd_7 : parseMethodDescriptor "(II)Z" = some ⟨[.int, .int], some .boolean⟩ := by decide +kernel
theorem pd_8 : parseMethodDescriptor "(III)I" = some ⟨[.int, .int, .int], some .int⟩ := by decide +kernel
theorem pd_9 : parseMethodDescriptor "(III)V" = some ⟨[.int, .int, .int], none⟩ := by decide +kernel
theorem pd_10 : parseMethodDescriptor "(IIZ)I" = some ⟨[.int, .int, .boolean], some .int⟩ := by decide +kernel
theorem pd_11 : parseMethodDescriptor "([II)V" = some ⟨[(.array .int), .int], none⟩ := by decide +kernel
def own_ty (k : Nat) : FieldType := if k = 5 then .double else if k = 6 then .object "com/example/glacis/glacis/analysis/Bdd$Computed" else .int
def own_ln (k : Nat) : Int := if k < 5 then 1024 else if k = 5 then 16 else if k = 6 then 2 else if k < 12 then 64 else 1024
def own_up (f : Nat → Int → Value) (k : Nat) (i : Int) (v : Value) : Nat → Int → Value := fun j => if j = k then (fun q => if q = i then v else f k q) else f j
abbrev OF := Addr × String × String × String × Value
def own_FL (a q0 q1 : Addr) (d : Nat → Addr) : List OF := [(a, "com/example/glacis/glacis/analysis/Bdd", "level", "[I", .ref (d 0)), (a, "com/example/glacis/glacis/analysis/Bdd", "low", "[I", .ref (d 1)), (a, "com/example/glacis/glacis/analysis/Bdd", "high", "[I", .ref (d 2)), (a, "com/example/glacis/glacis/analysis/Bdd", "chain", "[I", .ref (d 3)), (a, "com/example/glacis/glacis/analysis/Bdd", "buckets", "[I", .ref (d 4)), (a, "com/example/glacis/glacis/analysis/Bdd", "probabilities", "[D", .ref (d 5)), (a, "com/example/glacis/glacis/analysis/Bdd", "computed", "[Lcom/example/glacis/glacis/analysis/Bdd$Computed;", .ref (d 6)), (a, "com/example/glacis/glacis/analysis/Bdd", "stackFirst", "[I", .ref (d 7)), (a, "com/example/glacis/glacis/analysis/Bdd", "stackSecond", "[I", .ref (d 8)), (a, "com/example/glacis/glacis/analysis/Bdd", "stackLevel", "[I", .ref (d 9)), (a, "com/example/glacis/glacis/analysis/Bdd", "stackLow", "[I", .ref (d 10)), (a, "com/example/glacis/glacis/analysis/Bdd", "stackPhase", "[I", .ref (d 11)), (q0, "com/example/glacis/glacis/analysis/Bdd$Computed", "first", "[I", .ref (d 12)), (q0, "com/example/glacis/glacis/analysis/Bdd$Computed", "second", "[I", .ref (d 13)), (q0, "com/example/glacis/glacis/analysis/Bdd$Computed", "result", "[I", .ref (d 14)), (q1, "com/example/glacis/glacis/analysis/Bdd$Computed", "first", "[I", .ref (d 15)), (q1, "com/example/glacis/glacis/analysis/Bdd$Computed", "second", "[I", .ref (d 16)), (q1, "com/example/glacis/glacis/analysis/Bdd$Computed", "result", "[I", .ref (d 17))]
def OwnB (Z : State) (h : Heap) (n0 : Nat) (a q0 q1 : Addr) (d : Nat → Addr) (sz vr : Int32) (f : Nat → Int → Value) : Prop :=
  (∀ k, k < 18 → Ar Z h (d k) (own_ty k) (own_ln k) (f k)) ∧ (∀ k, k < 18 → n0 ≤ d k) ∧ (∀ i j, i < 18 → j < 18 → i ≠ j → d i ≠ d j) ∧ n0 ≤ a ∧ Exa Z h a "com/example/glacis/glacis/analysis/Bdd" ∧ Exa Z h q0 "com/example/glacis/glacis/analysis/Bdd$Computed" ∧ Exa Z h q1 "com/example/glacis/glacis/analysis/Bdd$Computed" ∧
  (∀ x ∈ own_FL a q0 q1 d, Fld Z h x.1 x.2.1 x.2.2.1 x.2.2.2.1 x.2.2.2.2) ∧ Fld Z h a "com/example/glacis/glacis/analysis/Bdd" "size" "I" (.int sz) ∧ Fld Z h a "com/example/glacis/glacis/analysis/Bdd" "variables" "I" (.int vr)
theorem OwnB.f0 {Z : State} {h : Heap} {n0 : Nat} {a q0 q1 : Addr} {d : Nat → Addr} {sz vr : Int32} {f : Nat → Int → Value} (B : OwnB Z h n0 a q0 q1 d sz vr f) : Fld Z h a "com/example/glacis/glacis/analysis/Bdd" "level" "[I" (.ref (d 0)) := B.2.2.2.2.2.2.2.1 (a, "com/example/glacis/glacis/analysis/Bdd", "level", "[I", .ref (d 0)) (List.mem_of_getElem? (i := 0) rfl)
theorem OwnB.a0 {Z : State} {h : Heap} {n0 : Nat} {a q0 q1 : Addr} {d : Nat → Addr} {sz vr : Int32} {f : Nat → Int → Value} (B : OwnB Z h n0 a q0 q1 d sz vr f) : Ar Z h (d 0) .int 1024 (f 0) := B.1 0 (by decide)
theorem OwnB.f1 {Z : State} {h : Heap} {n0 : Nat} {a q0 q1 : Addr} {d : Nat → Addr} {sz vr : Int32} {f : Nat → Int → Value} (B : OwnB Z h n0 a q0 q1 d sz vr f) : Fld Z h a "com/example/glacis/glacis/analysis/Bdd" "low" "[I" (.ref (d 1)) := B.2.2.2.2.2.2.2.1 (a, "com/example/glacis/glacis/analysis/Bdd", "low", "[I", .ref (d 1)) (List.mem_of_getElem? (i := 1) rfl)
theorem OwnB.a1 {Z : State} {h : Heap} {n0 : Nat} {a q0 q1 : Addr} {d : Nat → Addr} {sz vr : Int32} {f : Nat → Int → Value} (B : OwnB Z h n0 a q0 q1 d sz vr f) : Ar Z h (d 1) .int 1024 (f 1) := B.1 1 (by decide)
theorem OwnB.f2 {Z : State} {h : Heap} {n0 : Nat} {a q0 q1 : Addr} {d : Nat → Addr} {sz vr : Int32} {f : Nat → Int → Value} (B : OwnB Z h n0 a q0 q1 d sz vr f) : Fld Z h a "com/example/glacis/glacis/analysis/Bdd" "high" "[I" (.ref (d 2)) := B.2.2.2.2.2.2.2.1 (a, "com/example/glacis/glacis/analysis/Bdd", "high", "[I", .ref (d 2)) (List.mem_of_getElem? (i := 2) rfl)
theorem OwnB.a2 {Z : State} {h : Heap} {n0 : Nat} {a q0 q1 : Addr} {d : Nat → Addr} {sz vr : Int32} {f : Nat → Int → Value} (B : OwnB Z h n0 a q0 q1 d sz vr f) : Ar Z h (d 2) .int 1024 (f 2) := B.1 2 (by decide)
theorem OwnB.f3 {Z : State} {h : Heap} {n0 : Nat} {a q0 q1 : Addr} {d : Nat → Addr} {sz vr : Int32} {f : Nat → Int → Value} (B : OwnB Z h n0 a q0 q1 d sz vr f) : Fld Z h a "com/example/glacis/glacis/analysis/Bdd" "chain" "[I" (.ref (d 3)) := B.2.2.2.2.2.2.2.1 (a, "com/example/glacis/glacis/analysis/Bdd", "chain", "[I", .ref (d 3)) (List.mem_of_getElem? (i := 3) rfl)
theorem OwnB.a3 {Z : State} {h : Heap} {n0 : Nat} {a q0 q1 : Addr} {d : Nat → Addr} {sz vr : Int32} {f : Nat → Int → Value} (B : OwnB Z h n0 a q0 q1 d sz vr f) : Ar Z h (d 3) .int 1024 (f 3) := B.1 3 (by decide)
theorem OwnB.f4 {Z : State} {h : Heap} {n0 : Nat} {a q0 q1 : Addr} {d : Nat → Addr} {sz vr : Int32} {f : Nat → Int → Value} (B : OwnB Z h n0 a q0 q1 d sz vr f) : Fld Z h a "com/example/glacis/glacis/analysis/Bdd" "buckets" "[I" (.ref (d 4)) := B.2.2.2.2.2.2.2.1 (a, "com/example/glacis/glacis/analysis/Bdd", "buckets", "[I", .ref (d 4)) (List.mem_of_getElem? (i := 4) rfl)
theorem OwnB.a4 {Z : State} {h : Heap} {n0 : Nat} {a q0 q1 : Addr} {d : Nat → Addr} {sz vr : Int32} {f : Nat → Int → Value} (B : OwnB Z h n0 a q0 q1 d sz vr f) : Ar Z h (d 4) .int 1024 (f 4) := B.1 4 (by decide)
theorem OwnB.f5 {Z : State} {h : Heap} {n0 : Nat} {a q0 q1 : Addr} {d : Nat → Addr} {sz vr : Int32} {f : Nat → Int → Value} (B : OwnB Z h n0 a q0 q1 d sz vr f) : Fld Z h a "com/example/glacis/glacis/analysis/Bdd" "probabilities" "[D" (.ref (d 5)) := B.2.2.2.2.2.2.2.1 (a, "com/example/glacis/glacis/analysis/Bdd", "probabilities", "[D", .ref (d 5)) (List.mem_of_getElem? (i := 5) rfl)
theorem OwnB.a5 {Z : State} {h : Heap} {n0 : Nat} {a q0 q1 : Addr} {d : Nat → Addr} {sz vr : Int32} {f : Nat → Int → Value} (B : OwnB Z h n0 a q0 q1 d sz vr f) : Ar Z h (d 5) .double 16 (f 5) := B.1 5 (by decide)
theorem OwnB.f6 {Z : State} {h : Heap} {n0 : Nat} {a q0 q1 : Addr} {d : Nat → Addr} {sz vr : Int32} {f : Nat → Int → Value} (B : OwnB Z h n0 a q0 q1 d sz vr f) : Fld Z h a "com/example/glacis/glacis/analysis/Bdd" "computed" "[Lcom/example/glacis/glacis/analysis/Bdd$Computed;" (.ref (d 6)) := B.2.2.2.2.2.2.2.1 (a, "com/example/glacis/glacis/analysis/Bdd", "computed", "[Lcom/example/glacis/glacis/analysis/Bdd$Computed;", .ref (d 6)) (List.mem_of_getElem? (i := 6) rfl)
theorem OwnB.a6 {Z : State} {h : Heap} {n0 : Nat} {a q0 q1 : Addr} {d : Nat → Addr} {sz vr : Int32} {f : Nat → Int → Value} (B : OwnB Z h n0 a q0 q1 d sz vr f) : Ar Z h (d 6) (.object "com/example/glacis/glacis/analysis/Bdd$Computed") 2 (f 6) := B.1 6 (by decide)
theorem OwnB.f7 {Z : State} {h : Heap} {n0 : Nat} {a q0 q1 : Addr} {d : Nat → Addr} {sz vr : Int32} {f : Nat → Int → Value} (B : OwnB Z h n0 a q0 q1 d sz vr f) : Fld Z h a "com/example/glacis/glacis/analysis/Bdd" "stackFirst" "[I" (.ref (d 7)) := B.2.2.2.2.2.2.2.1 (a, "com/example/glacis/glacis/analysis/Bdd", "stackFirst", "[I", .ref (d 7)) (List.mem_of_getElem? (i := 7) rfl)
theorem OwnB.a7 {Z : State} {h : Heap} {n0 : Nat} {a q0 q1 : Addr} {d : Nat → Addr} {sz vr : Int32} {f : Nat → Int → Value} (B : OwnB Z h n0 a q0 q1 d sz vr f) : Ar Z h (d 7) .int 64 (f 7) := B.1 7 (by decide)
theorem OwnB.f8 {Z : State} {h : Heap} {n0 : Nat} {a q0 q1 : Addr} {d : Nat → Addr} {sz vr : Int32} {f : Nat → Int → Value} (B : OwnB Z h n0 a q0 q1 d sz vr f) : Fld Z h a "com/example/glacis/glacis/analysis/Bdd" "stackSecond" "[I" (.ref (d 8)) := B.2.2.2.2.2.2.2.1 (a, "com/example/glacis/glacis/analysis/Bdd", "stackSecond", "[I", .ref (d 8)) (List.mem_of_getElem? (i := 8) rfl)
theorem OwnB.a8 {Z : State} {h : Heap} {n0 : Nat} {a q0 q1 : Addr} {d : Nat → Addr} {sz vr : Int32} {f : Nat → Int → Value} (B : OwnB Z h n0 a q0 q1 d sz vr f) : Ar Z h (d 8) .int 64 (f 8) := B.1 8 (by decide)
theorem OwnB.f9 {Z : State} {h : Heap} {n0 : Nat} {a q0 q1 : Addr} {d : Nat → Addr} {sz vr : Int32} {f : Nat → Int → Value} (B : OwnB Z h n0 a q0 q1 d sz vr f) : Fld Z h a "com/example/glacis/glacis/analysis/Bdd" "stackLevel" "[I" (.ref (d 9)) := B.2.2.2.2.2.2.2.1 (a, "com/example/glacis/glacis/analysis/Bdd", "stackLevel", "[I", .ref (d 9)) (List.mem_of_getElem? (i := 9) rfl)
theorem OwnB.a9 {Z : State} {h : Heap} {n0 : Nat} {a q0 q1 : Addr} {d : Nat → Addr} {sz vr : Int32} {f : Nat → Int → Value} (B : OwnB Z h n0 a q0 q1 d sz vr f) : Ar Z h (d 9) .int 64 (f 9) := B.1 9 (by decide)
theorem OwnB.f10 {Z : State} {h : Heap} {n0 : Nat} {a q0 q1 : Addr} {d : Nat → Addr} {sz vr : Int32} {f : Nat → Int → Value} (B : OwnB Z h n0 a q0 q1 d sz vr f) : Fld Z h a "com/example/glacis/glacis/analysis/Bdd" "stackLow" "[I" (.ref (d 10)) := B.2.2.2.2.2.2.2.1 (a, "com/example/glacis/glacis/analysis/Bdd", "stackLow", "[I", .ref (d 10)) (List.mem_of_getElem? (i := 10) rfl)
theorem OwnB.a10 {Z : State} {h : Heap} {n0 : Nat} {a q0 q1 : Addr} {d : Nat → Addr} {sz vr : Int32} {f : Nat → Int → Value} (B : OwnB Z h n0 a q0 q1 d sz vr f) : Ar Z h (d 10) .int 64 (f 10) := B.1 10 (by decide)
theorem OwnB.f11 {Z : State} {h : Heap} {n0 : Nat} {a q0 q1 : Addr} {d : Nat → Addr} {sz vr : Int32} {f : Nat → Int → Value} (B : OwnB Z h n0 a q0 q1 d sz vr f) : Fld Z h a "com/example/glacis/glacis/analysis/Bdd" "stackPhase" "[I" (.ref (d 11)) := B.2.2.2.2.2.2.2.1 (a, "com/example/glacis/glacis/analysis/Bdd", "stackPhase", "[I", .ref (d 11)) (List.mem_of_getElem? (i := 11) rfl)
theorem OwnB.a11 {Z : State} {h : Heap} {n0 : Nat} {a q0 q1 : Addr} {d : Nat → Addr} {sz vr : Int32} {f : Nat → Int → Value} (B : OwnB Z h n0 a q0 q1 d sz vr f) : Ar Z h (d 11) .int 64 (f 11) := B.1 11 (by decide)
theorem OwnB.f12 {Z : State} {h : Heap} {n0 : Nat} {a q0 q1 : Addr} {d : Nat → Addr} {sz vr : Int32} {f : Nat → Int → Value} (B : OwnB Z h n0 a q0 q1 d sz vr f) : Fld Z h q0 "com/example/glacis/glacis/analysis/Bdd$Computed" "first" "[I" (.ref (d 12)) := B.2.2.2.2.2.2.2.1 (q0, "com/example/glacis/glacis/analysis/Bdd$Computed", "first", "[I", .ref (d 12)) (List.mem_of_getElem? (i := 12) rfl)
theorem OwnB.a12 {Z : State} {h : Heap} {n0 : Nat} {a q0 q1 : Addr} {d : Nat → Addr} {sz vr : Int32} {f : Nat → Int → Value} (B : OwnB Z h n0 a q0 q1 d sz vr f) : Ar Z h (d 12) .int 1024 (f 12) := B.1 12 (by decide)
theorem OwnB.f13 {Z : State} {h : Heap} {n0 : Nat} {a q0 q1 : Addr} {d : Nat → Addr} {sz vr : Int32} {f : Nat → Int → Value} (B : OwnB Z h n0 a q0 q1 d sz vr f) : Fld Z h q0 "com/example/glacis/glacis/analysis/Bdd$Computed" "second" "[I" (.ref (d 13)) := B.2.2.2.2.2.2.2.1 (q0, "com/example/glacis/glacis/analysis/Bdd$Computed", "second", "[I", .ref (d 13)) (List.mem_of_getElem? (i := 13) rfl)
theorem OwnB.a13 {Z : State} {h : Heap} {n0 : Nat} {a q0 q1 : Addr} {d : Nat → Addr} {sz vr : Int32} {f : Nat → Int → Value} (B : OwnB Z h n0 a q0 q1 d sz vr f) : Ar Z h (d 13) .int 1024 (f 13) := B.1 13 (by decide)
theorem OwnB.f14 {Z : State} {h : Heap} {n0 : Nat} {a q0 q1 : Addr} {d : Nat → Addr} {sz vr : Int32} {f : Nat → Int → Value} (B : OwnB Z h n0 a q0 q1 d sz vr f) : Fld Z h q0 "com/example/glacis/glacis/analysis/Bdd$Computed" "result" "[I" (.ref (d 14)) := B.2.2.2.2.2.2.2.1 (q0, "com/example/glacis/glacis/analysis/Bdd$Computed", "result", "[I", .ref (d 14)) (List.mem_of_getElem? (i := 14) rfl)
theorem OwnB.a14 {Z : State} {h : Heap} {n0 : Nat} {a q0 q1 : Addr} {d : Nat → Addr} {sz vr : Int32} {f : Nat → Int → Value} (B : OwnB Z h n0 a q0 q1 d sz vr f) : Ar Z h (d 14) .int 1024 (f 14) := B.1 14 (by decide)
theorem OwnB.f15 {Z : State} {h : Heap} {n0 : Nat} {a q0 q1 : Addr} {d : Nat → Addr} {sz vr : Int32} {f : Nat → Int → Value} (B : OwnB Z h n0 a q0 q1 d sz vr f) : Fld Z h q1 "com/example/glacis/glacis/analysis/Bdd$Computed" "first" "[I" (.ref (d 15)) := B.2.2.2.2.2.2.2.1 (q1, "com/example/glacis/glacis/analysis/Bdd$Computed", "first", "[I", .ref (d 15)) (List.mem_of_getElem? (i := 15) rfl)
theorem OwnB.a15 {Z : State} {h : Heap} {n0 : Nat} {a q0 q1 : Addr} {d : Nat → Addr} {sz vr : Int32} {f : Nat → Int → Value} (B : OwnB Z h n0 a q0 q1 d sz vr f) : Ar Z h (d 15) .int 1024 (f 15) := B.1 15 (by decide)
theorem OwnB.f16 {Z : State} {h : Heap} {n0 : Nat} {a q0 q1 : Addr} {d : Nat → Addr} {sz vr : Int32} {f : Nat → Int → Value} (B : OwnB Z h n0 a q0 q1 d sz vr f) : Fld Z h q1 "com/example/glacis/glacis/analysis/Bdd$Computed" "second" "[I" (.ref (d 16)) := B.2.2.2.2.2.2.2.1 (q1, "com/example/glacis/glacis/analysis/Bdd$Computed", "second", "[I", .ref (d 16)) (List.mem_of_getElem? (i := 16) rfl)
theorem OwnB.a16 {Z : State} {h : Heap} {n0 : Nat} {a q0 q1 : Addr} {d : Nat → Addr} {sz vr : Int32} {f : Nat → Int → Value} (B : OwnB Z h n0 a q0 q1 d sz vr f) : Ar Z h (d 16) .int 1024 (f 16) := B.1 16 (by decide)
theorem OwnB.f17 {Z : State} {h : Heap} {n0 : Nat} {a q0 q1 : Addr} {d : Nat → Addr} {sz vr : Int32} {f : Nat → Int → Value} (B : OwnB Z h n0 a q0 q1 d sz vr f) : Fld Z h q1 "com/example/glacis/glacis/analysis/Bdd$Computed" "result" "[I" (.ref (d 17)) := B.2.2.2.2.2.2.2.1 (q1, "com/example/glacis/glacis/analysis/Bdd$Computed", "result", "[I", .ref (d 17)) (List.mem_of_getElem? (i := 17) rfl)
theorem OwnB.a17 {Z : State} {h : Heap} {n0 : Nat} {a q0 q1 : Addr} {d : Nat → Addr} {sz vr : Int32} {f : Nat → Int → Value} (B : OwnB Z h n0 a q0 q1 d sz vr f) : Ar Z h (d 17) .int 1024 (f 17) := B.1 17 (by decide)
theorem OwnB.own {Z : State} {h : Heap} {n0 : Nat} {a q0 q1 : Addr} {d : Nat → Addr} {sz vr : Int32} {f : Nat → Int → Value} (B : OwnB Z h n0 a q0 q1 d sz vr f) {a0 : Array Value} (hw : ∀ d ∈ tables_1, d.before a0 Z = true) {x : OF} (hx : x ∈ own_FL a q0 q1 d) : x.1 = a ∨ x.1 = q0 ∨ x.1 = q1 := by
  simp only [own_FL, List.mem_cons, List.not_mem_nil, or_false] at hx
  rcases hx with rfl | rfl | rfl | rfl | rfl | rfl | rfl | rfl | rfl | rfl | rfl | rfl | rfl | rfl | rfl | rfl | rfl | rfl <;> simp
theorem OwnB.na {Z : State} {h : Heap} {n0 : Nat} {a q0 q1 : Addr} {d : Nat → Addr} {sz vr : Int32} {f : Nat → Int → Value} (B : OwnB Z h n0 a q0 q1 d sz vr f) {a0 : Array Value} (hw : ∀ d ∈ tables_1, d.before a0 Z = true) {k : Nat} (hk : k < 18) : a ≠ d k ∧ q0 ≠ d k ∧ q1 ≠ d k := ⟨Ar.neExa B.2.2.2.2.1 (hw _ (List.mem_of_getElem? (i := 3) rfl)) (B.1 k hk), Ar.neExa B.2.2.2.2.2.1 (hw _ (List.mem_of_getElem? (i := 29) rfl)) (B.1 k hk), Ar.neExa B.2.2.2.2.2.2.1 (hw _ (List.mem_of_getElem? (i := 29) rfl)) (B.1 k hk)⟩
theorem OwnB.st {Z : State} {h h' : Heap} {n0 : Nat} {a q0 q1 : Addr} {d : Nat → Addr} {sz vr : Int32} {f : Nat → Int → Value} (B : OwnB Z h n0 a q0 q1 d sz vr f) {a0 : Array Value} (hw : ∀ d ∈ tables_1, d.before a0 Z = true) {k sl : Nat} {v : Value} {g : Int → Value} (hk : k < 18) (W : Wr h h' (d k) sl v) (A : Ar Z h' (d k) (own_ty k) (own_ln k) g) : OwnB Z h' n0 a q0 q1 d sz vr (fun j => if j = k then g else f j) := by
  obtain ⟨n1, n2, n3⟩ := B.na hw hk
  refine ⟨fun j hj => ?_, B.2.1, B.2.2.1, B.2.2.2.1, Exa.wr W B.2.2.2.2.1, Exa.wr W B.2.2.2.2.2.1, Exa.wr W B.2.2.2.2.2.2.1, fun x hx => ?_, Fld.other W B.2.2.2.2.2.2.2.2.1 (Or.inl n1), Fld.other W B.2.2.2.2.2.2.2.2.2 (Or.inl n1)⟩
  · by_cases e : j = k
    · subst e; simpa using A
    · simp only [if_neg e]; exact (B.1 j hj).other W (B.2.2.1 j k hj hk e)
  · refine Fld.other W (B.2.2.2.2.2.2.2.1 x hx) (Or.inl ?_)
    rcases B.own hw hx with e | e | e <;> rw [e] <;> assumption
theorem OwnB.set_size {Z : State} {h h' : Heap} {n0 : Nat} {a q0 q1 : Addr} {d : Nat → Addr} {sz vr : Int32} {f : Nat → Int → Value} (B : OwnB Z h n0 a q0 q1 d sz vr f) {a0 : Array Value} (hw : ∀ d ∈ tables_1, d.before a0 Z = true) {x : Int32} (W : Wr h h' a (Jvm.RoadKit.slotOf Z "com/example/glacis/glacis/analysis/Bdd" "size" "I") (.int x)) : OwnB Z h' n0 a q0 q1 d x vr f := by
  have n0_ : q0 ≠ a := Exa.ne B.2.2.2.2.2.1 B.2.2.2.2.1 (by decide)
  have n1_ : q1 ≠ a := Exa.ne B.2.2.2.2.2.2.1 B.2.2.2.2.1 (by decide)
  refine ⟨fun j hj => (B.1 j hj).other W (Ne.symm (B.na hw hj).1), B.2.1, B.2.2.1, B.2.2.2.1, Exa.wr W B.2.2.2.2.1, Exa.wr W B.2.2.2.2.2.1, Exa.wr W B.2.2.2.2.2.2.1, ?_, Fld.same W B.2.2.2.2.2.2.2.2.1, Fld.other W B.2.2.2.2.2.2.2.2.2 (Or.inr (slot_ne (t := .int) (t' := .int) (Or.inl (hw _ (List.mem_of_getElem? (i := 80) rfl))) (Or.inl (hw _ (List.mem_of_getElem? (i := 23) rfl))) (by decide) (by decide) (by decide)))⟩
  intro x hx
  simp only [own_FL, List.mem_cons, List.not_mem_nil, or_false] at hx
  rcases hx with rfl | rfl | rfl | rfl | rfl | rfl | rfl | rfl | rfl | rfl | rfl | rfl | rfl | rfl | rfl | rfl | rfl | rfl
  · dsimp only; exact Fld.other W B.f0 (Or.inr (slot_ne (t := (.array .int)) (t' := .int) (Or.inl (hw _ (List.mem_of_getElem? (i := 13) rfl))) (Or.inl (hw _ (List.mem_of_getElem? (i := 23) rfl))) (by decide) (by decide) (by decide)))
  · dsimp only; exact Fld.other W B.f1 (Or.inr (slot_ne (t := (.array .int)) (t' := .int) (Or.inl (hw _ (List.mem_of_getElem? (i := 15) rfl))) (Or.inl (hw _ (List.mem_of_getElem? (i := 23) rfl))) (by decide) (by decide) (by decide)))
  · dsimp only; exact Fld.other W B.f2 (Or.inr (slot_ne (t := (.array .int)) (t' := .int) (Or.inl (hw _ (List.mem_of_getElem? (i := 17) rfl))) (Or.inl (hw _ (List.mem_of_getElem? (i := 23) rfl))) (by decide) (by decide) (by decide)))
  · dsimp only; exact Fld.other W B.f3 (Or.inr (slot_ne (t := (.array .int)) (t' := .int) (Or.inl (hw _ (List.mem_of_getElem? (i := 19) rfl))) (Or.inl (hw _ (List.mem_of_getElem? (i := 23) rfl))) (by decide) (by decide) (by decide)))
  · dsimp only; exact Fld.other W B.f4 (Or.inr (slot_ne (t := (.array .int)) (t' := .int) (Or.inl (hw _ (List.mem_of_getElem? (i := 21) rfl))) (Or.inl (hw _ (List.mem_of_getElem? (i := 23) rfl))) (by decide) (by decide) (by decide)))
  · dsimp only; exact Fld.other W B.f5 (Or.inr (slot_ne (t := (.array .double)) (t' := .int) (Or.inl (hw _ (List.mem_of_getElem? (i := 26) rfl))) (Or.inl (hw _ (List.mem_of_getElem? (i := 23) rfl))) (by decide) (by decide) (by decide)))
  · dsimp only; exact Fld.other W B.f6 (Or.inr (slot_ne (t := (.array (.object "com/example/glacis/glacis/analysis/Bdd$Computed"))) (t' := .int) (Or.inr (hw _ (List.mem_of_getElem? (i := 43) rfl))) (Or.inl (hw _ (List.mem_of_getElem? (i := 23) rfl))) (by decide) (by decide) (by decide)))
  · dsimp only; exact Fld.other W B.f7 (Or.inr (slot_ne (t := (.array .int)) (t' := .int) (Or.inl (hw _ (List.mem_of_getElem? (i := 45) rfl))) (Or.inl (hw _ (List.mem_of_getElem? (i := 23) rfl))) (by decide) (by decide) (by decide)))
  · dsimp only; exact Fld.other W B.f8 (Or.inr (slot_ne (t := (.array .int)) (t' := .int) (Or.inl (hw _ (List.mem_of_getElem? (i := 47) rfl))) (Or.inl (hw _ (List.mem_of_getElem? (i := 23) rfl))) (by decide) (by decide) (by decide)))
  · dsimp only; exact Fld.other W B.f9 (Or.inr (slot_ne (t := (.array .int)) (t' := .int) (Or.inl (hw _ (List.mem_of_getElem? (i := 49) rfl))) (Or.inl (hw _ (List.mem_of_getElem? (i := 23) rfl))) (by decide) (by decide) (by decide)))
  · dsimp only; exact Fld.other W B.f10 (Or.inr (slot_ne (t := (.array .int)) (t' := .int) (Or.inl (hw _ (List.mem_of_getElem? (i := 51) rfl))) (Or.inl (hw _ (List.mem_of_getElem? (i := 23) rfl))) (by decide) (by decide) (by decide)))
  · dsimp only; exact Fld.other W B.f11 (Or.inr (slot_ne (t := (.array .int)) (t' := .int) (Or.inl (hw _ (List.mem_of_getElem? (i := 53) rfl))) (Or.inl (hw _ (List.mem_of_getElem? (i := 23) rfl))) (by decide) (by decide) (by decide)))
  · dsimp only; exact Fld.other W B.f12 (Or.inl n0_)
  · dsimp only; exact Fld.other W B.f13 (Or.inl n0_)
  · dsimp only; exact Fld.other W B.f14 (Or.inl n0_)
  · dsimp only; exact Fld.other W B.f15 (Or.inl n1_)
  · dsimp only; exact Fld.other W B.f16 (Or.inl n1_)
  · dsimp only; exact Fld.other W B.f17 (Or.inl n1_)
theorem OwnB.set_variables {Z : State} {h h' : Heap} {n0 : Nat} {a q0 q1 : Addr} {d : Nat → Addr} {sz vr : Int32} {f : Nat → Int → Value} (B : OwnB Z h n0 a q0 q1 d sz vr f) {a0 : Array Value} (hw : ∀ d ∈ tables_1, d.before a0 Z = true) {x : Int32} (W : Wr h h' a (Jvm.RoadKit.slotOf Z "com/example/glacis/glacis/analysis/Bdd" "variables" "I") (.int x)) : OwnB Z h' n0 a q0 q1 d sz x f := by
  have n0_ : q0 ≠ a := Exa.ne B.2.2.2.2.2.1 B.2.2.2.2.1 (by decide)
  have n1_ : q1 ≠ a := Exa.ne B.2.2.2.2.2.2.1 B.2.2.2.2.1 (by decide)
  refine ⟨fun j hj => (B.1 j hj).other W (Ne.symm (B.na hw hj).1), B.2.1, B.2.2.1, B.2.2.2.1, Exa.wr W B.2.2.2.2.1, Exa.wr W B.2.2.2.2.2.1, Exa.wr W B.2.2.2.2.2.2.1, ?_, Fld.other W B.2.2.2.2.2.2.2.2.1 (Or.inr (slot_ne (t := .int) (t' := .int) (Or.inl (hw _ (List.mem_of_getElem? (i := 23) rfl))) (Or.inl (hw _ (List.mem_of_getElem? (i := 80) rfl))) (by decide) (by decide) (by decide))), Fld.same W B.2.2.2.2.2.2.2.2.2⟩
  intro x hx
  simp only [own_FL, List.mem_cons, List.not_mem_nil, or_false] at hx
  rcases hx with rfl | rfl | rfl | rfl | rfl | rfl | rfl | rfl | rfl | rfl | rfl | rfl | rfl | rfl | rfl | rfl | rfl | rfl
  · dsimp only; exact Fld.other W B.f0 (Or.inr (slot_ne (t := (.array .int)) (t' := .int) (Or.inl (hw _ (List.mem_of_getElem? (i := 13) rfl))) (Or.inl (hw _ (List.mem_of_getElem? (i := 80) rfl))) (by decide) (by decide) (by decide)))
  · dsimp only; exact Fld.other W B.f1 (Or.inr (slot_ne (t := (.array .int)) (t' := .int) (Or.inl (hw _ (List.mem_of_getElem? (i := 15) rfl))) (Or.inl (hw _ (List.mem_of_getElem? (i := 80) rfl))) (by decide) (by decide) (by decide)))
  · dsimp only; exact Fld.other W B.f2 (Or.inr (slot_ne (t := (.array .int)) (t' := .int) (Or.inl (hw _ (List.mem_of_getElem? (i := 17) rfl))) (Or.inl (hw _ (List.mem_of_getElem? (i := 80) rfl))) (by decide) (by decide) (by decide)))
  · dsimp only; exact Fld.other W B.f3 (Or.inr (slot_ne (t := (.array .int)) (t' := .int) (Or.inl (hw _ (List.mem_of_getElem? (i := 19) rfl))) (Or.inl (hw _ (List.mem_of_getElem? (i := 80) rfl))) (by decide) (by decide) (by decide)))
  · dsimp only; exact Fld.other W B.f4 (Or.inr (slot_ne (t := (.array .int)) (t' := .int) (Or.inl (hw _ (List.mem_of_getElem? (i := 21) rfl))) (Or.inl (hw _ (List.mem_of_getElem? (i := 80) rfl))) (by decide) (by decide) (by decide)))
  · dsimp only; exact Fld.other W B.f5 (Or.inr (slot_ne (t := (.array .double)) (t' := .int) (Or.inl (hw _ (List.mem_of_getElem? (i := 26) rfl))) (Or.inl (hw _ (List.mem_of_getElem? (i := 80) rfl))) (by decide) (by decide) (by decide)))
  · dsimp only; exact Fld.other W B.f6 (Or.inr (slot_ne (t := (.array (.object "com/example/glacis/glacis/analysis/Bdd$Computed"))) (t' := .int) (Or.inr (hw _ (List.mem_of_getElem? (i := 43) rfl))) (Or.inl (hw _ (List.mem_of_getElem? (i := 80) rfl))) (by decide) (by decide) (by decide)))
  · dsimp only; exact Fld.other W B.f7 (Or.inr (slot_ne (t := (.array .int)) (t' := .int) (Or.inl (hw _ (List.mem_of_getElem? (i := 45) rfl))) (Or.inl (hw _ (List.mem_of_getElem? (i := 80) rfl))) (by decide) (by decide) (by decide)))
  · dsimp only; exact Fld.other W B.f8 (Or.inr (slot_ne (t := (.array .int)) (t' := .int) (Or.inl (hw _ (List.mem_of_getElem? (i := 47) rfl))) (Or.inl (hw _ (List.mem_of_getElem? (i := 80) rfl))) (by decide) (by decide) (by decide)))
  · dsimp only; exact Fld.other W B.f9 (Or.inr (slot_ne (t := (.array .int)) (t' := .int) (Or.inl (hw _ (List.mem_of_getElem? (i := 49) rfl))) (Or.inl (hw _ (List.mem_of_getElem? (i := 80) rfl))) (by decide) (by decide) (by decide)))
  · dsimp only; exact Fld.other W B.f10 (Or.inr (slot_ne (t := (.array .int)) (t' := .int) (Or.inl (hw _ (List.mem_of_getElem? (i := 51) rfl))) (Or.inl (hw _ (List.mem_of_getElem? (i := 80) rfl))) (by decide) (by decide) (by decide)))
  · dsimp only; exact Fld.other W B.f11 (Or.inr (slot_ne (t := (.array .int)) (t' := .int) (Or.inl (hw _ (List.mem_of_getElem? (i := 53) rfl))) (Or.inl (hw _ (List.mem_of_getElem? (i := 80) rfl))) (by decide) (by decide) (by decide)))
  · dsimp only; exact Fld.other W B.f12 (Or.inl n0_)
  · dsimp only; exact Fld.other W B.f13 (Or.inl n0_)
  · dsimp only; exact Fld.other W B.f14 (Or.inl n0_)
  · dsimp only; exact Fld.other W B.f15 (Or.inl n1_)
  · dsimp only; exact Fld.other W B.f16 (Or.inl n1_)
  · dsimp only; exact Fld.other W B.f17 (Or.inl n1_)
theorem d7_0 : decode prog_2_method_2_code 0 = .ok (.aload_n 0, 1) := by decide +kernel
theorem d7_1 : decode prog_2_method_2_code 1 = .ok (.getfield 74, 3) := by decide +kernel
theorem d7_4 : decode prog_2_method_2_code 4 = .ok (.aload_n 0, 1) := by decide +kernel
theorem d7_5 : decode prog_2_method_2_code 5 = .ok (.getfield 31, 3) := by decide +kernel
theorem d7_8 : decode prog_2_method_2_code 8 = .ok (.arraylength, 1) := by decide +kernel
theorem d7_9 : decode prog_2_method_2_code 9 = .ok (.if_icmp .ne 20, 3) := by decide +kernel
theorem d7_12 : decode prog_2_method_2_code 12 = .ok (.aload_n 0, 1) := by decide +kernel
theorem d7_13 : decode prog_2_method_2_code 13 = .ok (.aload_n 0, 1) := by decide +kernel
theorem d7_14 : decode prog_2_method_2_code 14 = .ok (.getfield 31, 3) := by decide +kernel
theorem d7_17 : decode prog_2_method_2_code 17 = .ok (.aload_n 0, 1) := by decide +kernel
theorem d7_18 : decode prog_2_method_2_code 18 = .ok (.getfield 74, 3) := by decide +kernel
theorem d7_21 : decode prog_2_method_2_code 21 = .ok (.iconst 2, 1) := by decide +kernel
theorem d7_22 : decode prog_2_method_2_code 22 = .ok (.imul, 1) := by decide +kernel
theorem d7_23 : decode prog_2_method_2_code 23 = .ok (.invokestatic 77, 3) := by decide +kernel
theorem d7_26 : decode prog_2_method_2_code 26 = .ok (.putfield 31, 3) := by decide +kernel
theorem d7_29 : decode prog_2_method_2_code 29 = .ok (.aload_n 0, 1) := by decide +kernel
theorem d7_30 : decode prog_2_method_2_code 30 = .ok (.getfield 31, 3) := by decide +kernel
theorem d7_33 : decode prog_2_method_2_code 33 = .ok (.aload_n 0, 1) := by decide +kernel
theorem d7_34 : decode prog_2_method_2_code 34 = .ok (.getfield 74, 3) := by decide +kernel
theorem d7_37 : decode prog_2_method_2_code 37 = .ok (.dload_n 1, 1) := by decide +kernel
theorem d7_38 : decode prog_2_method_2_code 38 = .ok (.dastore, 1) := by decide +kernel
theorem d7_39 : decode prog_2_method_2_code 39 = .ok (.aload_n 0, 1) := by decide +kernel
theorem d7_40 : decode prog_2_method_2_code 40 = .ok (.dup, 1) := by decide +kernel
theorem d7_41 : decode prog_2_method_2_code 41 = .ok (.getfield 74, 3) := by decide +kernel
theorem d7_44 : decode prog_2_method_2_code 44 = .ok (.iconst 1, 1) := by decide +kernel
theorem d7_45 : decode prog_2_method_2_code 45 = .ok (.iadd, 1) := by decide +kernel
theorem d7_46 : decode prog_2_method_2_code 46 = .ok (.putfield 74, 3) := by decide +kernel
theorem d7_49 : decode prog_2_method_2_code 49 = .ok (.aload_n 0, 1) := by decide +kernel
theorem d7_50 : decode prog_2_method_2_code 50 = .ok (.getfield 74, 3) := by decide +kernel
theorem d7_53 : decode prog_2_method_2_code 53 = .ok (.iconst 1, 1) := by decide +kernel
theorem d7_54 : decode prog_2_method_2_code 54 = .ok (.isub, 1) := by decide +kernel
theorem d7_55 : decode prog_2_method_2_code 55 = .ok (.ireturn, 1) := by decide +kernel
theorem ef_7 (m : MethodId) (x0 : Addr) (x1 : UInt64) : entryFrame m #[(.ref x0), (.double x1)] 3 = mkF m 0 #[.val (.ref x0), .val (.double x1), .second] [] := by first | (simp [entryFrame, mkF, argsToLocals, Value.category]; done) | rfl
theorem pn_Bdd : plainName "com/example/glacis/glacis/analysis/Bdd" = true := by first | (simp [plainName, overriddenIn]; done) | decide +kernel
set_option maxRecDepth 65536 in
set_option maxHeartbeats 40000000 in
theorem rx1 (l : Launch) (Z : State) (a0 : Array Value) (hw : ∀ d ∈ tables_1, d.before a0 Z = true) (a : Addr) (pd : UInt64) (h0 : Heap) (n0 : Nat) (q0 q1 : Addr) (d : Nat → Addr) (sz vr : Int32) (f : Nat → Int → Value)  (B : OwnB Z h0 n0 a q0 q1 d sz vr f) (hvr : vr = 0) :
    Con l Z (⟨"com/example/glacis/glacis/analysis/Bdd", "newVariable", "(D)I"⟩ : MethodName) prog_2_method_2_code 3 (some .int) [] ({ frames := 0, cells := 0, slots := 0, locals := 0 } : Room) #[(.ref a), (.double pd)] h0 (fun v h L => v = some (.int (0 : Int32)) ∧ Fr n0 L ∧ OwnB Z h n0 a q0 q1 d sz (1 : Int32) (own_up f 5 0 (.double pd))) := by
  refine Con.of (plainFor_of_name pn_Bdd) ?_
  intro p e s m below meth c s₁ hx hby hml hown hnm hret hlk hZ X0 e0
  refine Go.cast (ef_7 m a pd) ?_
  replace hown : s.vm.findClass "com/example/glacis/glacis/analysis/Bdd" = some m.cls := hown
  subst hvr
  show Go p e below _ (s₁.setTop (mkF m 0 #[.val (.ref a), .val (.double pd), .second] []))
  refine Go.aloadN (pc' := 1) X0 hx hby d7_0 rfl rfl rfl ?_
  refine Go.getF (pc' := 4) X0 hx hby hZ hown (hw _ (List.mem_of_getElem? (i := 79) rfl)) Via.refl e0 B.2.2.2.2.2.2.2.2.2 d7_1 rfl ?_
  intro T1 X2 e3
  show Go p e below _ (T1.setTop (mkF m 4 #[.val (.ref a), .val (.double pd), .second] [(.int (0 : Int32))]))
  refine Go.aloadN (pc' := 5) X2 hx hby d7_4 rfl rfl rfl ?_
  refine Go.getF (pc' := 8) X2 hx hby hZ hown (hw _ (List.mem_of_getElem? (i := 25) rfl)) Via.refl e3 B.f5 d7_5 rfl ?_
  intro T4 X5 e6
  show Go p e below _ (T4.setTop (mkF m 8 #[.val (.ref a), .val (.double pd), .second] [(.ref (d 5)), (.int (0 : Int32))]))
  refine Go.alen (pc' := 9) (zv := (16 : Int32)) X5 hx hby hZ e6 B.a5 d7_8 rfl (by decide) ?_
  refine Go.icmpY (pc' := 29) X5 hx hby d7_9 (by decide) (by decide) (show (0 : Int32) ≠ (16 : Int32) from by decide) ?_
  refine Go.aloadN (pc' := 30) X5 hx hby d7_29 rfl rfl rfl ?_
  refine Go.getF (pc' := 33) X5 hx hby hZ hown (hw _ (List.mem_of_getElem? (i := 25) rfl)) Via.refl e6 B.f5 d7_30 rfl ?_
  intro T7 X8 e9
  show Go p e below _ (T7.setTop (mkF m 33 #[.val (.ref a), .val (.double pd), .second] [(.ref (d 5))]))
  refine Go.aloadN (pc' := 34) X8 hx hby d7_33 rfl rfl rfl ?_
  refine Go.getF (pc' := 37) X8 hx hby hZ hown (hw _ (List.mem_of_getElem? (i := 79) rfl)) Via.refl e9 B.2.2.2.2.2.2.2.2.2 d7_34 rfl ?_
  intro T10 X11 e12
  show Go p e below _ (T10.setTop (mkF m 37 #[.val (.ref a), .val (.double pd), .second] [(.int (0 : Int32)), (.ref (d 5))]))
  refine Go.dloadN (pc' := 38) X11 hx hby d7_37 rfl rfl ?_
  refine Go.dastore (pc' := 39) (i := 0) X11 hx hby hZ e12 B.a5 d7_38 rfl (by decide) (by decide) (by decide) ?_
  intro T13 h14 X15 e16 W17 A18
  have N20 : Fr n0 _ := Fr.snoc X15 (Fr.nil _) (B.2.1 5 (by decide))
  have B19 : OwnB Z h14 n0 a q0 q1 d sz (0 : Int32) (own_up f 5 0 (.double pd)) := B.st hw (k := 5) (by decide) W17 A18
  show Go p e below _ (T13.setTop (mkF m 39 #[.val (.ref a), .val (.double pd), .second] []))
  refine Go.aloadN (pc' := 40) X15 hx hby d7_39 rfl rfl rfl ?_
  refine Go.dup (pc' := 41) X15 hx hby d7_40 rfl rfl ?_
  refine Go.getF (pc' := 44) X15 hx hby hZ hown (hw _ (List.mem_of_getElem? (i := 79) rfl)) Via.refl e16 B19.2.2.2.2.2.2.2.2.2 d7_41 rfl ?_
  intro T21 X22 e23
  show Go p e below _ (T21.setTop (mkF m 44 #[.val (.ref a), .val (.double pd), .second] [(.int (0 : Int32)), (.ref a)]))
  refine Go.iconst (pc' := 45) X22 hx hby d7_44 rfl (v := (1 : Int32)) (by decide) ?_
  refine Go.iadd (pc' := 46) X22 hx hby d7_45 rfl ?_
  change Go p e below _ (T21.setTop (mkF m 46 #[.val (.ref a), .val (.double pd), .second] [(.int (1 : Int32)), (.ref a)]))
  refine Go.putF (pc' := 49) (ty := .int) X22 hx hby hZ hown (hw _ (List.mem_of_getElem? (i := 79) rfl)) Via.refl e23 B19.2.2.2.2.2.2.2.2.2 B19.2.2.2.2.1 (Or.inl (hw _ (List.mem_of_getElem? (i := 80) rfl))) (hw _ (List.mem_of_getElem? (i := 3) rfl)) (by decide) rfl rfl d7_46 rfl ?_
  intro T24 h25 X26 e27 W28
  have z29 : n0 ≤ h25.size := by rw [Wr.size W28]; exact (Nat.le_trans B19.2.2.2.1 (Nat.le_of_lt B19.2.2.2.2.1.lt))
  have f30 : Fld Z h25 a "com/example/glacis/glacis/analysis/Bdd" "variables" "I" (.int (1 : Int32)) := Fld.same W28 B19.2.2.2.2.2.2.2.2.2
  have N31 : Fr n0 _ := Fr.snoc X26 N20 B19.2.2.2.1
  show Go p e below _ (T24.setTop (mkF m 49 #[.val (.ref a), .val (.double pd), .second] []))
  have B32 : OwnB Z h25 n0 a q0 q1 d sz (1 : Int32) (own_up f 5 0 (.double pd)) := B19.set_variables hw W28
  refine Go.aloadN (pc' := 50) X26 hx hby d7_49 rfl rfl rfl ?_
  refine Go.getF (pc' := 53) X26 hx hby hZ hown (hw _ (List.mem_of_getElem? (i := 79) rfl)) Via.refl e27 B32.2.2.2.2.2.2.2.2.2 d7_50 rfl ?_
  intro T33 X34 e35
  show Go p e below _ (T33.setTop (mkF m 53 #[.val (.ref a), .val (.double pd), .second] [(.int (1 : Int32))]))
  refine Go.iconst (pc' := 54) X34 hx hby d7_53 rfl (v := (1 : Int32)) (by decide) ?_
  refine Go.isub (pc' := 55) X34 hx hby d7_54 rfl ?_
  change Go p e below _ (T33.setTop (mkF m 55 #[.val (.ref a), .val (.double pd), .second] [(.int (0 : Int32))]))
  exact Go.retI X34 hx hby hlk hret d7_55 (by decide) (by decide) ⟨rfl, N31, by rw [e35]; exact B32⟩
set_option maxRecDepth 65536 in
set_option maxHeartbeats 40000000 in
theorem rx2 (l : Launch) (Z : State) (a0 : Array Value) (hw : ∀ d ∈ tables_1, d.before a0 Z = true) (a : Addr) (pd : UInt64) (h0 : Heap) (n0 : Nat) (q0 q1 : Addr) (d : Nat → Addr) (sz vr : Int32) (f : Nat → Int → Value)  (B : OwnB Z h0 n0 a q0 q1 d sz vr f) (hvr : vr = 1) :
    Con l Z (⟨"com/example/glacis/glacis/analysis/Bdd", "newVariable", "(D)I"⟩ : MethodName) prog_2_method_2_code 3 (some .int) [] ({ frames := 0, cells := 0, slots := 0, locals := 0 } : Room) #[(.ref a), (.double pd)] h0 (fun v h L => v = some (.int (1 : Int32)) ∧ Fr n0 L ∧ OwnB Z h n0 a q0 q1 d sz (2 : Int32) (own_up f 5 1 (.double pd))) := by
  refine Con.of (plainFor_of_name pn_Bdd) ?_
  intro p e s m below meth c s₁ hx hby hml hown hnm hret hlk hZ X0 e0
  refine Go.cast (ef_7 m a pd) ?_
  replace hown : s.vm.findClass "com/example/glacis/glacis/analysis/Bdd" = some m.cls := hown
  subst hvr
  show Go p e below _ (s₁.setTop (mkF m 0 #[.val (.ref a), .val (.double pd), .second] []))
  refine Go.aloadN (pc' := 1) X0 hx hby d7_0 rfl rfl rfl ?_
  refine Go.getF (pc' := 4) X0 hx hby hZ hown (hw _ (List.mem_of_getElem? (i := 79) rfl)) Via.refl e0 B.2.2.2.2.2.2.2.2.2 d7_1 rfl ?_
  intro T1 X2 e3
  show Go p e below _ (T1.setTop (mkF m 4 #[.val (.ref a), .val (.double pd), .second] [(.int (1 : Int32))]))
  refine Go.aloadN (pc' := 5) X2 hx hby d7_4 rfl rfl rfl ?_
  refine Go.getF (pc' := 8) X2 hx hby hZ hown (hw _ (List.mem_of_getElem? (i := 25) rfl)) Via.refl e3 B.f5 d7_5 rfl ?_
  intro T4 X5 e6
  show Go p e below _ (T4.setTop (mkF m 8 #[.val (.ref a), .val (.double pd), .second] [(.ref (d 5)), (.int (1 : Int32))]))
  refine Go.alen (pc' := 9) (zv := (16 : Int32)) X5 hx hby hZ e6 B.a5 d7_8 rfl (by decide) ?_
  refine Go.icmpY (pc' := 29) X5 hx hby d7_9 (by decide) (by decide) (show (1 : Int32) ≠ (16 : Int32) from by decide) ?_
  refine Go.aloadN (pc' := 30) X5 hx hby d7_29 rfl rfl rfl ?_
  refine Go.getF (pc' := 33) X5 hx hby hZ hown (hw _ (List.mem_of_getElem? (i := 25) rfl)) Via.refl e6 B.f5 d7_30 rfl ?_
  intro T7 X8 e9
  show Go p e below _ (T7.setTop (mkF m 33 #[.val (.ref a), .val (.double pd), .second] [(.ref (d 5))]))
  refine Go.aloadN (pc' := 34) X8 hx hby d7_33 rfl rfl rfl ?_
  refine Go.getF (pc' := 37) X8 hx hby hZ hown (hw _ (List.mem_of_getElem? (i := 79) rfl)) Via.refl e9 B.2.2.2.2.2.2.2.2.2 d7_34 rfl ?_
  intro T10 X11 e12
  show Go p e below _ (T10.setTop (mkF m 37 #[.val (.ref a), .val (.double pd), .second] [(.int (1 : Int32)), (.ref (d 5))]))
  refine Go.dloadN (pc' := 38) X11 hx hby d7_37 rfl rfl ?_
  refine Go.dastore (pc' := 39) (i := 1) X11 hx hby hZ e12 B.a5 d7_38 rfl (by decide) (by decide) (by decide) ?_
  intro T13 h14 X15 e16 W17 A18
  have N20 : Fr n0 _ := Fr.snoc X15 (Fr.nil _) (B.2.1 5 (by decide))
  have B19 : OwnB Z h14 n0 a q0 q1 d sz (1 : Int32) (own_up f 5 1 (.double pd)) := B.st hw (k := 5) (by decide) W17 A18
  show Go p e below _ (T13.setTop (mkF m 39 #[.val (.ref a), .val (.double pd), .second] []))
  refine Go.aloadN (pc' := 40) X15 hx hby d7_39 rfl rfl rfl ?_
  refine Go.dup (pc' := 41) X15 hx hby d7_40 rfl rfl ?_
  refine Go.getF (pc' := 44) X15 hx hby hZ hown (hw _ (List.mem_of_getElem? (i := 79) rfl)) Via.refl e16 B19.2.2.2.2.2.2.2.2.2 d7_41 rfl ?_
  intro T21 X22 e23
  show Go p e below _ (T21.setTop (mkF m 44 #[.val (.ref a), .val (.double pd), .second] [(.int (1 : Int32)), (.ref a)]))
  refine Go.iconst (pc' := 45) X22 hx hby d7_44 rfl (v := (1 : Int32)) (by decide) ?_
  refine Go.iadd (pc' := 46) X22 hx hby d7_45 rfl ?_
  change Go p e below _ (T21.setTop (mkF m 46 #[.val (.ref a), .val (.double pd), .second] [(.int (2 : Int32)), (.ref a)]))
  refine Go.putF (pc' := 49) (ty := .int) X22 hx hby hZ hown (hw _ (List.mem_of_getElem? (i := 79) rfl)) Via.refl e23 B19.2.2.2.2.2.2.2.2.2 B19.2.2.2.2.1 (Or.inl (hw _ (List.mem_of_getElem? (i := 80) rfl))) (hw _ (List.mem_of_getElem? (i := 3) rfl)) (by decide) rfl rfl d7_46 rfl ?_
  intro T24 h25 X26 e27 W28
  have z29 : n0 ≤ h25.size := by rw [Wr.size W28]; exact (Nat.le_trans B19.2.2.2.1 (Nat.le_of_lt B19.2.2.2.2.1.lt))
  have f30 : Fld Z h25 a "com/example/glacis/glacis/analysis/Bdd" "variables" "I" (.int (2 : Int32)) := Fld.same W28 B19.2.2.2.2.2.2.2.2.2
  have N31 : Fr n0 _ := Fr.snoc X26 N20 B19.2.2.2.1
  show Go p e below _ (T24.setTop (mkF m 49 #[.val (.ref a), .val (.double pd), .second] []))
  have B32 : OwnB Z h25 n0 a q0 q1 d sz (2 : Int32) (own_up f 5 1 (.double pd)) := B19.set_variables hw W28
  refine Go.aloadN (pc' := 50) X26 hx hby d7_49 rfl rfl rfl ?_
  refine Go.getF (pc' := 53) X26 hx hby hZ hown (hw _ (List.mem_of_getElem? (i := 79) rfl)) Via.refl e27 B32.2.2.2.2.2.2.2.2.2 d7_50 rfl ?_
  intro T33 X34 e35
  show Go p e below _ (T33.setTop (mkF m 53 #[.val (.ref a), .val (.double pd), .second] [(.int (2 : Int32))]))
  refine Go.iconst (pc' := 54) X34 hx hby d7_53 rfl (v := (1 : Int32)) (by decide) ?_
  refine Go.isub (pc' := 55) X34 hx hby d7_54 rfl ?_
  change Go p e below _ (T33.setTop (mkF m 55 #[.val (.ref a), .val (.double pd), .second] [(.int (1 : Int32))]))
  exact Go.retI X34 hx hby hlk hret d7_55 (by decide) (by decide) ⟨rfl, N31, by rw [e35]; exact B32⟩
theorem d11_0 : decode prog_2_method_19_code 0 = .ok (.iload_n 0, 1) := by decide +kernel
theorem d11_1 : decode prog_2_method_19_code 1 = .ok (.ldc 137, 2) := by decide +kernel
theorem d11_3 : decode prog_2_method_19_code 3 = .ok (.imul, 1) := by decide +kernel
theorem d11_4 : decode prog_2_method_19_code 4 = .ok (.iload_n 1, 1) := by decide +kernel
theorem d11_5 : decode prog_2_method_19_code 5 = .ok (.ldc 138, 2) := by decide +kernel
theorem d11_7 : decode prog_2_method_19_code 7 = .ok (.imul, 1) := by decide +kernel
theorem d11_8 : decode prog_2_method_19_code 8 = .ok (.iadd, 1) := by decide +kernel
theorem d11_9 : decode prog_2_method_19_code 9 = .ok (.iload_n 2, 1) := by decide +kernel
theorem d11_10 : decode prog_2_method_19_code 10 = .ok (.ldc 139, 2) := by decide +kernel
theorem d11_12 : decode prog_2_method_19_code 12 = .ok (.imul, 1) := by decide +kernel
theorem d11_13 : decode prog_2_method_19_code 13 = .ok (.iadd, 1) := by decide +kernel
theorem d11_14 : decode prog_2_method_19_code 14 = .ok (.istore_n 3, 1) := by decide +kernel
theorem d11_15 : decode prog_2_method_19_code 15 = .ok (.iload_n 3, 1) := by decide +kernel
theorem d11_16 : decode prog_2_method_19_code 16 = .ok (.iload_n 3, 1) := by decide +kernel
theorem d11_17 : decode prog_2_method_19_code 17 = .ok (.bipush 15, 2) := by decide +kernel
theorem d11_19 : decode prog_2_method_19_code 19 = .ok (.iushr, 1) := by decide +kernel
theorem d11_20 : decode prog_2_method_19_code 20 = .ok (.ixor, 1) := by decide +kernel
theorem d11_21 : decode prog_2_method_19_code 21 = .ok (.ireturn, 1) := by decide +kernel
theorem ef_11 (m : MethodId) (x0 : Int32) (x1 : Int32) (x2 : Int32) : entryFrame m #[(.int x0), (.int x1), (.int x2)] 4 = mkF m 0 #[.val (.int x0), .val (.int x1), .val (.int x2), .unset] [] := by first | (simp [entryFrame, mkF, argsToLocals, Value.category]; done) | rfl
set_option maxRecDepth 65536 in
set_option maxHeartbeats 40000000 in
theorem rx6 (l : Launch) (Z : State) (a0 : Array Value) (hw : ∀ d ∈ tables_1, d.before a0 Z = true) (x0 : Int32) (x1 : Int32) (x2 : Int32) (h0 : Heap) (e0_ : x0 = 0) (e1_ : x1 = 0) (e2_ : x2 = 1) :
    Con l Z (⟨"com/example/glacis/glacis/analysis/Bdd", "hash", "(III)I"⟩ : MethodName) prog_2_method_19_code 4 (some .int) [] ({ frames := 0, cells := 0, slots := 0, locals := 0 } : Room) #[(.int x0), (.int x1), (.int x2)] h0 (PQ (some (.int (-1028445352 : Int32))) h0) := by
  refine Con.of (plainFor_of_name pn_Bdd) ?_
  intro p e s m below meth c s₁ hx hby hml hown hnm hret hlk hZ X0 e0
  refine Go.cast (ef_11 m x0 x1 x2) ?_
  replace hown : s.vm.findClass "com/example/glacis/glacis/analysis/Bdd" = some m.cls := hown
  subst e0_ e1_ e2_
  show Go p e below _ (s₁.setTop (mkF m 0 #[.val (.int (0 : Int32)), .val (.int (0 : Int32)), .val (.int (1 : Int32)), .unset] []))
  refine Go.iloadN (pc' := 1) X0 hx hby d11_0 rfl rfl ?_
  refine Go.ldcI (pc' := 3) X0 hx hby d11_1 rfl hown (mvT hZ (hw _ (List.mem_of_getElem? (i := 97) rfl))) ?_
  refine Go.imul (pc' := 4) X0 hx hby d11_3 rfl ?_
  refine Go.iloadN (pc' := 5) X0 hx hby d11_4 rfl rfl ?_
  refine Go.ldcI (pc' := 7) X0 hx hby d11_5 rfl hown (mvT hZ (hw _ (List.mem_of_getElem? (i := 98) rfl))) ?_
  refine Go.imul (pc' := 8) X0 hx hby d11_7 rfl ?_
  refine Go.iadd (pc' := 9) X0 hx hby d11_8 rfl ?_
  refine Go.iloadN (pc' := 10) X0 hx hby d11_9 rfl rfl ?_
  refine Go.ldcI (pc' := 12) X0 hx hby d11_10 rfl hown (mvT hZ (hw _ (List.mem_of_getElem? (i := 99) rfl))) ?_
  refine Go.imul (pc' := 13) X0 hx hby d11_12 rfl ?_
  refine Go.iadd (pc' := 14) X0 hx hby d11_13 rfl ?_
  refine Go.istoreN (Ls' := #[.val (.int (0 : Int32)), .val (.int (0 : Int32)), .val (.int (1 : Int32)), .val (.int ((((0 : Int32) * (-1640531535 : Int32)) + ((0 : Int32) * (-2048144777 : Int32))) + ((1 : Int32) * (-1028477379 : Int32))))]) (pc' := 15) X0 hx hby d11_14 rfl rfl ?_
  refine Go.iloadN (pc' := 16) X0 hx hby d11_15 rfl rfl ?_
  refine Go.iloadN (pc' := 17) X0 hx hby d11_16 rfl rfl ?_
  refine Go.bipush (pc' := 19) X0 hx hby d11_17 rfl (v := (15 : Int32)) (by decide) ?_
  refine Go.iushr (pc' := 20) X0 hx hby d11_19 rfl ?_
  refine Go.ixor (pc' := 21) X0 hx hby d11_20 rfl ?_
  exact Go.retI X0 hx hby hlk hret d11_21 (by decide) (by decide) ⟨by rw [show (((((0 : Int32) * (-1640531535 : Int32)) + ((0 : Int32) * (-2048144777 : Int32))) + ((1 : Int32) * (-1028477379 : Int32))) ^^^ ((((((0 : Int32) * (-1640531535 : Int32)) + ((0 : Int32) * (-2048144777 : Int32))) + ((1 : Int32) * (-1028477379 : Int32))).toUInt32 >>> ((15 : Int32) &&& 31).toUInt32).toInt32)) = (-1028445352 : Int32) from by decide +kernel], rfl, e0⟩
theorem d10_0 : decode prog_2_method_16_code 0 = .ok (.iload_n 1, 1) := by decide +kernel
theorem d10_1 : decode prog_2_method_16_code 1 = .ok (.iload_n 2, 1) := by decide +kernel
theorem d10_2 : decode prog_2_method_16_code 2 = .ok (.iload_n 3, 1) := by decide +kernel
theorem d10_3 : decode prog_2_method_16_code 3 = .ok (.invokestatic 133, 3) := by decide +kernel
theorem d10_6 : decode prog_2_method_16_code 6 = .ok (.aload_n 0, 1) := by decide +kernel
theorem d10_7 : decode prog_2_method_16_code 7 = .ok (.getfield 24, 3) := by decide +kernel
theorem d10_10 : decode prog_2_method_16_code 10 = .ok (.arraylength, 1) := by decide +kernel
theorem d10_11 : decode prog_2_method_16_code 11 = .ok (.iconst 1, 1) := by decide +kernel
theorem d10_12 : decode prog_2_method_16_code 12 = .ok (.isub, 1) := by decide +kernel
theorem d10_13 : decode prog_2_method_16_code 13 = .ok (.iand, 1) := by decide +kernel
theorem d10_14 : decode prog_2_method_16_code 14 = .ok (.istore 4, 2) := by decide +kernel
theorem d10_16 : decode prog_2_method_16_code 16 = .ok (.aload_n 0, 1) := by decide +kernel
theorem d10_17 : decode prog_2_method_16_code 17 = .ok (.getfield 24, 3) := by decide +kernel
theorem d10_20 : decode prog_2_method_16_code 20 = .ok (.iload 4, 2) := by decide +kernel
theorem d10_22 : decode prog_2_method_16_code 22 = .ok (.iaload, 1) := by decide +kernel
theorem d10_23 : decode prog_2_method_16_code 23 = .ok (.istore 5, 2) := by decide +kernel
theorem d10_25 : decode prog_2_method_16_code 25 = .ok (.iload 5, 2) := by decide +kernel
theorem d10_27 : decode prog_2_method_16_code 27 = .ok (.iconst (-1), 1) := by decide +kernel
theorem d10_28 : decode prog_2_method_16_code 28 = .ok (.if_icmp .eq 51, 3) := by decide +kernel
theorem d10_31 : decode prog_2_method_16_code 31 = .ok (.aload_n 0, 1) := by decide +kernel
theorem d10_32 : decode prog_2_method_16_code 32 = .ok (.getfield 9, 3) := by decide +kernel
theorem d10_35 : decode prog_2_method_16_code 35 = .ok (.iload 5, 2) := by decide +kernel
theorem d10_37 : decode prog_2_method_16_code 37 = .ok (.iaload, 1) := by decide +kernel
theorem d10_38 : decode prog_2_method_16_code 38 = .ok (.iload_n 1, 1) := by decide +kernel
theorem d10_39 : decode prog_2_method_16_code 39 = .ok (.if_icmp .ne 28, 3) := by decide +kernel
theorem d10_42 : decode prog_2_method_16_code 42 = .ok (.aload_n 0, 1) := by decide +kernel
theorem d10_43 : decode prog_2_method_16_code 43 = .ok (.getfield 15, 3) := by decide +kernel
theorem d10_46 : decode prog_2_method_16_code 46 = .ok (.iload 5, 2) := by decide +kernel
theorem d10_48 : decode prog_2_method_16_code 48 = .ok (.iaload, 1) := by decide +kernel
theorem d10_49 : decode prog_2_method_16_code 49 = .ok (.iload_n 2, 1) := by decide +kernel
theorem d10_50 : decode prog_2_method_16_code 50 = .ok (.if_icmp .ne 17, 3) := by decide +kernel
theorem d10_53 : decode prog_2_method_16_code 53 = .ok (.aload_n 0, 1) := by decide +kernel
theorem d10_54 : decode prog_2_method_16_code 54 = .ok (.getfield 18, 3) := by decide +kernel
theorem d10_57 : decode prog_2_method_16_code 57 = .ok (.iload 5, 2) := by decide +kernel
theorem d10_59 : decode prog_2_method_16_code 59 = .ok (.iaload, 1) := by decide +kernel
theorem d10_60 : decode prog_2_method_16_code 60 = .ok (.iload_n 3, 1) := by decide +kernel
theorem d10_61 : decode prog_2_method_16_code 61 = .ok (.if_icmp .ne 6, 3) := by decide +kernel
theorem d10_64 : decode prog_2_method_16_code 64 = .ok (.iload 5, 2) := by decide +kernel
theorem d10_66 : decode prog_2_method_16_code 66 = .ok (.ireturn, 1) := by decide +kernel
theorem d10_67 : decode prog_2_method_16_code 67 = .ok (.aload_n 0, 1) := by decide +kernel
theorem d10_68 : decode prog_2_method_16_code 68 = .ok (.getfield 21, 3) := by decide +kernel
theorem d10_71 : decode prog_2_method_16_code 71 = .ok (.iload 5, 2) := by decide +kernel
theorem d10_73 : decode prog_2_method_16_code 73 = .ok (.iaload, 1) := by decide +kernel
theorem d10_74 : decode prog_2_method_16_code 74 = .ok (.istore 5, 2) := by decide +kernel
theorem d10_76 : decode prog_2_method_16_code 76 = .ok (.goto (-51), 3) := by decide +kernel
theorem d10_79 : decode prog_2_method_16_code 79 = .ok (.iconst (-1), 1) := by decide +kernel
theorem d10_80 : decode prog_2_method_16_code 80 = .ok (.ireturn, 1) := by decide +kernel
theorem ef_10 (m : MethodId) (x0 : Addr) (x1 : Int32) (x2 : Int32) (x3 : Int32) : entryFrame m #[(.ref x0), (.int x1), (.int x2), (.int x3)] 6 = mkF m 0 #[.val (.ref x0), .val (.int x1), .val (.int x2), .val (.int x3), .unset, .unset] [] := by first | (simp [entryFrame, mkF, argsToLocals, Value.category]; done) | rfl
set_option maxRecDepth 65536 in
set_option maxHeartbeats 40000000 in
theorem rx5 (l : Launch) (Z : State) (a0 : Array Value) (hw : ∀ d ∈ tables_1, d.before a0 Z = true) (a : Addr) (x0 : Int32) (x1 : Int32) (x2 : Int32) (h0 : Heap) (n0 : Nat) (q0 q1 : Addr) (d : Nat → Addr) (sz vr : Int32) (f : Nat → Int → Value) (e0_ : x0 = 0) (e1_ : x1 = 0) (e2_ : x2 = 1) (B : OwnB Z h0 n0 a q0 q1 d sz vr f) (r_4_856 : f 4 856 = (.int (-1 : Int32))) :
    Con l Z (⟨"com/example/glacis/glacis/analysis/Bdd", "find", "(III)I"⟩ : MethodName) prog_2_method_16_code 6 (some .int) [] ({ frames := 1, cells := 0, slots := 0, locals := 15 } : Room) #[(.ref a), (.int x0), (.int x1), (.int x2)] h0 (fun v h L => v = some (.int (-1 : Int32)) ∧ Fr n0 L ∧ OwnB Z h n0 a q0 q1 d sz vr f) := by
  refine Con.of (plainFor_of_name pn_Bdd) ?_
  intro p e s m below meth c s₁ hx hby hml hown hnm hret hlk hZ X0 e0
  refine Go.cast (ef_10 m a x0 x1 x2) ?_
  replace hown : s.vm.findClass "com/example/glacis/glacis/analysis/Bdd" = some m.cls := hown
  subst e0_ e1_ e2_
  show Go p e below _ (s₁.setTop (mkF m 0 #[.val (.ref a), .val (.int (0 : Int32)), .val (.int (0 : Int32)), .val (.int (1 : Int32)), .unset, .unset] []))
  refine Go.iloadN (pc' := 1) X0 hx hby d10_0 rfl rfl ?_
  refine Go.iloadN (pc' := 2) X0 hx hby d10_1 rfl rfl ?_
  refine Go.iloadN (pc' := 3) X0 hx hby d10_2 rfl rfl ?_
  refine Go.callS (pc' := 6) (W := 0) (argsL := [(.int (0 : Int32)), (.int (0 : Int32)), (.int (1 : Int32))]) (rest := []) X0 hx hby hZ hown (hw _ (List.mem_of_getElem? (i := 94) rfl)) (hw _ (List.mem_of_getElem? (i := 95) rfl)) (hw _ (List.mem_of_getElem? (i := 4) rfl)) (hw _ (List.mem_of_getElem? (i := 96) rfl)) (by decide) (rx6 l Z a0 hw  (0 : Int32) (0 : Int32) (1 : Int32) h0 rfl rfl rfl) e0 (by decide) (by decide) (by rw [hml]; rfl) pd_8 rfl rfl rfl (Nat.le_of_eq rfl) d10_3 rfl (by decide) (by decide) ?_
  rintro r2 T3 L4 X5 ⟨rfl, rfl, e1⟩
  rw [List.append_nil] at X5
  show Go p e below _ (T3.setTop (mkF m 6 #[.val (.ref a), .val (.int (0 : Int32)), .val (.int (0 : Int32)), .val (.int (1 : Int32)), .unset, .unset] [(.int (-1028445352 : Int32))]))
  refine Go.aloadN (pc' := 7) X5 hx hby d10_6 rfl rfl rfl ?_
  refine Go.getF (pc' := 10) X5 hx hby hZ hown (hw _ (List.mem_of_getElem? (i := 20) rfl)) Via.refl e1 B.f4 d10_7 rfl ?_
  intro T6 X7 e8
  show Go p e below _ (T6.setTop (mkF m 10 #[.val (.ref a), .val (.int (0 : Int32)), .val (.int (0 : Int32)), .val (.int (1 : Int32)), .unset, .unset] [(.ref (d 4)), (.int (-1028445352 : Int32))]))
  refine Go.alen (pc' := 11) (zv := (1024 : Int32)) X7 hx hby hZ e8 B.a4 d10_10 rfl (by decide) ?_
  refine Go.iconst (pc' := 12) X7 hx hby d10_11 rfl (v := (1 : Int32)) (by decide) ?_
  refine Go.isub (pc' := 13) X7 hx hby d10_12 rfl ?_
  change Go p e below _ (T6.setTop (mkF m 13 #[.val (.ref a), .val (.int (0 : Int32)), .val (.int (0 : Int32)), .val (.int (1 : Int32)), .unset, .unset] [(.int (1023 : Int32)), (.int (-1028445352 : Int32))]))
  refine Go.iand (pc' := 14) X7 hx hby d10_13 rfl ?_
  change Go p e below _ (T6.setTop (mkF m 14 #[.val (.ref a), .val (.int (0 : Int32)), .val (.int (0 : Int32)), .val (.int (1 : Int32)), .unset, .unset] [(.int (856 : Int32))]))
  refine Go.istore (Ls' := #[.val (.ref a), .val (.int (0 : Int32)), .val (.int (0 : Int32)), .val (.int (1 : Int32)), .val (.int (856 : Int32)), .unset]) (pc' := 16) X7 hx hby d10_14 rfl rfl ?_
  refine Go.aloadN (pc' := 17) X7 hx hby d10_16 rfl rfl rfl ?_
  refine Go.getF (pc' := 20) X7 hx hby hZ hown (hw _ (List.mem_of_getElem? (i := 20) rfl)) Via.refl e8 B.f4 d10_17 rfl ?_
  intro T9 X10 e11
  show Go p e below _ (T9.setTop (mkF m 20 #[.val (.ref a), .val (.int (0 : Int32)), .val (.int (0 : Int32)), .val (.int (1 : Int32)), .val (.int (856 : Int32)), .unset] [(.ref (d 4))]))
  refine Go.iload (pc' := 22) X10 hx hby d10_20 rfl rfl ?_
  refine Go.iaload (pc' := 23) (i := 856) (v := (.int (-1 : Int32))) X10 hx hby hZ e11 B.a4 d10_22 rfl (by decide) (by decide) (by decide) r_4_856 ?_
  refine Go.istore (Ls' := #[.val (.ref a), .val (.int (0 : Int32)), .val (.int (0 : Int32)), .val (.int (1 : Int32)), .val (.int (856 : Int32)), .val (.int (-1 : Int32))]) (pc' := 25) X10 hx hby d10_23 rfl rfl ?_
  refine Go.iload (pc' := 27) X10 hx hby d10_25 rfl rfl ?_
  refine Go.iconst (pc' := 28) X10 hx hby d10_27 rfl (v := (-1 : Int32)) (by decide) ?_
  refine Go.icmpY (pc' := 79) X10 hx hby d10_28 (by decide) (by decide) (show (-1 : Int32) = (-1 : Int32) from by decide) ?_
  refine Go.iconst (pc' := 80) X10 hx hby d10_79 rfl (v := (-1 : Int32)) (by decide) ?_
  exact Go.retI X10 hx hby hlk hret d10_80 (by decide) (by decide) ⟨rfl, (Fr.nil _), by rw [e11]; exact B⟩
theorem d9_0 : decode prog_2_method_15_code 0 = .ok (.iload_n 2, 1) := by decide +kernel
theorem d9_1 : decode prog_2_method_15_code 1 = .ok (.istore 4, 2) := by decide +kernel
theorem d9_3 : decode prog_2_method_15_code 3 = .ok (.iload_n 2, 1) := by decide +kernel
theorem d9_4 : decode prog_2_method_15_code 4 = .ok (.iload_n 3, 1) := by decide +kernel
theorem d9_5 : decode prog_2_method_15_code 5 = .ok (.if_icmp .eq 12, 3) := by decide +kernel
theorem d9_8 : decode prog_2_method_15_code 8 = .ok (.aload_n 0, 1) := by decide +kernel
theorem d9_9 : decode prog_2_method_15_code 9 = .ok (.iload_n 1, 1) := by decide +kernel
theorem d9_10 : decode prog_2_method_15_code 10 = .ok (.iload_n 2, 1) := by decide +kernel
theorem d9_11 : decode prog_2_method_15_code 11 = .ok (.iload_n 3, 1) := by decide +kernel
theorem d9_12 : decode prog_2_method_15_code 12 = .ok (.invokevirtual 127, 3) := by decide +kernel
theorem d9_15 : decode prog_2_method_15_code 15 = .ok (.istore 4, 2) := by decide +kernel
theorem d9_17 : decode prog_2_method_15_code 17 = .ok (.iload 4, 2) := by decide +kernel
theorem d9_19 : decode prog_2_method_15_code 19 = .ok (.iconst (-1), 1) := by decide +kernel
theorem d9_20 : decode prog_2_method_15_code 20 = .ok (.if_icmp .ne 98, 3) := by decide +kernel
theorem d9_23 : decode prog_2_method_15_code 23 = .ok (.aload_n 0, 1) := by decide +kernel
theorem d9_24 : decode prog_2_method_15_code 24 = .ok (.getfield 27, 3) := by decide +kernel
theorem d9_27 : decode prog_2_method_15_code 27 = .ok (.aload_n 0, 1) := by decide +kernel
theorem d9_28 : decode prog_2_method_15_code 28 = .ok (.getfield 9, 3) := by decide +kernel
theorem d9_31 : decode prog_2_method_15_code 31 = .ok (.arraylength, 1) := by decide +kernel
theorem d9_32 : decode prog_2_method_15_code 32 = .ok (.if_icmp .ne 7, 3) := by decide +kernel
theorem d9_35 : decode prog_2_method_15_code 35 = .ok (.aload_n 0, 1) := by decide +kernel
theorem d9_36 : decode prog_2_method_15_code 36 = .ok (.invokevirtual 130, 3) := by decide +kernel
theorem d9_39 : decode prog_2_method_15_code 39 = .ok (.aload_n 0, 1) := by decide +kernel
theorem d9_40 : decode prog_2_method_15_code 40 = .ok (.getfield 27, 3) := by decide +kernel
theorem d9_43 : decode prog_2_method_15_code 43 = .ok (.istore 4, 2) := by decide +kernel
theorem d9_45 : decode prog_2_method_15_code 45 = .ok (.aload_n 0, 1) := by decide +kernel
theorem d9_46 : decode prog_2_method_15_code 46 = .ok (.dup, 1) := by decide +kernel
theorem d9_47 : decode prog_2_method_15_code 47 = .ok (.getfield 27, 3) := by decide +kernel
theorem d9_50 : decode prog_2_method_15_code 50 = .ok (.iconst 1, 1) := by decide +kernel
theorem d9_51 : decode prog_2_method_15_code 51 = .ok (.iadd, 1) := by decide +kernel
theorem d9_52 : decode prog_2_method_15_code 52 = .ok (.putfield 27, 3) := by decide +kernel
theorem d9_55 : decode prog_2_method_15_code 55 = .ok (.aload_n 0, 1) := by decide +kernel
theorem d9_56 : decode prog_2_method_15_code 56 = .ok (.getfield 9, 3) := by decide +kernel
theorem d9_59 : decode prog_2_method_15_code 59 = .ok (.iload 4, 2) := by decide +kernel
theorem d9_61 : decode prog_2_method_15_code 61 = .ok (.iload_n 1, 1) := by decide +kernel
theorem d9_62 : decode prog_2_method_15_code 62 = .ok (.iastore, 1) := by decide +kernel
theorem d9_63 : decode prog_2_method_15_code 63 = .ok (.aload_n 0, 1) := by decide +kernel
theorem d9_64 : decode prog_2_method_15_code 64 = .ok (.getfield 15, 3) := by decide +kernel
theorem d9_67 : decode prog_2_method_15_code 67 = .ok (.iload 4, 2) := by decide +kernel
theorem d9_69 : decode prog_2_method_15_code 69 = .ok (.iload_n 2, 1) := by decide +kernel
theorem d9_70 : decode prog_2_method_15_code 70 = .ok (.iastore, 1) := by decide +kernel
theorem d9_71 : decode prog_2_method_15_code 71 = .ok (.aload_n 0, 1) := by decide +kernel
theorem d9_72 : decode prog_2_method_15_code 72 = .ok (.getfield 18, 3) := by decide +kernel
theorem d9_75 : decode prog_2_method_15_code 75 = .ok (.iload 4, 2) := by decide +kernel
theorem d9_77 : decode prog_2_method_15_code 77 = .ok (.iload_n 3, 1) := by decide +kernel
theorem d9_78 : decode prog_2_method_15_code 78 = .ok (.iastore, 1) := by decide +kernel
theorem d9_79 : decode prog_2_method_15_code 79 = .ok (.iload_n 1, 1) := by decide +kernel
theorem d9_80 : decode prog_2_method_15_code 80 = .ok (.iload_n 2, 1) := by decide +kernel
theorem d9_81 : decode prog_2_method_15_code 81 = .ok (.iload_n 3, 1) := by decide +kernel
theorem d9_82 : decode prog_2_method_15_code 82 = .ok (.invokestatic 133, 3) := by decide +kernel
theorem d9_85 : decode prog_2_method_15_code 85 = .ok (.aload_n 0, 1) := by decide +kernel
theorem d9_86 : decode prog_2_method_15_code 86 = .ok (.getfield 24, 3) := by decide +kernel
theorem d9_89 : decode prog_2_method_15_code 89 = .ok (.arraylength, 1) := by decide +kernel
theorem d9_90 : decode prog_2_method_15_code 90 = .ok (.iconst 1, 1) := by decide +kernel
theorem d9_91 : decode prog_2_method_15_code 91 = .ok (.isub, 1) := by decide +kernel
theorem d9_92 : decode prog_2_method_15_code 92 = .ok (.iand, 1) := by decide +kernel
theorem d9_93 : decode prog_2_method_15_code 93 = .ok (.istore 5, 2) := by decide +kernel
theorem d9_95 : decode prog_2_method_15_code 95 = .ok (.aload_n 0, 1) := by decide +kernel
theorem d9_96 : decode prog_2_method_15_code 96 = .ok (.getfield 21, 3) := by decide +kernel
theorem d9_99 : decode prog_2_method_15_code 99 = .ok (.iload 4, 2) := by decide +kernel
theorem d9_101 : decode prog_2_method_15_code 101 = .ok (.aload_n 0, 1) := by decide +kernel
theorem d9_102 : decode prog_2_method_15_code 102 = .ok (.getfield 24, 3) := by decide +kernel
theorem d9_105 : decode prog_2_method_15_code 105 = .ok (.iload 5, 2) := by decide +kernel
theorem d9_107 : decode prog_2_method_15_code 107 = .ok (.iaload, 1) := by decide +kernel
theorem d9_108 : decode prog_2_method_15_code 108 = .ok (.iastore, 1) := by decide +kernel
theorem d9_109 : decode prog_2_method_15_code 109 = .ok (.aload_n 0, 1) := by decide +kernel
theorem d9_110 : decode prog_2_method_15_code 110 = .ok (.getfield 24, 3) := by decide +kernel
theorem d9_113 : decode prog_2_method_15_code 113 = .ok (.iload 5, 2) := by decide +kernel
theorem d9_115 : decode prog_2_method_15_code 115 = .ok (.iload 4, 2) := by decide +kernel
theorem d9_117 : decode prog_2_method_15_code 117 = .ok (.iastore, 1) := by decide +kernel
theorem d9_118 : decode prog_2_method_15_code 118 = .ok (.iload 4, 2) := by decide +kernel
theorem d9_120 : decode prog_2_method_15_code 120 = .ok (.ireturn, 1) := by decide +kernel
theorem ef_9 (m : MethodId) (x0 : Addr) (x1 : Int32) (x2 : Int32) (x3 : Int32) : entryFrame m #[(.ref x0), (.int x1), (.int x2), (.int x3)] 6 = mkF m 0 #[.val (.ref x0), .val (.int x1), .val (.int x2), .val (.int x3), .unset, .unset] [] := by first | (simp [entryFrame, mkF, argsToLocals, Value.category]; done) | rfl
set_option maxRecDepth 65536 in
set_option maxHeartbeats 40000000 in
theorem rx4 (l : Launch) (Z : State) (a0 : Array Value) (hw : ∀ d ∈ tables_1, d.before a0 Z = true) (a : Addr) (x0 : Int32) (x1 : Int32) (x2 : Int32) (h0 : Heap) (n0 : Nat) (q0 q1 : Addr) (d : Nat → Addr) (sz vr : Int32) (f : Nat → Int → Value) (e0_ : x0 = 0) (e1_ : x1 = 0) (e2_ : x2 = 1) (B : OwnB Z h0 n0 a q0 q1 d sz vr f) (hsz : sz = 2) (r_4_856 : f 4 856 = (.int (-1 : Int32))) :
    Con l Z (⟨"com/example/glacis/glacis/analysis/Bdd", "node", "(III)I"⟩ : MethodName) prog_2_method_15_code 6 (some .int) [] ({ frames := 2, cells := 0, slots := 0, locals := 32 } : Room) #[(.ref a), (.int x0), (.int x1), (.int x2)] h0 (fun v h L => v = some (.int (2 : Int32)) ∧ Fr n0 L ∧ OwnB Z h n0 a q0 q1 d (3 : Int32) vr (own_up (own_up (own_up (own_up (own_up f 0 2 (.int (0 : Int32))) 1 2 (.int (0 : Int32))) 2 2 (.int (1 : Int32))) 3 2 (.int (-1 : Int32))) 4 856 (.int (2 : Int32)))) := by
  refine Con.of (plainFor_of_name pn_Bdd) ?_
  intro p e s m below meth c s₁ hx hby hml hown hnm hret hlk hZ X0 e0
  refine Go.cast (ef_9 m a x0 x1 x2) ?_
  replace hown : s.vm.findClass "com/example/glacis/glacis/analysis/Bdd" = some m.cls := hown
  subst e0_ e1_ e2_ hsz
  show Go p e below _ (s₁.setTop (mkF m 0 #[.val (.ref a), .val (.int (0 : Int32)), .val (.int (0 : Int32)), .val (.int (1 : Int32)), .unset, .unset] []))
  refine Go.iloadN (pc' := 1) X0 hx hby d9_0 rfl rfl ?_
  refine Go.istore (Ls' := #[.val (.ref a), .val (.int (0 : Int32)), .val (.int (0 : Int32)), .val (.int (1 : Int32)), .val (.int (0 : Int32)), .unset]) (pc' := 3) X0 hx hby d9_1 rfl rfl ?_
  refine Go.iloadN (pc' := 4) X0 hx hby d9_3 rfl rfl ?_
  refine Go.iloadN (pc' := 5) X0 hx hby d9_4 rfl rfl ?_
  refine Go.icmpN (pc' := 8) X0 hx hby d9_5 rfl (show ¬ ((0 : Int32) = (1 : Int32)) from by decide) ?_
  refine Go.aloadN (pc' := 9) X0 hx hby d9_8 rfl rfl rfl ?_
  refine Go.iloadN (pc' := 10) X0 hx hby d9_9 rfl rfl ?_
  refine Go.iloadN (pc' := 11) X0 hx hby d9_10 rfl rfl ?_
  refine Go.iloadN (pc' := 12) X0 hx hby d9_11 rfl rfl ?_
  refine Go.callP (C := "com/example/glacis/glacis/analysis/Bdd") (pc' := 15) (a := a) (W := 0) (argsL := [(.int (0 : Int32)), (.int (0 : Int32)), (.int (1 : Int32))]) (rest := []) X0 hx hby hZ hown (hw _ (List.mem_of_getElem? (i := 90) rfl)) (hw _ (List.mem_of_getElem? (i := 91) rfl)) (own_sel (w := (⟨"com/example/glacis/glacis/analysis/Bdd", "test", "(I)I"⟩ : MethodName)) (y := (⟨"com/example/glacis/glacis/analysis/Bdd", "find", "(III)I"⟩ : MethodName)) (hw _ (List.mem_of_getElem? (i := 84) rfl)) rfl (hw _ (List.mem_of_getElem? (i := 92) rfl)) (hw _ (List.mem_of_getElem? (i := 91) rfl)) (by decide)) (hw _ (List.mem_of_getElem? (i := 92) rfl)) (hw _ (List.mem_of_getElem? (i := 4) rfl)) (hw _ (List.mem_of_getElem? (i := 93) rfl)) (by decide) (rx5 l Z a0 hw a (0 : Int32) (0 : Int32) (1 : Int32) h0 n0 q0 q1 d (2 : Int32) vr f rfl rfl rfl B r_4_856) e0 B.2.2.2.2.1 (by decide) (by decide) (by rw [hml]; rfl) pd_8 rfl rfl rfl (Nat.le_of_eq rfl) d9_12 rfl (by decide) (by decide) ?_
  rintro r3 T4 L5 X6 ⟨rfl, N1, B2⟩
  show Go p e below _ (T4.setTop (mkF m 15 #[.val (.ref a), .val (.int (0 : Int32)), .val (.int (0 : Int32)), .val (.int (1 : Int32)), .val (.int (0 : Int32)), .unset] [(.int (-1 : Int32))]))
  refine Go.istore (Ls' := #[.val (.ref a), .val (.int (0 : Int32)), .val (.int (0 : Int32)), .val (.int (1 : Int32)), .val (.int (-1 : Int32)), .unset]) (pc' := 17) X6 hx hby d9_15 rfl rfl ?_
  refine Go.iload (pc' := 19) X6 hx hby d9_17 rfl rfl ?_
  refine Go.iconst (pc' := 20) X6 hx hby d9_19 rfl (v := (-1 : Int32)) (by decide) ?_
  refine Go.icmpN (pc' := 23) X6 hx hby d9_20 rfl (show ¬ ((-1 : Int32) ≠ (-1 : Int32)) from by decide) ?_
  refine Go.aloadN (pc' := 24) X6 hx hby d9_23 rfl rfl rfl ?_
  refine Go.getF (pc' := 27) X6 hx hby hZ hown (hw _ (List.mem_of_getElem? (i := 22) rfl)) Via.refl rfl B2.2.2.2.2.2.2.2.2.1 d9_24 rfl ?_
  intro T7 X8 e9
  show Go p e below _ (T7.setTop (mkF m 27 #[.val (.ref a), .val (.int (0 : Int32)), .val (.int (0 : Int32)), .val (.int (1 : Int32)), .val (.int (-1 : Int32)), .unset] [(.int (2 : Int32))]))
  refine Go.aloadN (pc' := 28) X8 hx hby d9_27 rfl rfl rfl ?_
  refine Go.getF (pc' := 31) X8 hx hby hZ hown (hw _ (List.mem_of_getElem? (i := 12) rfl)) Via.refl e9 B2.f0 d9_28 rfl ?_
  intro T10 X11 e12
  show Go p e below _ (T10.setTop (mkF m 31 #[.val (.ref a), .val (.int (0 : Int32)), .val (.int (0 : Int32)), .val (.int (1 : Int32)), .val (.int (-1 : Int32)), .unset] [(.ref (d 0)), (.int (2 : Int32))]))
  refine Go.alen (pc' := 32) (zv := (1024 : Int32)) X11 hx hby hZ e12 B2.a0 d9_31 rfl (by decide) ?_
  refine Go.icmpY (pc' := 39) X11 hx hby d9_32 (by decide) (by decide) (show (2 : Int32) ≠ (1024 : Int32) from by decide) ?_
  refine Go.aloadN (pc' := 40) X11 hx hby d9_39 rfl rfl rfl ?_
  refine Go.getF (pc' := 43) X11 hx hby hZ hown (hw _ (List.mem_of_getElem? (i := 22) rfl)) Via.refl e12 B2.2.2.2.2.2.2.2.2.1 d9_40 rfl ?_
  intro T13 X14 e15
  show Go p e below _ (T13.setTop (mkF m 43 #[.val (.ref a), .val (.int (0 : Int32)), .val (.int (0 : Int32)), .val (.int (1 : Int32)), .val (.int (-1 : Int32)), .unset] [(.int (2 : Int32))]))
  refine Go.istore (Ls' := #[.val (.ref a), .val (.int (0 : Int32)), .val (.int (0 : Int32)), .val (.int (1 : Int32)), .val (.int (2 : Int32)), .unset]) (pc' := 45) X14 hx hby d9_43 rfl rfl ?_
  refine Go.aloadN (pc' := 46) X14 hx hby d9_45 rfl rfl rfl ?_
  refine Go.dup (pc' := 47) X14 hx hby d9_46 rfl rfl ?_
  refine Go.getF (pc' := 50) X14 hx hby hZ hown (hw _ (List.mem_of_getElem? (i := 22) rfl)) Via.refl e15 B2.2.2.2.2.2.2.2.2.1 d9_47 rfl ?_
  intro T16 X17 e18
  show Go p e below _ (T16.setTop (mkF m 50 #[.val (.ref a), .val (.int (0 : Int32)), .val (.int (0 : Int32)), .val (.int (1 : Int32)), .val (.int (2 : Int32)), .unset] [(.int (2 : Int32)), (.ref a)]))
  refine Go.iconst (pc' := 51) X17 hx hby d9_50 rfl (v := (1 : Int32)) (by decide) ?_
  refine Go.iadd (pc' := 52) X17 hx hby d9_51 rfl ?_
  change Go p e below _ (T16.setTop (mkF m 52 #[.val (.ref a), .val (.int (0 : Int32)), .val (.int (0 : Int32)), .val (.int (1 : Int32)), .val (.int (2 : Int32)), .unset] [(.int (3 : Int32)), (.ref a)]))
  refine Go.putF (pc' := 55) (ty := .int) X17 hx hby hZ hown (hw _ (List.mem_of_getElem? (i := 22) rfl)) Via.refl e18 B2.2.2.2.2.2.2.2.2.1 B2.2.2.2.2.1 (Or.inl (hw _ (List.mem_of_getElem? (i := 23) rfl))) (hw _ (List.mem_of_getElem? (i := 3) rfl)) (by decide) rfl rfl d9_52 rfl ?_
  intro T19 h20 X21 e22 W23
  have z24 : n0 ≤ h20.size := by rw [Wr.size W23]; exact (Nat.le_trans B2.2.2.2.1 (Nat.le_of_lt B2.2.2.2.2.1.lt))
  have f25 : Fld Z h20 a "com/example/glacis/glacis/analysis/Bdd" "size" "I" (.int (3 : Int32)) := Fld.same W23 B2.2.2.2.2.2.2.2.2.1
  have N26 : Fr n0 _ := Fr.snoc X21 (Fr.app (Fr.nil _) N1) B2.2.2.2.1
  show Go p e below _ (T19.setTop (mkF m 55 #[.val (.ref a), .val (.int (0 : Int32)), .val (.int (0 : Int32)), .val (.int (1 : Int32)), .val (.int (2 : Int32)), .unset] []))
  have B27 : OwnB Z h20 n0 a q0 q1 d (3 : Int32) vr f := B2.set_size hw W23
  refine Go.aloadN (pc' := 56) X21 hx hby d9_55 rfl rfl rfl ?_
  refine Go.getF (pc' := 59) X21 hx hby hZ hown (hw _ (List.mem_of_getElem? (i := 12) rfl)) Via.refl e22 B27.f0 d9_56 rfl ?_
  intro T28 X29 e30
  show Go p e below _ (T28.setTop (mkF m 59 #[.val (.ref a), .val (.int (0 : Int32)), .val (.int (0 : Int32)), .val (.int (1 : Int32)), .val (.int (2 : Int32)), .unset] [(.ref (d 0))]))
  refine Go.iload (pc' := 61) X29 hx hby d9_59 rfl rfl ?_
  refine Go.iloadN (pc' := 62) X29 hx hby d9_61 rfl rfl ?_
  refine Go.iastore (pc' := 63) (i := 2) X29 hx hby hZ e30 B27.a0 d9_62 rfl (by decide) (by decide) (by decide) ?_
  intro T31 h32 X33 e34 W35 A36
  have N38 : Fr n0 _ := Fr.snoc X33 N26 (B27.2.1 0 (by decide))
  have B37 : OwnB Z h32 n0 a q0 q1 d (3 : Int32) vr (own_up f 0 2 (.int (0 : Int32))) := B27.st hw (k := 0) (by decide) W35 A36
  show Go p e below _ (T31.setTop (mkF m 63 #[.val (.ref a), .val (.int (0 : Int32)), .val (.int (0 : Int32)), .val (.int (1 : Int32)), .val (.int (2 : Int32)), .unset] []))
  refine Go.aloadN (pc' := 64) X33 hx hby d9_63 rfl rfl rfl ?_
  refine Go.getF (pc' := 67) X33 hx hby hZ hown (hw _ (List.mem_of_getElem? (i := 14) rfl)) Via.refl e34 B37.f1 d9_64 rfl ?_
  intro T39 X40 e41
  show Go p e below _ (T39.setTop (mkF m 67 #[.val (.ref a), .val (.int (0 : Int32)), .val (.int (0 : Int32)), .val (.int (1 : Int32)), .val (.int (2 : Int32)), .unset] [(.ref (d 1))]))
  refine Go.iload (pc' := 69) X40 hx hby d9_67 rfl rfl ?_
  refine Go.iloadN (pc' := 70) X40 hx hby d9_69 rfl rfl ?_
  refine Go.iastore (pc' := 71) (i := 2) X40 hx hby hZ e41 B37.a1 d9_70 rfl (by decide) (by decide) (by decide) ?_
  intro T42 h43 X44 e45 W46 A47
  have N49 : Fr n0 _ := Fr.snoc X44 N38 (B37.2.1 1 (by decide))
  have B48 : OwnB Z h43 n0 a q0 q1 d (3 : Int32) vr (own_up (own_up f 0 2 (.int (0 : Int32))) 1 2 (.int (0 : Int32))) := B37.st hw (k := 1) (by decide) W46 A47
  show Go p e below _ (T42.setTop (mkF m 71 #[.val (.ref a), .val (.int (0 : Int32)), .val (.int (0 : Int32)), .val (.int (1 : Int32)), .val (.int (2 : Int32)), .unset] []))
  refine Go.aloadN (pc' := 72) X44 hx hby d9_71 rfl rfl rfl ?_
  refine Go.getF (pc' := 75) X44 hx hby hZ hown (hw _ (List.mem_of_getElem? (i := 16) rfl)) Via.refl e45 B48.f2 d9_72 rfl ?_
  intro T50 X51 e52
  show Go p e below _ (T50.setTop (mkF m 75 #[.val (.ref a), .val (.int (0 : Int32)), .val (.int (0 : Int32)), .val (.int (1 : Int32)), .val (.int (2 : Int32)), .unset] [(.ref (d 2))]))
  refine Go.iload (pc' := 77) X51 hx hby d9_75 rfl rfl ?_
  refine Go.iloadN (pc' := 78) X51 hx hby d9_77 rfl rfl ?_
  refine Go.iastore (pc' := 79) (i := 2) X51 hx hby hZ e52 B48.a2 d9_78 rfl (by decide) (by decide) (by decide) ?_
  intro T53 h54 X55 e56 W57 A58
  have N60 : Fr n0 _ := Fr.snoc X55 N49 (B48.2.1 2 (by decide))
  have B59 : OwnB Z h54 n0 a q0 q1 d (3 : Int32) vr (own_up (own_up (own_up f 0 2 (.int (0 : Int32))) 1 2 (.int (0 : Int32))) 2 2 (.int (1 : Int32))) := B48.st hw (k := 2) (by decide) W57 A58
  show Go p e below _ (T53.setTop (mkF m 79 #[.val (.ref a), .val (.int (0 : Int32)), .val (.int (0 : Int32)), .val (.int (1 : Int32)), .val (.int (2 : Int32)), .unset] []))
  refine Go.iloadN (pc' := 80) X55 hx hby d9_79 rfl rfl ?_
  refine Go.iloadN (pc' := 81) X55 hx hby d9_80 rfl rfl ?_
  refine Go.iloadN (pc' := 82) X55 hx hby d9_81 rfl rfl ?_
  refine Go.callS (pc' := 85) (W := 0) (argsL := [(.int (0 : Int32)), (.int (0 : Int32)), (.int (1 : Int32))]) (rest := []) X55 hx hby hZ hown (hw _ (List.mem_of_getElem? (i := 94) rfl)) (hw _ (List.mem_of_getElem? (i := 95) rfl)) (hw _ (List.mem_of_getElem? (i := 4) rfl)) (hw _ (List.mem_of_getElem? (i := 96) rfl)) (by decide) (rx6 l Z a0 hw  (0 : Int32) (0 : Int32) (1 : Int32) h54 rfl rfl rfl) e56 (by decide) (by decide) (by rw [hml]; rfl) pd_8 rfl rfl rfl (Nat.le_of_eq rfl) d9_82 rfl (by decide) (by decide) ?_
  rintro r62 T63 L64 X65 ⟨rfl, rfl, e61⟩
  rw [List.append_nil] at X65
  show Go p e below _ (T63.setTop (mkF m 85 #[.val (.ref a), .val (.int (0 : Int32)), .val (.int (0 : Int32)), .val (.int (1 : Int32)), .val (.int (2 : Int32)), .unset] [(.int (-1028445352 : Int32))]))
  refine Go.aloadN (pc' := 86) X65 hx hby d9_85 rfl rfl rfl ?_
  refine Go.getF (pc' := 89) X65 hx hby hZ hown (hw _ (List.mem_of_getElem? (i := 20) rfl)) Via.refl e61 B59.f4 d9_86 rfl ?_
  intro T66 X67 e68
  show Go p e below _ (T66.setTop (mkF m 89 #[.val (.ref a), .val (.int (0 : Int32)), .val (.int (0 : Int32)), .val (.int (1 : Int32)), .val (.int (2 : Int32)), .unset] [(.ref (d 4)), (.int (-1028445352 : Int32))]))
  refine Go.alen (pc' := 90) (zv := (1024 : Int32)) X67 hx hby hZ e68 B59.a4 d9_89 rfl (by decide) ?_
  refine Go.iconst (pc' := 91) X67 hx hby d9_90 rfl (v := (1 : Int32)) (by decide) ?_
  refine Go.isub (pc' := 92) X67 hx hby d9_91 rfl ?_
  change Go p e below _ (T66.setTop (mkF m 92 #[.val (.ref a), .val (.int (0 : Int32)), .val (.int (0 : Int32)), .val (.int (1 : Int32)), .val (.int (2 : Int32)), .unset] [(.int (1023 : Int32)), (.int (-1028445352 : Int32))]))
  refine Go.iand (pc' := 93) X67 hx hby d9_92 rfl ?_
  change Go p e below _ (T66.setTop (mkF m 93 #[.val (.ref a), .val (.int (0 : Int32)), .val (.int (0 : Int32)), .val (.int (1 : Int32)), .val (.int (2 : Int32)), .unset] [(.int (856 : Int32))]))
  refine Go.istore (Ls' := #[.val (.ref a), .val (.int (0 : Int32)), .val (.int (0 : Int32)), .val (.int (1 : Int32)), .val (.int (2 : Int32)), .val (.int (856 : Int32))]) (pc' := 95) X67 hx hby d9_93 rfl rfl ?_
  refine Go.aloadN (pc' := 96) X67 hx hby d9_95 rfl rfl rfl ?_
  refine Go.getF (pc' := 99) X67 hx hby hZ hown (hw _ (List.mem_of_getElem? (i := 18) rfl)) Via.refl e68 B59.f3 d9_96 rfl ?_
  intro T69 X70 e71
  show Go p e below _ (T69.setTop (mkF m 99 #[.val (.ref a), .val (.int (0 : Int32)), .val (.int (0 : Int32)), .val (.int (1 : Int32)), .val (.int (2 : Int32)), .val (.int (856 : Int32))] [(.ref (d 3))]))
  refine Go.iload (pc' := 101) X70 hx hby d9_99 rfl rfl ?_
  refine Go.aloadN (pc' := 102) X70 hx hby d9_101 rfl rfl rfl ?_
  refine Go.getF (pc' := 105) X70 hx hby hZ hown (hw _ (List.mem_of_getElem? (i := 20) rfl)) Via.refl e71 B59.f4 d9_102 rfl ?_
  intro T72 X73 e74
  show Go p e below _ (T72.setTop (mkF m 105 #[.val (.ref a), .val (.int (0 : Int32)), .val (.int (0 : Int32)), .val (.int (1 : Int32)), .val (.int (2 : Int32)), .val (.int (856 : Int32))] [(.ref (d 4)), (.int (2 : Int32)), (.ref (d 3))]))
  refine Go.iload (pc' := 107) X73 hx hby d9_105 rfl rfl ?_
  refine Go.iaload (pc' := 108) (i := 856) (v := (.int (-1 : Int32))) X73 hx hby hZ e74 B59.a4 d9_107 rfl (by decide) (by decide) (by decide) r_4_856 ?_
  refine Go.iastore (pc' := 109) (i := 2) X73 hx hby hZ e74 B59.a3 d9_108 rfl (by decide) (by decide) (by decide) ?_
  intro T75 h76 X77 e78 W79 A80
  have N82 : Fr n0 _ := Fr.snoc X77 N60 (B59.2.1 3 (by decide))
  have B81 : OwnB Z h76 n0 a q0 q1 d (3 : Int32) vr (own_up (own_up (own_up (own_up f 0 2 (.int (0 : Int32))) 1 2 (.int (0 : Int32))) 2 2 (.int (1 : Int32))) 3 2 (.int (-1 : Int32))) := B59.st hw (k := 3) (by decide) W79 A80
  show Go p e below _ (T75.setTop (mkF m 109 #[.val (.ref a), .val (.int (0 : Int32)), .val (.int (0 : Int32)), .val (.int (1 : Int32)), .val (.int (2 : Int32)), .val (.int (856 : Int32))] []))
  refine Go.aloadN (pc' := 110) X77 hx hby d9_109 rfl rfl rfl ?_
  refine Go.getF (pc' := 113) X77 hx hby hZ hown (hw _ (List.mem_of_getElem? (i := 20) rfl)) Via.refl e78 B81.f4 d9_110 rfl ?_
  intro T83 X84 e85
  show Go p e below _ (T83.setTop (mkF m 113 #[.val (.ref a), .val (.int (0 : Int32)), .val (.int (0 : Int32)), .val (.int (1 : Int32)), .val (.int (2 : Int32)), .val (.int (856 : Int32))] [(.ref (d 4))]))
  refine Go.iload (pc' := 115) X84 hx hby d9_113 rfl rfl ?_
  refine Go.iload (pc' := 117) X84 hx hby d9_115 rfl rfl ?_
  refine Go.iastore (pc' := 118) (i := 856) X84 hx hby hZ e85 B81.a4 d9_117 rfl (by decide) (by decide) (by decide) ?_
  intro T86 h87 X88 e89 W90 A91
  have N93 : Fr n0 _ := Fr.snoc X88 N82 (B81.2.1 4 (by decide))
  have B92 : OwnB Z h87 n0 a q0 q1 d (3 : Int32) vr (own_up (own_up (own_up (own_up (own_up f 0 2 (.int (0 : Int32))) 1 2 (.int (0 : Int32))) 2 2 (.int (1 : Int32))) 3 2 (.int (-1 : Int32))) 4 856 (.int (2 : Int32))) := B81.st hw (k := 4) (by decide) W90 A91
  show Go p e below _ (T86.setTop (mkF m 118 #[.val (.ref a), .val (.int (0 : Int32)), .val (.int (0 : Int32)), .val (.int (1 : Int32)), .val (.int (2 : Int32)), .val (.int (856 : Int32))] []))
  refine Go.iload (pc' := 120) X88 hx hby d9_118 rfl rfl ?_
  exact Go.retI X88 hx hby hlk hret d9_120 (by decide) (by decide) ⟨rfl, N93, by rw [e89]; exact B92⟩
theorem d8_0 : decode prog_2_method_3_code 0 = .ok (.aload_n 0, 1) := by decide +kernel
theorem d8_1 : decode prog_2_method_3_code 1 = .ok (.iload_n 1, 1) := by decide +kernel
theorem d8_2 : decode prog_2_method_3_code 2 = .ok (.iconst 0, 1) := by decide +kernel
theorem d8_3 : decode prog_2_method_3_code 3 = .ok (.iconst 1, 1) := by decide +kernel
theorem d8_4 : decode prog_2_method_3_code 4 = .ok (.invokevirtual 81, 3) := by decide +kernel
theorem d8_7 : decode prog_2_method_3_code 7 = .ok (.ireturn, 1) := by decide +kernel
theorem ef_8 (m : MethodId) (x0 : Addr) (x1 : Int32) : entryFrame m #[(.ref x0), (.int x1)] 2 = mkF m 0 #[.val (.ref x0), .val (.int x1)] [] := by first | (simp [entryFrame, mkF, argsToLocals, Value.category]; done) | rfl
set_option maxRecDepth 65536 in
set_option maxHeartbeats 40000000 in
theorem rx3 (l : Launch) (Z : State) (a0 : Array Value) (hw : ∀ d ∈ tables_1, d.before a0 Z = true) (a : Addr) (x0 : Int32) (h0 : Heap) (n0 : Nat) (q0 q1 : Addr) (d : Nat → Addr) (sz vr : Int32) (f : Nat → Int → Value) (e0_ : x0 = 0) (B : OwnB Z h0 n0 a q0 q1 d sz vr f) (hsz : sz = 2) (r_4_856 : f 4 856 = (.int (-1 : Int32))) :
    Con l Z (⟨"com/example/glacis/glacis/analysis/Bdd", "test", "(I)I"⟩ : MethodName) prog_2_method_3_code 2 (some .int) [] ({ frames := 3, cells := 0, slots := 0, locals := 49 } : Room) #[(.ref a), (.int x0)] h0 (fun v h L => v = some (.int (2 : Int32)) ∧ Fr n0 L ∧ OwnB Z h n0 a q0 q1 d (3 : Int32) vr (own_up (own_up (own_up (own_up (own_up f 0 2 (.int (0 : Int32))) 1 2 (.int (0 : Int32))) 2 2 (.int (1 : Int32))) 3 2 (.int (-1 : Int32))) 4 856 (.int (2 : Int32)))) := by
  refine Con.of (plainFor_of_name pn_Bdd) ?_
  intro p e s m below meth c s₁ hx hby hml hown hnm hret hlk hZ X0 e0
  refine Go.cast (ef_8 m a x0) ?_
  replace hown : s.vm.findClass "com/example/glacis/glacis/analysis/Bdd" = some m.cls := hown
  subst e0_ hsz
  show Go p e below _ (s₁.setTop (mkF m 0 #[.val (.ref a), .val (.int (0 : Int32))] []))
  refine Go.aloadN (pc' := 1) X0 hx hby d8_0 rfl rfl rfl ?_
  refine Go.iloadN (pc' := 2) X0 hx hby d8_1 rfl rfl ?_
  refine Go.iconst (pc' := 3) X0 hx hby d8_2 rfl (v := (0 : Int32)) (by decide) ?_
  refine Go.iconst (pc' := 4) X0 hx hby d8_3 rfl (v := (1 : Int32)) (by decide) ?_
  refine Go.callP (C := "com/example/glacis/glacis/analysis/Bdd") (pc' := 7) (a := a) (W := 0) (argsL := [(.int (0 : Int32)), (.int (0 : Int32)), (.int (1 : Int32))]) (rest := []) X0 hx hby hZ hown (hw _ (List.mem_of_getElem? (i := 86) rfl)) (hw _ (List.mem_of_getElem? (i := 87) rfl)) (own_sel (w := (⟨"com/example/glacis/glacis/analysis/Bdd", "test", "(I)I"⟩ : MethodName)) (y := (⟨"com/example/glacis/glacis/analysis/Bdd", "node", "(III)I"⟩ : MethodName)) (hw _ (List.mem_of_getElem? (i := 84) rfl)) rfl (hw _ (List.mem_of_getElem? (i := 88) rfl)) (hw _ (List.mem_of_getElem? (i := 87) rfl)) (by decide)) (hw _ (List.mem_of_getElem? (i := 88) rfl)) (hw _ (List.mem_of_getElem? (i := 4) rfl)) (hw _ (List.mem_of_getElem? (i := 89) rfl)) (by decide) (rx4 l Z a0 hw a (0 : Int32) (0 : Int32) (1 : Int32) h0 n0 q0 q1 d (2 : Int32) vr f rfl rfl rfl B rfl r_4_856) e0 B.2.2.2.2.1 (by decide) (by decide) (by rw [hml]; rfl) pd_8 rfl rfl rfl (Nat.le_of_eq rfl) d8_4 rfl (by decide) (by decide) ?_
  rintro r3 T4 L5 X6 ⟨rfl, N1, B2⟩
  show Go p e below _ (T4.setTop (mkF m 7 #[.val (.ref a), .val (.int (0 : Int32))] [(.int (2 : Int32))]))
  exact Go.retI X6 hx hby hlk hret d8_7 (by decide) (by decide) ⟨rfl, (Fr.app (Fr.nil _) N1), B2⟩
set_option maxRecDepth 65536 in
set_option maxHeartbeats 40000000 in
theorem rx10 (l : Launch) (Z : State) (a0 : Array Value) (hw : ∀ d ∈ tables_1, d.before a0 Z = true) (x0 : Int32) (x1 : Int32) (x2 : Int32) (h0 : Heap) (e0_ : x0 = 1) (e1_ : x1 = 0) (e2_ : x2 = 1) :
    Con l Z (⟨"com/example/glacis/glacis/analysis/Bdd", "hash", "(III)I"⟩ : MethodName) prog_2_method_19_code 4 (some .int) [] ({ frames := 0, cells := 0, slots := 0, locals := 0 } : Room) #[(.int x0), (.int x1), (.int x2)] h0 (PQ (some (.int (1626007098 : Int32))) h0) := by
  refine Con.of (plainFor_of_name pn_Bdd) ?_
  intro p e s m below meth c s₁ hx hby hml hown hnm hret hlk hZ X0 e0
  refine Go.cast (ef_11 m x0 x1 x2) ?_
  replace hown : s.vm.findClass "com/example/glacis/glacis/analysis/Bdd" = some m.cls := hown
  subst e0_ e1_ e2_
  show Go p e below _ (s₁.setTop (mkF m 0 #[.val (.int (1 : Int32)), .val (.int (0 : Int32)), .val (.int (1 : Int32)), .unset] []))
  refine Go.iloadN (pc' := 1) X0 hx hby d11_0 rfl rfl ?_
  refine Go.ldcI (pc' := 3) X0 hx hby d11_1 rfl hown (mvT hZ (hw _ (List.mem_of_getElem? (i := 97) rfl))) ?_
  refine Go.imul (pc' := 4) X0 hx hby d11_3 rfl ?_
  refine Go.iloadN (pc' := 5) X0 hx hby d11_4 rfl rfl ?_
  refine Go.ldcI (pc' := 7) X0 hx hby d11_5 rfl hown (mvT hZ (hw _ (List.mem_of_getElem? (i := 98) rfl))) ?_
  refine Go.imul (pc' := 8) X0 hx hby d11_7 rfl ?_
  refine Go.iadd (pc' := 9) X0 hx hby d11_8 rfl ?_
  refine Go.iloadN (pc' := 10) X0 hx hby d11_9 rfl rfl ?_
  refine Go.ldcI (pc' := 12) X0 hx hby d11_10 rfl hown (mvT hZ (hw _ (List.mem_of_getElem? (i := 99) rfl))) ?_
  refine Go.imul (pc' := 13) X0 hx hby d11_12 rfl ?_
  refine Go.iadd (pc' := 14) X0 hx hby d11_13 rfl ?_
  refine Go.istoreN (Ls' := #[.val (.int (1 : Int32)), .val (.int (0 : Int32)), .val (.int (1 : Int32)), .val (.int ((((1 : Int32) * (-1640531535 : Int32)) + ((0 : Int32) * (-2048144777 : Int32))) + ((1 : Int32) * (-1028477379 : Int32))))]) (pc' := 15) X0 hx hby d11_14 rfl rfl ?_
  refine Go.iloadN (pc' := 16) X0 hx hby d11_15 rfl rfl ?_
  refine Go.iloadN (pc' := 17) X0 hx hby d11_16 rfl rfl ?_
  refine Go.bipush (pc' := 19) X0 hx hby d11_17 rfl (v := (15 : Int32)) (by decide) ?_
  refine Go.iushr (pc' := 20) X0 hx hby d11_19 rfl ?_
  refine Go.ixor (pc' := 21) X0 hx hby d11_20 rfl ?_
  exact Go.retI X0 hx hby hlk hret d11_21 (by decide) (by decide) ⟨by rw [show (((((1 : Int32) * (-1640531535 : Int32)) + ((0 : Int32) * (-2048144777 : Int32))) + ((1 : Int32) * (-1028477379 : Int32))) ^^^ ((((((1 : Int32) * (-1640531535 : Int32)) + ((0 : Int32) * (-2048144777 : Int32))) + ((1 : Int32) * (-1028477379 : Int32))).toUInt32 >>> ((15 : Int32) &&& 31).toUInt32).toInt32)) = (1626007098 : Int32) from by decide +kernel], rfl, e0⟩
set_option maxRecDepth 65536 in
set_option maxHeartbeats 40000000 in
theorem rx9 (l : Launch) (Z : State) (a0 : Array Value) (hw : ∀ d ∈ tables_1, d.before a0 Z = true) (a : Addr) (x0 : Int32) (x1 : Int32) (x2 : Int32) (h0 : Heap) (n0 : Nat) (q0 q1 : Addr) (d : Nat → Addr) (sz vr : Int32) (f : Nat → Int → Value) (e0_ : x0 = 1) (e1_ : x1 = 0) (e2_ : x2 = 1) (B : OwnB Z h0 n0 a q0 q1 d sz vr f) (r_4_570 : f 4 570 = (.int (-1 : Int32))) :
    Con l Z (⟨"com/example/glacis/glacis/analysis/Bdd", "find", "(III)I"⟩ : MethodName) prog_2_method_16_code 6 (some .int) [] ({ frames := 1, cells := 0, slots := 0, locals := 15 } : Room) #[(.ref a), (.int x0), (.int x1), (.int x2)] h0 (fun v h L => v = some (.int (-1 : Int32)) ∧ Fr n0 L ∧ OwnB Z h n0 a q0 q1 d sz vr f) := by
  refine Con.of (plainFor_of_name pn_Bdd) ?_
  intro p e s m below meth c s₁ hx hby hml hown hnm hret hlk hZ X0 e0
  refine Go.cast (ef_10 m a x0 x1 x2) ?_
  replace hown : s.vm.findClass "com/example/glacis/glacis/analysis/Bdd" = some m.cls := hown
  subst e0_ e1_ e2_
  show Go p e below _ (s₁.setTop (mkF m 0 #[.val (.ref a), .val (.int (1 : Int32)), .val (.int (0 : Int32)), .val (.int (1 : Int32)), .unset, .unset] []))
  refine Go.iloadN (pc' := 1) X0 hx hby d10_0 rfl rfl ?_
  refine Go.iloadN (pc' := 2) X0 hx hby d10_1 rfl rfl ?_
  refine Go.iloadN (pc' := 3) X0 hx hby d10_2 rfl rfl ?_
  refine Go.callS (pc' := 6) (W := 0) (argsL := [(.int (1 : Int32)), (.int (0 : Int32)), (.int (1 : Int32))]) (rest := []) X0 hx hby hZ hown (hw _ (List.mem_of_getElem? (i := 94) rfl)) (hw _ (List.mem_of_getElem? (i := 95) rfl)) (hw _ (List.mem_of_getElem? (i := 4) rfl)) (hw _ (List.mem_of_getElem? (i := 96) rfl)) (by decide) (rx10 l Z a0 hw  (1 : Int32) (0 : Int32) (1 : Int32) h0 rfl rfl rfl) e0 (by decide) (by decide) (by rw [hml]; rfl) pd_8 rfl rfl rfl (Nat.le_of_eq rfl) d10_3 rfl (by decide) (by decide) ?_
  rintro r2 T3 L4 X5 ⟨rfl, rfl, e1⟩
  rw [List.append_nil] at X5
  show Go p e below _ (T3.setTop (mkF m 6 #[.val (.ref a), .val (.int (1 : Int32)), .val (.int (0 : Int32)), .val (.int (1 : Int32)), .unset, .unset] [(.int (1626007098 : Int32))]))
  refine Go.aloadN (pc' := 7) X5 hx hby d10_6 rfl rfl rfl ?_
  refine Go.getF (pc' := 10) X5 hx hby hZ hown (hw _ (List.mem_of_getElem? (i := 20) rfl)) Via.refl e1 B.f4 d10_7 rfl ?_
  intro T6 X7 e8
  show Go p e below _ (T6.setTop (mkF m 10 #[.val (.ref a), .val (.int (1 : Int32)), .val (.int (0 : Int32)), .val (.int (1 : Int32)), .unset, .unset] [(.ref (d 4)), (.int (1626007098 : Int32))]))
  refine Go.alen (pc' := 11) (zv := (1024 : Int32)) X7 hx hby hZ e8 B.a4 d10_10 rfl (by decide) ?_
  refine Go.iconst (pc' := 12) X7 hx hby d10_11 rfl (v := (1 : Int32)) (by decide) ?_
  refine Go.isub (pc' := 13) X7 hx hby d10_12 rfl ?_
  change Go p e below _ (T6.setTop (mkF m 13 #[.val (.ref a), .val (.int (1 : Int32)), .val (.int (0 : Int32)), .val (.int (1 : Int32)), .unset, .unset] [(.int (1023 : Int32)), (.int (1626007098 : Int32))]))
  refine Go.iand (pc' := 14) X7 hx hby d10_13 rfl ?_
  change Go p e below _ (T6.setTop (mkF m 14 #[.val (.ref a), .val (.int (1 : Int32)), .val (.int (0 : Int32)), .val (.int (1 : Int32)), .unset, .unset] [(.int (570 : Int32))]))
  refine Go.istore (Ls' := #[.val (.ref a), .val (.int (1 : Int32)), .val (.int (0 : Int32)), .val (.int (1 : Int32)), .val (.int (570 : Int32)), .unset]) (pc' := 16) X7 hx hby d10_14 rfl rfl ?_
  refine Go.aloadN (pc' := 17) X7 hx hby d10_16 rfl rfl rfl ?_
  refine Go.getF (pc' := 20) X7 hx hby hZ hown (hw _ (List.mem_of_getElem? (i := 20) rfl)) Via.refl e8 B.f4 d10_17 rfl ?_
  intro T9 X10 e11
  show Go p e below _ (T9.setTop (mkF m 20 #[.val (.ref a), .val (.int (1 : Int32)), .val (.int (0 : Int32)), .val (.int (1 : Int32)), .val (.int (570 : Int32)), .unset] [(.ref (d 4))]))
  refine Go.iload (pc' := 22) X10 hx hby d10_20 rfl rfl ?_
  refine Go.iaload (pc' := 23) (i := 570) (v := (.int (-1 : Int32))) X10 hx hby hZ e11 B.a4 d10_22 rfl (by decide) (by decide) (by decide) r_4_570 ?_
  refine Go.istore (Ls' := #[.val (.ref a), .val (.int (1 : Int32)), .val (.int (0 : Int32)), .val (.int (1 : Int32)), .val (.int (570 : Int32)), .val (.int (-1 : Int32))]) (pc' := 25) X10 hx hby d10_23 rfl rfl ?_
  refine Go.iload (pc' := 27) X10 hx hby d10_25 rfl rfl ?_
  refine Go.iconst (pc' := 28) X10 hx hby d10_27 rfl (v := (-1 : Int32)) (by decide) ?_
  refine Go.icmpY (pc' := 79) X10 hx hby d10_28 (by decide) (by decide) (show (-1 : Int32) = (-1 : Int32) from by decide) ?_
  refine Go.iconst (pc' := 80) X10 hx hby d10_79 rfl (v := (-1 : Int32)) (by decide) ?_
  exact Go.retI X10 hx hby hlk hret d10_80 (by decide) (by decide) ⟨rfl, (Fr.nil _), by rw [e11]; exact B⟩
set_option maxRecDepth 65536 in
set_option maxHeartbeats 40000000 in
theorem rx8 (l : Launch) (Z : State) (a0 : Array Value) (hw : ∀ d ∈ tables_1, d.before a0 Z = true) (a : Addr) (x0 : Int32) (x1 : Int32) (x2 : Int32) (h0 : Heap) (n0 : Nat) (q0 q1 : Addr) (d : Nat → Addr) (sz vr : Int32) (f : Nat → Int → Value) (e0_ : x0 = 1) (e1_ : x1 = 0) (e2_ : x2 = 1) (B : OwnB Z h0 n0 a q0 q1 d sz vr f) (hsz : sz = 3) (r_4_570 : f 4 570 = (.int (-1 : Int32))) :
    Con l Z (⟨"com/example/glacis/glacis/analysis/Bdd", "node", "(III)I"⟩ : MethodName) prog_2_method_15_code 6 (some .int) [] ({ frames := 2, cells := 0, slots := 0, locals := 32 } : Room) #[(.ref a), (.int x0), (.int x1), (.int x2)] h0 (fun v h L => v = some (.int (3 : Int32)) ∧ Fr n0 L ∧ OwnB Z h n0 a q0 q1 d (4 : Int32) vr (own_up (own_up (own_up (own_up (own_up f 0 3 (.int (1 : Int32))) 1 3 (.int (0 : Int32))) 2 3 (.int (1 : Int32))) 3 3 (.int (-1 : Int32))) 4 570 (.int (3 : Int32)))) := by
  refine Con.of (plainFor_of_name pn_Bdd) ?_
  intro p e s m below meth c s₁ hx hby hml hown hnm hret hlk hZ X0 e0
  refine Go.cast (ef_9 m a x0 x1 x2) ?_
  replace hown : s.vm.findClass "com/example/glacis/glacis/analysis/Bdd" = some m.cls := hown
  subst e0_ e1_ e2_ hsz
  show Go p e below _ (s₁.setTop (mkF m 0 #[.val (.ref a), .val (.int (1 : Int32)), .val (.int (0 : Int32)), .val (.int (1 : Int32)), .unset, .unset] []))
  refine Go.iloadN (pc' := 1) X0 hx hby d9_0 rfl rfl ?_
  refine Go.istore (Ls' := #[.val (.ref a), .val (.int (1 : Int32)), .val (.int (0 : Int32)), .val (.int (1 : Int32)), .val (.int (0 : Int32)), .unset]) (pc' := 3) X0 hx hby d9_1 rfl rfl ?_
  refine Go.iloadN (pc' := 4) X0 hx hby d9_3 rfl rfl ?_
  refine Go.iloadN (pc' := 5) X0 hx hby d9_4 rfl rfl ?_
  refine Go.icmpN (pc' := 8) X0 hx hby d9_5 rfl (show ¬ ((0 : Int32) = (1 : Int32)) from by decide) ?_
  refine Go.aloadN (pc' := 9) X0 hx hby d9_8 rfl rfl rfl ?_
  refine Go.iloadN (pc' := 10) X0 hx hby d9_9 rfl rfl ?_
  refine Go.iloadN (pc' := 11) X0 hx hby d9_10 rfl rfl ?_
  refine Go.iloadN (pc' := 12) X0 hx hby d9_11 rfl rfl ?_
  refine Go.callP (C := "com/example/glacis/glacis/analysis/Bdd") (pc' := 15) (a := a) (W := 0) (argsL := [(.int (1 : Int32)), (.int (0 : Int32)), (.int (1 : Int32))]) (rest := []) X0 hx hby hZ hown (hw _ (List.mem_of_getElem? (i := 90) rfl)) (hw _ (List.mem_of_getElem? (i := 91) rfl)) (own_sel (w := (⟨"com/example/glacis/glacis/analysis/Bdd", "test", "(I)I"⟩ : MethodName)) (y := (⟨"com/example/glacis/glacis/analysis/Bdd", "find", "(III)I"⟩ : MethodName)) (hw _ (List.mem_of_getElem? (i := 84) rfl)) rfl (hw _ (List.mem_of_getElem? (i := 92) rfl)) (hw _ (List.mem_of_getElem? (i := 91) rfl)) (by decide)) (hw _ (List.mem_of_getElem? (i := 92) rfl)) (hw _ (List.mem_of_getElem? (i := 4) rfl)) (hw _ (List.mem_of_getElem? (i := 93) rfl)) (by decide) (rx9 l Z a0 hw a (1 : Int32) (0 : Int32) (1 : Int32) h0 n0 q0 q1 d (3 : Int32) vr f rfl rfl rfl B r_4_570) e0 B.2.2.2.2.1 (by decide) (by decide) (by rw [hml]; rfl) pd_8 rfl rfl rfl (Nat.le_of_eq rfl) d9_12 rfl (by decide) (by decide) ?_
  rintro r3 T4 L5 X6 ⟨rfl, N1, B2⟩
  show Go p e below _ (T4.setTop (mkF m 15 #[.val (.ref a), .val (.int (1 : Int32)), .val (.int (0 : Int32)), .val (.int (1 : Int32)), .val (.int (0 : Int32)), .unset] [(.int (-1 : Int32))]))
  refine Go.istore (Ls' := #[.val (.ref a), .val (.int (1 : Int32)), .val (.int (0 : Int32)), .val (.int (1 : Int32)), .val (.int (-1 : Int32)), .unset]) (pc' := 17) X6 hx hby d9_15 rfl rfl ?_
  refine Go.iload (pc' := 19) X6 hx hby d9_17 rfl rfl ?_
  refine Go.iconst (pc' := 20) X6 hx hby d9_19 rfl (v := (-1 : Int32)) (by decide) ?_
  refine Go.icmpN (pc' := 23) X6 hx hby d9_20 rfl (show ¬ ((-1 : Int32) ≠ (-1 : Int32)) from by decide) ?_
  refine Go.aloadN (pc' := 24) X6 hx hby d9_23 rfl rfl rfl ?_
  refine Go.getF (pc' := 27) X6 hx hby hZ hown (hw _ (List.mem_of_getElem? (i := 22) rfl)) Via.refl rfl B2.2.2.2.2.2.2.2.2.1 d9_24 rfl ?_
  intro T7 X8 e9
  show Go p e below _ (T7.setTop (mkF m 27 #[.val (.ref a), .val (.int (1 : Int32)), .val (.int (0 : Int32)), .val (.int (1 : Int32)), .val (.int (-1 : Int32)), .unset] [(.int (3 : Int32))]))
  refine Go.aloadN (pc' := 28) X8 hx hby d9_27 rfl rfl rfl ?_
  refine Go.getF (pc' := 31) X8 hx hby hZ hown (hw _ (List.mem_of_getElem? (i := 12) rfl)) Via.refl e9 B2.f0 d9_28 rfl ?_
  intro T10 X11 e12
  show Go p e below _ (T10.setTop (mkF m 31 #[.val (.ref a), .val (.int (1 : Int32)), .val (.int (0 : Int32)), .val (.int (1 : Int32)), .val (.int (-1 : Int32)), .unset] [(.ref (d 0)), (.int (3 : Int32))]))
  refine Go.alen (pc' := 32) (zv := (1024 : Int32)) X11 hx hby hZ e12 B2.a0 d9_31 rfl (by decide) ?_
  refine Go.icmpY (pc' := 39) X11 hx hby d9_32 (by decide) (by decide) (show (3 : Int32) ≠ (1024 : Int32) from by decide) ?_
  refine Go.aloadN (pc' := 40) X11 hx hby d9_39 rfl rfl rfl ?_
  refine Go.getF (pc' := 43) X11 hx hby hZ hown (hw _ (List.mem_of_getElem? (i := 22) rfl)) Via.refl e12 B2.2.2.2.2.2.2.2.2.1 d9_40 rfl ?_
  intro T13 X14 e15
  show Go p e below _ (T13.setTop (mkF m 43 #[.val (.ref a), .val (.int (1 : Int32)), .val (.int (0 : Int32)), .val (.int (1 : Int32)), .val (.int (-1 : Int32)), .unset] [(.int (3 : Int32))]))
  refine Go.istore (Ls' := #[.val (.ref a), .val (.int (1 : Int32)), .val (.int (0 : Int32)), .val (.int (1 : Int32)), .val (.int (3 : Int32)), .unset]) (pc' := 45) X14 hx hby d9_43 rfl rfl ?_
  refine Go.aloadN (pc' := 46) X14 hx hby d9_45 rfl rfl rfl ?_
  refine Go.dup (pc' := 47) X14 hx hby d9_46 rfl rfl ?_
  refine Go.getF (pc' := 50) X14 hx hby hZ hown (hw _ (List.mem_of_getElem? (i := 22) rfl)) Via.refl e15 B2.2.2.2.2.2.2.2.2.1 d9_47 rfl ?_
  intro T16 X17 e18
  show Go p e below _ (T16.setTop (mkF m 50 #[.val (.ref a), .val (.int (1 : Int32)), .val (.int (0 : Int32)), .val (.int (1 : Int32)), .val (.int (3 : Int32)), .unset] [(.int (3 : Int32)), (.ref a)]))
  refine Go.iconst (pc' := 51) X17 hx hby d9_50 rfl (v := (1 : Int32)) (by decide) ?_
  refine Go.iadd (pc' := 52) X17 hx hby d9_51 rfl ?_
  change Go p e below _ (T16.setTop (mkF m 52 #[.val (.ref a), .val (.int (1 : Int32)), .val (.int (0 : Int32)), .val (.int (1 : Int32)), .val (.int (3 : Int32)), .unset] [(.int (4 : Int32)), (.ref a)]))
  refine Go.putF (pc' := 55) (ty := .int) X17 hx hby hZ hown (hw _ (List.mem_of_getElem? (i := 22) rfl)) Via.refl e18 B2.2.2.2.2.2.2.2.2.1 B2.2.2.2.2.1 (Or.inl (hw _ (List.mem_of_getElem? (i := 23) rfl))) (hw _ (List.mem_of_getElem? (i := 3) rfl)) (by decide) rfl rfl d9_52 rfl ?_
  intro T19 h20 X21 e22 W23
  have z24 : n0 ≤ h20.size := by rw [Wr.size W23]; exact (Nat.le_trans B2.2.2.2.1 (Nat.le_of_lt B2.2.2.2.2.1.lt))
  have f25 : Fld Z h20 a "com/example/glacis/glacis/analysis/Bdd" "size" "I" (.int (4 : Int32)) := Fld.same W23 B2.2.2.2.2.2.2.2.2.1
  have N26 : Fr n0 _ := Fr.snoc X21 (Fr.app (Fr.nil _) N1) B2.2.2.2.1
  show Go p e below _ (T19.setTop (mkF m 55 #[.val (.ref a), .val (.int (1 : Int32)), .val (.int (0 : Int32)), .val (.int (1 : Int32)), .val (.int (3 : Int32)), .unset] []))
  have B27 : OwnB Z h20 n0 a q0 q1 d (4 : Int32) vr f := B2.set_size hw W23
  refine Go.aloadN (pc' := 56) X21 hx hby d9_55 rfl rfl rfl ?_
  refine Go.getF (pc' := 59) X21 hx hby hZ hown (hw _ (List.mem_of_getElem? (i := 12) rfl)) Via.refl e22 B27.f0 d9_56 rfl ?_
  intro T28 X29 e30
  show Go p e below _ (T28.setTop (mkF m 59 #[.val (.ref a), .val (.int (1 : Int32)), .val (.int (0 : Int32)), .val (.int (1 : Int32)), .val (.int (3 : Int32)), .unset] [(.ref (d 0))]))
  refine Go.iload (pc' := 61) X29 hx hby d9_59 rfl rfl ?_
  refine Go.iloadN (pc' := 62) X29 hx hby d9_61 rfl rfl ?_
  refine Go.iastore (pc' := 63) (i := 3) X29 hx hby hZ e30 B27.a0 d9_62 rfl (by decide) (by decide) (by decide) ?_
  intro T31 h32 X33 e34 W35 A36
  have N38 : Fr n0 _ := Fr.snoc X33 N26 (B27.2.1 0 (by decide))
  have B37 : OwnB Z h32 n0 a q0 q1 d (4 : Int32) vr (own_up f 0 3 (.int (1 : Int32))) := B27.st hw (k := 0) (by decide) W35 A36
  show Go p e below _ (T31.setTop (mkF m 63 #[.val (.ref a), .val (.int (1 : Int32)), .val (.int (0 : Int32)), .val (.int (1 : Int32)), .val (.int (3 : Int32)), .unset] []))
  refine Go.aloadN (pc' := 64) X33 hx hby d9_63 rfl rfl rfl ?_
  refine Go.getF (pc' := 67) X33 hx hby hZ hown (hw _ (List.mem_of_getElem? (i := 14) rfl)) Via.refl e34 B37.f1 d9_64 rfl ?_
  intro T39 X40 e41
  show Go p e below _ (T39.setTop (mkF m 67 #[.val (.ref a), .val (.int (1 : Int32)), .val (.int (0 : Int32)), .val (.int (1 : Int32)), .val (.int (3 : Int32)), .unset] [(.ref (d 1))]))
  refine Go.iload (pc' := 69) X40 hx hby d9_67 rfl rfl ?_
  refine Go.iloadN (pc' := 70) X40 hx hby d9_69 rfl rfl ?_
  refine Go.iastore (pc' := 71) (i := 3) X40 hx hby hZ e41 B37.a1 d9_70 rfl (by decide) (by decide) (by decide) ?_
  intro T42 h43 X44 e45 W46 A47
  have N49 : Fr n0 _ := Fr.snoc X44 N38 (B37.2.1 1 (by decide))
  have B48 : OwnB Z h43 n0 a q0 q1 d (4 : Int32) vr (own_up (own_up f 0 3 (.int (1 : Int32))) 1 3 (.int (0 : Int32))) := B37.st hw (k := 1) (by decide) W46 A47
  show Go p e below _ (T42.setTop (mkF m 71 #[.val (.ref a), .val (.int (1 : Int32)), .val (.int (0 : Int32)), .val (.int (1 : Int32)), .val (.int (3 : Int32)), .unset] []))
  refine Go.aloadN (pc' := 72) X44 hx hby d9_71 rfl rfl rfl ?_
  refine Go.getF (pc' := 75) X44 hx hby hZ hown (hw _ (List.mem_of_getElem? (i := 16) rfl)) Via.refl e45 B48.f2 d9_72 rfl ?_
  intro T50 X51 e52
  show Go p e below _ (T50.setTop (mkF m 75 #[.val (.ref a), .val (.int (1 : Int32)), .val (.int (0 : Int32)), .val (.int (1 : Int32)), .val (.int (3 : Int32)), .unset] [(.ref (d 2))]))
  refine Go.iload (pc' := 77) X51 hx hby d9_75 rfl rfl ?_
  refine Go.iloadN (pc' := 78) X51 hx hby d9_77 rfl rfl ?_
  refine Go.iastore (pc' := 79) (i := 3) X51 hx hby hZ e52 B48.a2 d9_78 rfl (by decide) (by decide) (by decide) ?_
  intro T53 h54 X55 e56 W57 A58
  have N60 : Fr n0 _ := Fr.snoc X55 N49 (B48.2.1 2 (by decide))
  have B59 : OwnB Z h54 n0 a q0 q1 d (4 : Int32) vr (own_up (own_up (own_up f 0 3 (.int (1 : Int32))) 1 3 (.int (0 : Int32))) 2 3 (.int (1 : Int32))) := B48.st hw (k := 2) (by decide) W57 A58
  show Go p e below _ (T53.setTop (mkF m 79 #[.val (.ref a), .val (.int (1 : Int32)), .val (.int (0 : Int32)), .val (.int (1 : Int32)), .val (.int (3 : Int32)), .unset] []))
  refine Go.iloadN (pc' := 80) X55 hx hby d9_79 rfl rfl ?_
  refine Go.iloadN (pc' := 81) X55 hx hby d9_80 rfl rfl ?_
  refine Go.iloadN (pc' := 82) X55 hx hby d9_81 rfl rfl ?_
  refine Go.callS (pc' := 85) (W := 0) (argsL := [(.int (1 : Int32)), (.int (0 : Int32)), (.int (1 : Int32))]) (rest := []) X55 hx hby hZ hown (hw _ (List.mem_of_getElem? (i := 94) rfl)) (hw _ (List.mem_of_getElem? (i := 95) rfl)) (hw _ (List.mem_of_getElem? (i := 4) rfl)) (hw _ (List.mem_of_getElem? (i := 96) rfl)) (by decide) (rx10 l Z a0 hw  (1 : Int32) (0 : Int32) (1 : Int32) h54 rfl rfl rfl) e56 (by decide) (by decide) (by rw [hml]; rfl) pd_8 rfl rfl rfl (Nat.le_of_eq rfl) d9_82 rfl (by decide) (by decide) ?_
  rintro r62 T63 L64 X65 ⟨rfl, rfl, e61⟩
  rw [List.append_nil] at X65
  show Go p e below _ (T63.setTop (mkF m 85 #[.val (.ref a), .val (.int (1 : Int32)), .val (.int (0 : Int32)), .val (.int (1 : Int32)), .val (.int (3 : Int32)), .unset] [(.int (1626007098 : Int32))]))
  refine Go.aloadN (pc' := 86) X65 hx hby d9_85 rfl rfl rfl ?_
  refine Go.getF (pc' := 89) X65 hx hby hZ hown (hw _ (List.mem_of_getElem? (i := 20) rfl)) Via.refl e61 B59.f4 d9_86 rfl ?_
  intro T66 X67 e68
  show Go p e below _ (T66.setTop (mkF m 89 #[.val (.ref a), .val (.int (1 : Int32)), .val (.int (0 : Int32)), .val (.int (1 : Int32)), .val (.int (3 : Int32)), .unset] [(.ref (d 4)), (.int (1626007098 : Int32))]))
  refine Go.alen (pc' := 90) (zv := (1024 : Int32)) X67 hx hby hZ e68 B59.a4 d9_89 rfl (by decide) ?_
  refine Go.iconst (pc' := 91) X67 hx hby d9_90 rfl (v := (1 : Int32)) (by decide) ?_
  refine Go.isub (pc' := 92) X67 hx hby d9_91 rfl ?_
  change Go p e below _ (T66.setTop (mkF m 92 #[.val (.ref a), .val (.int (1 : Int32)), .val (.int (0 : Int32)), .val (.int (1 : Int32)), .val (.int (3 : Int32)), .unset] [(.int (1023 : Int32)), (.int (1626007098 : Int32))]))
  refine Go.iand (pc' := 93) X67 hx hby d9_92 rfl ?_
  change Go p e below _ (T66.setTop (mkF m 93 #[.val (.ref a), .val (.int (1 : Int32)), .val (.int (0 : Int32)), .val (.int (1 : Int32)), .val (.int (3 : Int32)), .unset] [(.int (570 : Int32))]))
  refine Go.istore (Ls' := #[.val (.ref a), .val (.int (1 : Int32)), .val (.int (0 : Int32)), .val (.int (1 : Int32)), .val (.int (3 : Int32)), .val (.int (570 : Int32))]) (pc' := 95) X67 hx hby d9_93 rfl rfl ?_
  refine Go.aloadN (pc' := 96) X67 hx hby d9_95 rfl rfl rfl ?_
  refine Go.getF (pc' := 99) X67 hx hby hZ hown (hw _ (List.mem_of_getElem? (i := 18) rfl)) Via.refl e68 B59.f3 d9_96 rfl ?_
  intro T69 X70 e71
  show Go p e below _ (T69.setTop (mkF m 99 #[.val (.ref a), .val (.int (1 : Int32)), .val (.int (0 : Int32)), .val (.int (1 : Int32)), .val (.int (3 : Int32)), .val (.int (570 : Int32))] [(.ref (d 3))]))
  refine Go.iload (pc' := 101) X70 hx hby d9_99 rfl rfl ?_
  refine Go.aloadN (pc' := 102) X70 hx hby d9_101 rfl rfl rfl ?_
  refine Go.getF (pc' := 105) X70 hx hby hZ hown (hw _ (List.mem_of_getElem? (i := 20) rfl)) Via.refl e71 B59.f4 d9_102 rfl ?_
  intro T72 X73 e74
  show Go p e below _ (T72.setTop (mkF m 105 #[.val (.ref a), .val (.int (1 : Int32)), .val (.int (0 : Int32)), .val (.int (1 : Int32)), .val (.int (3 : Int32)), .val (.int (570 : Int32))] [(.ref (d 4)), (.int (3 : Int32)), (.ref (d 3))]))
  refine Go.iload (pc' := 107) X73 hx hby d9_105 rfl rfl ?_
  refine Go.iaload (pc' := 108) (i := 570) (v := (.int (-1 : Int32))) X73 hx hby hZ e74 B59.a4 d9_107 rfl (by decide) (by decide) (by decide) r_4_570 ?_
  refine Go.iastore (pc' := 109) (i := 3) X73 hx hby hZ e74 B59.a3 d9_108 rfl (by decide) (by decide) (by decide) ?_
  intro T75 h76 X77 e78 W79 A80
  have N82 : Fr n0 _ := Fr.snoc X77 N60 (B59.2.1 3 (by decide))
  have B81 : OwnB Z h76 n0 a q0 q1 d (4 : Int32) vr (own_up (own_up (own_up (own_up f 0 3 (.int (1 : Int32))) 1 3 (.int (0 : Int32))) 2 3 (.int (1 : Int32))) 3 3 (.int (-1 : Int32))) := B59.st hw (k := 3) (by decide) W79 A80
  show Go p e below _ (T75.setTop (mkF m 109 #[.val (.ref a), .val (.int (1 : Int32)), .val (.int (0 : Int32)), .val (.int (1 : Int32)), .val (.int (3 : Int32)), .val (.int (570 : Int32))] []))
  refine Go.aloadN (pc' := 110) X77 hx hby d9_109 rfl rfl rfl ?_
  refine Go.getF (pc' := 113) X77 hx hby hZ hown (hw _ (List.mem_of_getElem? (i := 20) rfl)) Via.refl e78 B81.f4 d9_110 rfl ?_
  intro T83 X84 e85
  show Go p e below _ (T83.setTop (mkF m 113 #[.val (.ref a), .val (.int (1 : Int32)), .val (.int (0 : Int32)), .val (.int (1 : Int32)), .val (.int (3 : Int32)), .val (.int (570 : Int32))] [(.ref (d 4))]))
  refine Go.iload (pc' := 115) X84 hx hby d9_113 rfl rfl ?_
  refine Go.iload (pc' := 117) X84 hx hby d9_115 rfl rfl ?_
  refine Go.iastore (pc' := 118) (i := 570) X84 hx hby hZ e85 B81.a4 d9_117 rfl (by decide) (by decide) (by decide) ?_
  intro T86 h87 X88 e89 W90 A91
  have N93 : Fr n0 _ := Fr.snoc X88 N82 (B81.2.1 4 (by decide))
  have B92 : OwnB Z h87 n0 a q0 q1 d (4 : Int32) vr (own_up (own_up (own_up (own_up (own_up f 0 3 (.int (1 : Int32))) 1 3 (.int (0 : Int32))) 2 3 (.int (1 : Int32))) 3 3 (.int (-1 : Int32))) 4 570 (.int (3 : Int32))) := B81.st hw (k := 4) (by decide) W90 A91
  show Go p e below _ (T86.setTop (mkF m 118 #[.val (.ref a), .val (.int (1 : Int32)), .val (.int (0 : Int32)), .val (.int (1 : Int32)), .val (.int (3 : Int32)), .val (.int (570 : Int32))] []))
  refine Go.iload (pc' := 120) X88 hx hby d9_118 rfl rfl ?_
  exact Go.retI X88 hx hby hlk hret d9_120 (by decide) (by decide) ⟨rfl, N93, by rw [e89]; exact B92⟩
set_option maxRecDepth 65536 in
set_option maxHeartbeats 40000000 in
theorem rx7 (l : Launch) (Z : State) (a0 : Array Value) (hw : ∀ d ∈ tables_1, d.before a0 Z = true) (a : Addr) (x0 : Int32) (h0 : Heap) (n0 : Nat) (q0 q1 : Addr) (d : Nat → Addr) (sz vr : Int32) (f : Nat → Int → Value) (e0_ : x0 = 1) (B : OwnB Z h0 n0 a q0 q1 d sz vr f) (hsz : sz = 3) (r_4_570 : f 4 570 = (.int (-1 : Int32))) :
    Con l Z (⟨"com/example/glacis/glacis/analysis/Bdd", "test", "(I)I"⟩ : MethodName) prog_2_method_3_code 2 (some .int) [] ({ frames := 3, cells := 0, slots := 0, locals := 49 } : Room) #[(.ref a), (.int x0)] h0 (fun v h L => v = some (.int (3 : Int32)) ∧ Fr n0 L ∧ OwnB Z h n0 a q0 q1 d (4 : Int32) vr (own_up (own_up (own_up (own_up (own_up f 0 3 (.int (1 : Int32))) 1 3 (.int (0 : Int32))) 2 3 (.int (1 : Int32))) 3 3 (.int (-1 : Int32))) 4 570 (.int (3 : Int32)))) := by
  refine Con.of (plainFor_of_name pn_Bdd) ?_
  intro p e s m below meth c s₁ hx hby hml hown hnm hret hlk hZ X0 e0
  refine Go.cast (ef_8 m a x0) ?_
  replace hown : s.vm.findClass "com/example/glacis/glacis/analysis/Bdd" = some m.cls := hown
  subst e0_ hsz
  show Go p e below _ (s₁.setTop (mkF m 0 #[.val (.ref a), .val (.int (1 : Int32))] []))
  refine Go.aloadN (pc' := 1) X0 hx hby d8_0 rfl rfl rfl ?_
  refine Go.iloadN (pc' := 2) X0 hx hby d8_1 rfl rfl ?_
  refine Go.iconst (pc' := 3) X0 hx hby d8_2 rfl (v := (0 : Int32)) (by decide) ?_
  refine Go.iconst (pc' := 4) X0 hx hby d8_3 rfl (v := (1 : Int32)) (by decide) ?_
  refine Go.callP (C := "com/example/glacis/glacis/analysis/Bdd") (pc' := 7) (a := a) (W := 0) (argsL := [(.int (1 : Int32)), (.int (0 : Int32)), (.int (1 : Int32))]) (rest := []) X0 hx hby hZ hown (hw _ (List.mem_of_getElem? (i := 86) rfl)) (hw _ (List.mem_of_getElem? (i := 87) rfl)) (own_sel (w := (⟨"com/example/glacis/glacis/analysis/Bdd", "test", "(I)I"⟩ : MethodName)) (y := (⟨"com/example/glacis/glacis/analysis/Bdd", "node", "(III)I"⟩ : MethodName)) (hw _ (List.mem_of_getElem? (i := 84) rfl)) rfl (hw _ (List.mem_of_getElem? (i := 88) rfl)) (hw _ (List.mem_of_getElem? (i := 87) rfl)) (by decide)) (hw _ (List.mem_of_getElem? (i := 88) rfl)) (hw _ (List.mem_of_getElem? (i := 4) rfl)) (hw _ (List.mem_of_getElem? (i := 89) rfl)) (by decide) (rx8 l Z a0 hw a (1 : Int32) (0 : Int32) (1 : Int32) h0 n0 q0 q1 d (3 : Int32) vr f rfl rfl rfl B rfl r_4_570) e0 B.2.2.2.2.1 (by decide) (by decide) (by rw [hml]; rfl) pd_8 rfl rfl rfl (Nat.le_of_eq rfl) d8_4 rfl (by decide) (by decide) ?_
  rintro r3 T4 L5 X6 ⟨rfl, N1, B2⟩
  show Go p e below _ (T4.setTop (mkF m 7 #[.val (.ref a), .val (.int (1 : Int32))] [(.int (3 : Int32))]))
  exact Go.retI X6 hx hby hlk hret d8_7 (by decide) (by decide) ⟨rfl, (Fr.app (Fr.nil _) N1), B2⟩
theorem d15_0 : decode jdk_29_method_69_code 0 = .ok (.iload_n 0, 1) := by decide +kernel
theorem d15_1 : decode jdk_29_method_69_code 1 = .ok (.iload_n 1, 1) := by decide +kernel
theorem d15_2 : decode jdk_29_method_69_code 2 = .ok (.if_icmp .gt 7, 3) := by decide +kernel
theorem d15_5 : decode jdk_29_method_69_code 5 = .ok (.iload_n 0, 1) := by decide +kernel
theorem d15_6 : decode jdk_29_method_69_code 6 = .ok (.goto 4, 3) := by decide +kernel
theorem d15_9 : decode jdk_29_method_69_code 9 = .ok (.iload_n 1, 1) := by decide +kernel
theorem d15_10 : decode jdk_29_method_69_code 10 = .ok (.ireturn, 1) := by decide +kernel
theorem ef_15 (m : MethodId) (x0 : Int32) (x1 : Int32) : entryFrame m #[(.int x0), (.int x1)] 2 = mkF m 0 #[.val (.int x0), .val (.int x1)] [] := by first | (simp [entryFrame, mkF, argsToLocals, Value.category]; done) | rfl
set_option maxRecDepth 65536 in
set_option maxHeartbeats 40000000 in
theorem rx14 (l : Launch) (Z : State) (a0 : Array Value) (hw : ∀ d ∈ tables_1, d.before a0 Z = true) (x0 : Int32) (x1 : Int32) (h0 : Heap) (e0_ : x0 = 2) (e1_ : x1 = 3) :
    Con l Z (⟨"java/lang/Math", "min", "(II)I"⟩ : MethodName) jdk_29_method_69_code 2 (some .int) [] ({ frames := 0, cells := 0, slots := 0, locals := 0 } : Room) #[(.int x0), (.int x1)] h0 (PQ (some (.int (2 : Int32))) h0) := by
  refine Con.of (Jvm.Free.JP.mathPlain rfl (by decide +kernel)) ?_
  intro p e s m below meth c s₁ hx hby hml hown hnm hret hlk hZ X0 e0
  refine Go.cast (ef_15 m x0 x1) ?_
  replace hown : s.vm.findClass "java/lang/Math" = some m.cls := hown
  subst e0_ e1_
  show Go p e below _ (s₁.setTop (mkF m 0 #[.val (.int (2 : Int32)), .val (.int (3 : Int32))] []))
  refine Go.iloadN (pc' := 1) X0 hx hby d15_0 rfl rfl ?_
  refine Go.iloadN (pc' := 2) X0 hx hby d15_1 rfl rfl ?_
  refine Go.icmpN (pc' := 5) X0 hx hby d15_2 rfl (show ¬ ((3 : Int32) < (2 : Int32)) from by decide) ?_
  refine Go.iloadN (pc' := 6) X0 hx hby d15_5 rfl rfl ?_
  refine Go.goto (pc' := 10) X0 hx hby d15_6 (by decide) (by decide) ?_
  exact Go.retI X0 hx hby hlk hret d15_10 (by decide) (by decide) ⟨rfl, rfl, e0⟩
theorem d16_0 : decode jdk_29_method_65_code 0 = .ok (.iload_n 0, 1) := by decide +kernel
theorem d16_1 : decode jdk_29_method_65_code 1 = .ok (.iload_n 1, 1) := by decide +kernel
theorem d16_2 : decode jdk_29_method_65_code 2 = .ok (.if_icmp .lt 7, 3) := by decide +kernel
theorem d16_5 : decode jdk_29_method_65_code 5 = .ok (.iload_n 0, 1) := by decide +kernel
theorem d16_6 : decode jdk_29_method_65_code 6 = .ok (.goto 4, 3) := by decide +kernel
theorem d16_9 : decode jdk_29_method_65_code 9 = .ok (.iload_n 1, 1) := by decide +kernel
theorem d16_10 : decode jdk_29_method_65_code 10 = .ok (.ireturn, 1) := by decide +kernel
theorem ef_16 (m : MethodId) (x0 : Int32) (x1 : Int32) : entryFrame m #[(.int x0), (.int x1)] 2 = mkF m 0 #[.val (.int x0), .val (.int x1)] [] := by first | (simp [entryFrame, mkF, argsToLocals, Value.category]; done) | rfl
set_option maxRecDepth 65536 in
set_option maxHeartbeats 40000000 in
theorem rx15 (l : Launch) (Z : State) (a0 : Array Value) (hw : ∀ d ∈ tables_1, d.before a0 Z = true) (x0 : Int32) (x1 : Int32) (h0 : Heap) (e0_ : x0 = 2) (e1_ : x1 = 3) :
    Con l Z (⟨"java/lang/Math", "max", "(II)I"⟩ : MethodName) jdk_29_method_65_code 2 (some .int) [] ({ frames := 0, cells := 0, slots := 0, locals := 0 } : Room) #[(.int x0), (.int x1)] h0 (PQ (some (.int (3 : Int32))) h0) := by
  refine Con.of (Jvm.Free.JP.mathPlain rfl (by decide +kernel)) ?_
  intro p e s m below meth c s₁ hx hby hml hown hnm hret hlk hZ X0 e0
  refine Go.cast (ef_16 m x0 x1) ?_
  replace hown : s.vm.findClass "java/lang/Math" = some m.cls := hown
  subst e0_ e1_
  show Go p e below _ (s₁.setTop (mkF m 0 #[.val (.int (2 : Int32)), .val (.int (3 : Int32))] []))
  refine Go.iloadN (pc' := 1) X0 hx hby d16_0 rfl rfl ?_
  refine Go.iloadN (pc' := 2) X0 hx hby d16_1 rfl rfl ?_
  refine Go.icmpY (pc' := 9) X0 hx hby d16_2 (by decide) (by decide) (show (2 : Int32) < (3 : Int32) from by decide) ?_
  refine Go.iloadN (pc' := 10) X0 hx hby d16_9 rfl rfl ?_
  exact Go.retI X0 hx hby hlk hret d16_10 (by decide) (by decide) ⟨rfl, rfl, e0⟩
theorem d14_0 : decode prog_2_method_12_code 0 = .ok (.iload_n 1, 1) := by decide +kernel
theorem d14_1 : decode prog_2_method_12_code 1 = .ok (.aload_n 0, 1) := by decide +kernel
theorem d14_2 : decode prog_2_method_12_code 2 = .ok (.getfield 42, 3) := by decide +kernel
theorem d14_5 : decode prog_2_method_12_code 5 = .ok (.arraylength, 1) := by decide +kernel
theorem d14_6 : decode prog_2_method_12_code 6 = .ok (.if_icmp .ne 73, 3) := by decide +kernel
theorem d14_9 : decode prog_2_method_12_code 9 = .ok (.iload_n 1, 1) := by decide +kernel
theorem d14_10 : decode prog_2_method_12_code 10 = .ok (.iconst 2, 1) := by decide +kernel
theorem d14_11 : decode prog_2_method_12_code 11 = .ok (.imul, 1) := by decide +kernel
theorem d14_12 : decode prog_2_method_12_code 12 = .ok (.istore 4, 2) := by decide +kernel
theorem d14_14 : decode prog_2_method_12_code 14 = .ok (.aload_n 0, 1) := by decide +kernel
theorem d14_15 : decode prog_2_method_12_code 15 = .ok (.aload_n 0, 1) := by decide +kernel
theorem d14_16 : decode prog_2_method_12_code 16 = .ok (.getfield 42, 3) := by decide +kernel
theorem d14_19 : decode prog_2_method_12_code 19 = .ok (.iload 4, 2) := by decide +kernel
theorem d14_21 : decode prog_2_method_12_code 21 = .ok (.invokestatic 121, 3) := by decide +kernel
theorem d14_24 : decode prog_2_method_12_code 24 = .ok (.putfield 42, 3) := by decide +kernel
theorem d14_27 : decode prog_2_method_12_code 27 = .ok (.aload_n 0, 1) := by decide +kernel
theorem d14_28 : decode prog_2_method_12_code 28 = .ok (.aload_n 0, 1) := by decide +kernel
theorem d14_29 : decode prog_2_method_12_code 29 = .ok (.getfield 45, 3) := by decide +kernel
theorem d14_32 : decode prog_2_method_12_code 32 = .ok (.iload 4, 2) := by decide +kernel
theorem d14_34 : decode prog_2_method_12_code 34 = .ok (.invokestatic 121, 3) := by decide +kernel
theorem d14_37 : decode prog_2_method_12_code 37 = .ok (.putfield 45, 3) := by decide +kernel
theorem d14_40 : decode prog_2_method_12_code 40 = .ok (.aload_n 0, 1) := by decide +kernel
theorem d14_41 : decode prog_2_method_12_code 41 = .ok (.aload_n 0, 1) := by decide +kernel
theorem d14_42 : decode prog_2_method_12_code 42 = .ok (.getfield 48, 3) := by decide +kernel
theorem d14_45 : decode prog_2_method_12_code 45 = .ok (.iload 4, 2) := by decide +kernel
theorem d14_47 : decode prog_2_method_12_code 47 = .ok (.invokestatic 121, 3) := by decide +kernel
theorem d14_50 : decode prog_2_method_12_code 50 = .ok (.putfield 48, 3) := by decide +kernel
theorem d14_53 : decode prog_2_method_12_code 53 = .ok (.aload_n 0, 1) := by decide +kernel
theorem d14_54 : decode prog_2_method_12_code 54 = .ok (.aload_n 0, 1) := by decide +kernel
theorem d14_55 : decode prog_2_method_12_code 55 = .ok (.getfield 51, 3) := by decide +kernel
theorem d14_58 : decode prog_2_method_12_code 58 = .ok (.iload 4, 2) := by decide +kernel
theorem d14_60 : decode prog_2_method_12_code 60 = .ok (.invokestatic 121, 3) := by decide +kernel
theorem d14_63 : decode prog_2_method_12_code 63 = .ok (.putfield 51, 3) := by decide +kernel
theorem d14_66 : decode prog_2_method_12_code 66 = .ok (.aload_n 0, 1) := by decide +kernel
theorem d14_67 : decode prog_2_method_12_code 67 = .ok (.aload_n 0, 1) := by decide +kernel
theorem d14_68 : decode prog_2_method_12_code 68 = .ok (.getfield 54, 3) := by decide +kernel
theorem d14_71 : decode prog_2_method_12_code 71 = .ok (.iload 4, 2) := by decide +kernel
theorem d14_73 : decode prog_2_method_12_code 73 = .ok (.invokestatic 121, 3) := by decide +kernel
theorem d14_76 : decode prog_2_method_12_code 76 = .ok (.putfield 54, 3) := by decide +kernel
theorem d14_79 : decode prog_2_method_12_code 79 = .ok (.aload_n 0, 1) := by decide +kernel
theorem d14_80 : decode prog_2_method_12_code 80 = .ok (.getfield 42, 3) := by decide +kernel
theorem d14_83 : decode prog_2_method_12_code 83 = .ok (.iload_n 1, 1) := by decide +kernel
theorem d14_84 : decode prog_2_method_12_code 84 = .ok (.iload_n 2, 1) := by decide +kernel
theorem d14_85 : decode prog_2_method_12_code 85 = .ok (.iload_n 3, 1) := by decide +kernel
theorem d14_86 : decode prog_2_method_12_code 86 = .ok (.invokestatic 108, 3) := by decide +kernel
theorem d14_89 : decode prog_2_method_12_code 89 = .ok (.iastore, 1) := by decide +kernel
theorem d14_90 : decode prog_2_method_12_code 90 = .ok (.aload_n 0, 1) := by decide +kernel
theorem d14_91 : decode prog_2_method_12_code 91 = .ok (.getfield 45, 3) := by decide +kernel
theorem d14_94 : decode prog_2_method_12_code 94 = .ok (.iload_n 1, 1) := by decide +kernel
theorem d14_95 : decode prog_2_method_12_code 95 = .ok (.iload_n 2, 1) := by decide +kernel
theorem d14_96 : decode prog_2_method_12_code 96 = .ok (.iload_n 3, 1) := by decide +kernel
theorem d14_97 : decode prog_2_method_12_code 97 = .ok (.invokestatic 124, 3) := by decide +kernel
theorem d14_100 : decode prog_2_method_12_code 100 = .ok (.iastore, 1) := by decide +kernel
theorem d14_101 : decode prog_2_method_12_code 101 = .ok (.aload_n 0, 1) := by decide +kernel
theorem d14_102 : decode prog_2_method_12_code 102 = .ok (.getfield 54, 3) := by decide +kernel
theorem d14_105 : decode prog_2_method_12_code 105 = .ok (.iload_n 1, 1) := by decide +kernel
theorem d14_106 : decode prog_2_method_12_code 106 = .ok (.iconst 0, 1) := by decide +kernel
theorem d14_107 : decode prog_2_method_12_code 107 = .ok (.iastore, 1) := by decide +kernel
theorem d14_108 : decode prog_2_method_12_code 108 = .ok (.iload_n 1, 1) := by decide +kernel
theorem d14_109 : decode prog_2_method_12_code 109 = .ok (.iconst 1, 1) := by decide +kernel
theorem d14_110 : decode prog_2_method_12_code 110 = .ok (.iadd, 1) := by decide +kernel
theorem d14_111 : decode prog_2_method_12_code 111 = .ok (.ireturn, 1) := by decide +kernel
theorem ef_14 (m : MethodId) (x0 : Addr) (x1 : Int32) (x2 : Int32) (x3 : Int32) : entryFrame m #[(.ref x0), (.int x1), (.int x2), (.int x3)] 5 = mkF m 0 #[.val (.ref x0), .val (.int x1), .val (.int x2), .val (.int x3), .unset] [] := by first | (simp [entryFrame, mkF, argsToLocals, Value.category]; done) | rfl
set_option maxRecDepth 65536 in
set_option maxHeartbeats 40000000 in
theorem rx13 (l : Launch) (Z : State) (a0 : Array Value) (hw : ∀ d ∈ tables_1, d.before a0 Z = true) (a : Addr) (x0 : Int32) (x1 : Int32) (x2 : Int32) (h0 : Heap) (n0 : Nat) (q0 q1 : Addr) (d : Nat → Addr) (sz vr : Int32) (f : Nat → Int → Value) (e0_ : x0 = 0) (e1_ : x1 = 2) (e2_ : x2 = 3) (B : OwnB Z h0 n0 a q0 q1 d sz vr f) :
    Con l Z (⟨"com/example/glacis/glacis/analysis/Bdd", "push", "(III)I"⟩ : MethodName) prog_2_method_12_code 5 (some .int) [] ({ frames := 1, cells := 0, slots := 0, locals := 15 } : Room) #[(.ref a), (.int x0), (.int x1), (.int x2)] h0 (fun v h L => v = some (.int (1 : Int32)) ∧ Fr n0 L ∧ OwnB Z h n0 a q0 q1 d sz vr (own_up (own_up (own_up f 7 0 (.int (2 : Int32))) 8 0 (.int (3 : Int32))) 11 0 (.int (0 : Int32)))) := by
  refine Con.of (plainFor_of_name pn_Bdd) ?_
  intro p e s m below meth c s₁ hx hby hml hown hnm hret hlk hZ X0 e0
  refine Go.cast (ef_14 m a x0 x1 x2) ?_
  replace hown : s.vm.findClass "com/example/glacis/glacis/analysis/Bdd" = some m.cls := hown
  subst e0_ e1_ e2_
  show Go p e below _ (s₁.setTop (mkF m 0 #[.val (.ref a), .val (.int (0 : Int32)), .val (.int (2 : Int32)), .val (.int (3 : Int32)), .unset] []))
  refine Go.iloadN (pc' := 1) X0 hx hby d14_0 rfl rfl ?_
  refine Go.aloadN (pc' := 2) X0 hx hby d14_1 rfl rfl rfl ?_
  refine Go.getF (pc' := 5) X0 hx hby hZ hown (hw _ (List.mem_of_getElem? (i := 44) rfl)) Via.refl e0 B.f7 d14_2 rfl ?_
  intro T1 X2 e3
  show Go p e below _ (T1.setTop (mkF m 5 #[.val (.ref a), .val (.int (0 : Int32)), .val (.int (2 : Int32)), .val (.int (3 : Int32)), .unset] [(.ref (d 7)), (.int (0 : Int32))]))
  refine Go.alen (pc' := 6) (zv := (64 : Int32)) X2 hx hby hZ e3 B.a7 d14_5 rfl (by decide) ?_
  refine Go.icmpY (pc' := 79) X2 hx hby d14_6 (by decide) (by decide) (show (0 : Int32) ≠ (64 : Int32) from by decide) ?_
  refine Go.aloadN (pc' := 80) X2 hx hby d14_79 rfl rfl rfl ?_
  refine Go.getF (pc' := 83) X2 hx hby hZ hown (hw _ (List.mem_of_getElem? (i := 44) rfl)) Via.refl e3 B.f7 d14_80 rfl ?_
  intro T4 X5 e6
  show Go p e below _ (T4.setTop (mkF m 83 #[.val (.ref a), .val (.int (0 : Int32)), .val (.int (2 : Int32)), .val (.int (3 : Int32)), .unset] [(.ref (d 7))]))
  refine Go.iloadN (pc' := 84) X5 hx hby d14_83 rfl rfl ?_
  refine Go.iloadN (pc' := 85) X5 hx hby d14_84 rfl rfl ?_
  refine Go.iloadN (pc' := 86) X5 hx hby d14_85 rfl rfl ?_
  refine Go.callS (pc' := 89) (W := 2) (argsL := [(.int (2 : Int32)), (.int (3 : Int32))]) (rest := [(.int (0 : Int32)), (.ref (d 7))]) X5 hx hby hZ hown (hw _ (List.mem_of_getElem? (i := 113) rfl)) (hw _ (List.mem_of_getElem? (i := 114) rfl)) (hw _ (List.mem_of_getElem? (i := 115) rfl)) (hw _ (List.mem_of_getElem? (i := 116) rfl)) (by decide) (rx14 l Z a0 hw  (2 : Int32) (3 : Int32) h0 rfl rfl) e6 (by decide) (by decide) (by rw [hml]; rfl) pd_6 rfl rfl rfl (Nat.le_of_eq rfl) d14_86 rfl (by decide) (by decide) ?_
  rintro r8 T9 L10 X11 ⟨rfl, rfl, e7⟩
  rw [List.append_nil] at X11
  show Go p e below _ (T9.setTop (mkF m 89 #[.val (.ref a), .val (.int (0 : Int32)), .val (.int (2 : Int32)), .val (.int (3 : Int32)), .unset] [(.int (2 : Int32)), (.int (0 : Int32)), (.ref (d 7))]))
  refine Go.iastore (pc' := 90) (i := 0) X11 hx hby hZ e7 B.a7 d14_89 rfl (by decide) (by decide) (by decide) ?_
  intro T12 h13 X14 e15 W16 A17
  have N19 : Fr n0 _ := Fr.snoc X14 (Fr.nil _) (B.2.1 7 (by decide))
  have B18 : OwnB Z h13 n0 a q0 q1 d sz vr (own_up f 7 0 (.int (2 : Int32))) := B.st hw (k := 7) (by decide) W16 A17
  show Go p e below _ (T12.setTop (mkF m 90 #[.val (.ref a), .val (.int (0 : Int32)), .val (.int (2 : Int32)), .val (.int (3 : Int32)), .unset] []))
  refine Go.aloadN (pc' := 91) X14 hx hby d14_90 rfl rfl rfl ?_
  refine Go.getF (pc' := 94) X14 hx hby hZ hown (hw _ (List.mem_of_getElem? (i := 46) rfl)) Via.refl e15 B18.f8 d14_91 rfl ?_
  intro T20 X21 e22
  show Go p e below _ (T20.setTop (mkF m 94 #[.val (.ref a), .val (.int (0 : Int32)), .val (.int (2 : Int32)), .val (.int (3 : Int32)), .unset] [(.ref (d 8))]))
  refine Go.iloadN (pc' := 95) X21 hx hby d14_94 rfl rfl ?_
  refine Go.iloadN (pc' := 96) X21 hx hby d14_95 rfl rfl ?_
  refine Go.iloadN (pc' := 97) X21 hx hby d14_96 rfl rfl ?_
  refine Go.callS (pc' := 100) (W := 2) (argsL := [(.int (2 : Int32)), (.int (3 : Int32))]) (rest := [(.int (0 : Int32)), (.ref (d 8))]) X21 hx hby hZ hown (hw _ (List.mem_of_getElem? (i := 117) rfl)) (hw _ (List.mem_of_getElem? (i := 118) rfl)) (hw _ (List.mem_of_getElem? (i := 115) rfl)) (hw _ (List.mem_of_getElem? (i := 119) rfl)) (by decide) (rx15 l Z a0 hw  (2 : Int32) (3 : Int32) h13 rfl rfl) e22 (by decide) (by decide) (by rw [hml]; rfl) pd_6 rfl rfl rfl (Nat.le_of_eq rfl) d14_97 rfl (by decide) (by decide) ?_
  rintro r24 T25 L26 X27 ⟨rfl, rfl, e23⟩
  rw [List.append_nil] at X27
  show Go p e below _ (T25.setTop (mkF m 100 #[.val (.ref a), .val (.int (0 : Int32)), .val (.int (2 : Int32)), .val (.int (3 : Int32)), .unset] [(.int (3 : Int32)), (.int (0 : Int32)), (.ref (d 8))]))
  refine Go.iastore (pc' := 101) (i := 0) X27 hx hby hZ e23 B18.a8 d14_100 rfl (by decide) (by decide) (by decide) ?_
  intro T28 h29 X30 e31 W32 A33
  have N35 : Fr n0 _ := Fr.snoc X30 N19 (B18.2.1 8 (by decide))
  have B34 : OwnB Z h29 n0 a q0 q1 d sz vr (own_up (own_up f 7 0 (.int (2 : Int32))) 8 0 (.int (3 : Int32))) := B18.st hw (k := 8) (by decide) W32 A33
  show Go p e below _ (T28.setTop (mkF m 101 #[.val (.ref a), .val (.int (0 : Int32)), .val (.int (2 : Int32)), .val (.int (3 : Int32)), .unset] []))
  refine Go.aloadN (pc' := 102) X30 hx hby d14_101 rfl rfl rfl ?_
  refine Go.getF (pc' := 105) X30 hx hby hZ hown (hw _ (List.mem_of_getElem? (i := 52) rfl)) Via.refl e31 B34.f11 d14_102 rfl ?_
  intro T36 X37 e38
  show Go p e below _ (T36.setTop (mkF m 105 #[.val (.ref a), .val (.int (0 : Int32)), .val (.int (2 : Int32)), .val (.int (3 : Int32)), .unset] [(.ref (d 11))]))
  refine Go.iloadN (pc' := 106) X37 hx hby d14_105 rfl rfl ?_
  refine Go.iconst (pc' := 107) X37 hx hby d14_106 rfl (v := (0 : Int32)) (by decide) ?_
  refine Go.iastore (pc' := 108) (i := 0) X37 hx hby hZ e38 B34.a11 d14_107 rfl (by decide) (by decide) (by decide) ?_
  intro T39 h40 X41 e42 W43 A44
  have N46 : Fr n0 _ := Fr.snoc X41 N35 (B34.2.1 11 (by decide))
  have B45 : OwnB Z h40 n0 a q0 q1 d sz vr (own_up (own_up (own_up f 7 0 (.int (2 : Int32))) 8 0 (.int (3 : Int32))) 11 0 (.int (0 : Int32))) := B34.st hw (k := 11) (by decide) W43 A44
  show Go p e below _ (T39.setTop (mkF m 108 #[.val (.ref a), .val (.int (0 : Int32)), .val (.int (2 : Int32)), .val (.int (3 : Int32)), .unset] []))
  refine Go.iloadN (pc' := 109) X41 hx hby d14_108 rfl rfl ?_
  refine Go.iconst (pc' := 110) X41 hx hby d14_109 rfl (v := (1 : Int32)) (by decide) ?_
  refine Go.iadd (pc' := 111) X41 hx hby d14_110 rfl ?_
  change Go p e below _ (T39.setTop (mkF m 111 #[.val (.ref a), .val (.int (0 : Int32)), .val (.int (2 : Int32)), .val (.int (3 : Int32)), .unset] [(.int (1 : Int32))]))
  exact Go.retI X41 hx hby hlk hret d14_111 (by decide) (by decide) ⟨rfl, N46, by rw [e42]; exact B45⟩
theorem d17_0 : decode prog_2_method_13_code 0 = .ok (.iload_n 1, 1) := by decide +kernel
theorem d17_1 : decode prog_2_method_13_code 1 = .ok (.iload_n 2, 1) := by decide +kernel
theorem d17_2 : decode prog_2_method_13_code 2 = .ok (.if_icmp .ne 8, 3) := by decide +kernel
theorem d17_5 : decode prog_2_method_13_code 5 = .ok (.iload_n 1, 1) := by decide +kernel
theorem d17_6 : decode prog_2_method_13_code 6 = .ok (.istore_n 3, 1) := by decide +kernel
theorem d17_7 : decode prog_2_method_13_code 7 = .ok (.goto 40, 3) := by decide +kernel
theorem d17_10 : decode prog_2_method_13_code 10 = .ok (.iload_n 1, 1) := by decide +kernel
theorem d17_11 : decode prog_2_method_13_code 11 = .ok (.ifCond .ne 16, 3) := by decide +kernel
theorem d17_14 : decode prog_2_method_13_code 14 = .ok (.iload_n 0, 1) := by decide +kernel
theorem d17_15 : decode prog_2_method_13_code 15 = .ok (.ifCond .ne 7, 3) := by decide +kernel
theorem d17_18 : decode prog_2_method_13_code 18 = .ok (.iconst 0, 1) := by decide +kernel
theorem d17_19 : decode prog_2_method_13_code 19 = .ok (.goto 4, 3) := by decide +kernel
theorem d17_22 : decode prog_2_method_13_code 22 = .ok (.iload_n 2, 1) := by decide +kernel
theorem d17_23 : decode prog_2_method_13_code 23 = .ok (.istore_n 3, 1) := by decide +kernel
theorem d17_24 : decode prog_2_method_13_code 24 = .ok (.goto 23, 3) := by decide +kernel
theorem d17_27 : decode prog_2_method_13_code 27 = .ok (.iload_n 1, 1) := by decide +kernel
theorem d17_28 : decode prog_2_method_13_code 28 = .ok (.iconst 1, 1) := by decide +kernel
theorem d17_29 : decode prog_2_method_13_code 29 = .ok (.if_icmp .ne 16, 3) := by decide +kernel
theorem d17_32 : decode prog_2_method_13_code 32 = .ok (.iload_n 0, 1) := by decide +kernel
theorem d17_33 : decode prog_2_method_13_code 33 = .ok (.ifCond .ne 7, 3) := by decide +kernel
theorem d17_36 : decode prog_2_method_13_code 36 = .ok (.iload_n 2, 1) := by decide +kernel
theorem d17_37 : decode prog_2_method_13_code 37 = .ok (.goto 4, 3) := by decide +kernel
theorem d17_40 : decode prog_2_method_13_code 40 = .ok (.iconst 1, 1) := by decide +kernel
theorem d17_41 : decode prog_2_method_13_code 41 = .ok (.istore_n 3, 1) := by decide +kernel
theorem d17_42 : decode prog_2_method_13_code 42 = .ok (.goto 5, 3) := by decide +kernel
theorem d17_45 : decode prog_2_method_13_code 45 = .ok (.iconst (-1), 1) := by decide +kernel
theorem d17_46 : decode prog_2_method_13_code 46 = .ok (.istore_n 3, 1) := by decide +kernel
theorem d17_47 : decode prog_2_method_13_code 47 = .ok (.iload_n 3, 1) := by decide +kernel
theorem d17_48 : decode prog_2_method_13_code 48 = .ok (.ireturn, 1) := by decide +kernel
theorem ef_17 (m : MethodId) (x0 : Int32) (x1 : Int32) (x2 : Int32) : entryFrame m #[(.int x0), (.int x1), (.int x2)] 4 = mkF m 0 #[.val (.int x0), .val (.int x1), .val (.int x2), .unset] [] := by first | (simp [entryFrame, mkF, argsToLocals, Value.category]; done) | rfl
set_option maxRecDepth 65536 in
set_option maxHeartbeats 40000000 in
theorem rx16 (l : Launch) (Z : State) (a0 : Array Value) (hw : ∀ d ∈ tables_1, d.before a0 Z = true) (x0 : Int32) (x1 : Int32) (x2 : Int32) (h0 : Heap) (e0_ : x0 = 0) (e1_ : x1 = 2) (e2_ : x2 = 3) :
    Con l Z (⟨"com/example/glacis/glacis/analysis/Bdd", "terminalCase", "(III)I"⟩ : MethodName) prog_2_method_13_code 4 (some .int) [] ({ frames := 0, cells := 0, slots := 0, locals := 0 } : Room) #[(.int x0), (.int x1), (.int x2)] h0 (PQ (some (.int (-1 : Int32))) h0) := by
  refine Con.of (plainFor_of_name pn_Bdd) ?_
  intro p e s m below meth c s₁ hx hby hml hown hnm hret hlk hZ X0 e0
  refine Go.cast (ef_17 m x0 x1 x2) ?_
  replace hown : s.vm.findClass "com/example/glacis/glacis/analysis/Bdd" = some m.cls := hown
  subst e0_ e1_ e2_
  show Go p e below _ (s₁.setTop (mkF m 0 #[.val (.int (0 : Int32)), .val (.int (2 : Int32)), .val (.int (3 : Int32)), .unset] []))
  refine Go.iloadN (pc' := 1) X0 hx hby d17_0 rfl rfl ?_
  refine Go.iloadN (pc' := 2) X0 hx hby d17_1 rfl rfl ?_
  refine Go.icmpY (pc' := 10) X0 hx hby d17_2 (by decide) (by decide) (show (2 : Int32) ≠ (3 : Int32) from by decide) ?_
  refine Go.iloadN (pc' := 11) X0 hx hby d17_10 rfl rfl ?_
  refine Go.ifY (pc' := 27) X0 hx hby d17_11 (by decide) (by decide) (show (2 : Int32) ≠ 0 from by decide) ?_
  refine Go.iloadN (pc' := 28) X0 hx hby d17_27 rfl rfl ?_
  refine Go.iconst (pc' := 29) X0 hx hby d17_28 rfl (v := (1 : Int32)) (by decide) ?_
  refine Go.icmpY (pc' := 45) X0 hx hby d17_29 (by decide) (by decide) (show (2 : Int32) ≠ (1 : Int32) from by decide) ?_
  refine Go.iconst (pc' := 46) X0 hx hby d17_45 rfl (v := (-1 : Int32)) (by decide) ?_
  refine Go.istoreN (Ls' := #[.val (.int (0 : Int32)), .val (.int (2 : Int32)), .val (.int (3 : Int32)), .val (.int (-1 : Int32))]) (pc' := 47) X0 hx hby d17_46 rfl rfl ?_
  refine Go.iloadN (pc' := 48) X0 hx hby d17_47 rfl rfl ?_
  exact Go.retI X0 hx hby hlk hret d17_48 (by decide) (by decide) ⟨rfl, rfl, e0⟩
set_option maxRecDepth 65536 in
set_option maxHeartbeats 40000000 in
theorem rx18 (l : Launch) (Z : State) (a0 : Array Value) (hw : ∀ d ∈ tables_1, d.before a0 Z = true) (x0 : Int32) (x1 : Int32) (x2 : Int32) (h0 : Heap) (e0_ : x0 = 2) (e1_ : x1 = 3) (e2_ : x2 = 0) :
    Con l Z (⟨"com/example/glacis/glacis/analysis/Bdd", "hash", "(III)I"⟩ : MethodName) prog_2_method_19_code 4 (some .int) [] ({ frames := 0, cells := 0, slots := 0, locals := 0 } : Room) #[(.int x0), (.int x1), (.int x2)] h0 (PQ (some (.int (-835465565 : Int32))) h0) := by
  refine Con.of (plainFor_of_name pn_Bdd) ?_
  intro p e s m below meth c s₁ hx hby hml hown hnm hret hlk hZ X0 e0
  refine Go.cast (ef_11 m x0 x1 x2) ?_
  replace hown : s.vm.findClass "com/example/glacis/glacis/analysis/Bdd" = some m.cls := hown
  subst e0_ e1_ e2_
  show Go p e below _ (s₁.setTop (mkF m 0 #[.val (.int (2 : Int32)), .val (.int (3 : Int32)), .val (.int (0 : Int32)), .unset] []))
  refine Go.iloadN (pc' := 1) X0 hx hby d11_0 rfl rfl ?_
  refine Go.ldcI (pc' := 3) X0 hx hby d11_1 rfl hown (mvT hZ (hw _ (List.mem_of_getElem? (i := 97) rfl))) ?_
  refine Go.imul (pc' := 4) X0 hx hby d11_3 rfl ?_
  refine Go.iloadN (pc' := 5) X0 hx hby d11_4 rfl rfl ?_
  refine Go.ldcI (pc' := 7) X0 hx hby d11_5 rfl hown (mvT hZ (hw _ (List.mem_of_getElem? (i := 98) rfl))) ?_
  refine Go.imul (pc' := 8) X0 hx hby d11_7 rfl ?_
  refine Go.iadd (pc' := 9) X0 hx hby d11_8 rfl ?_
  refine Go.iloadN (pc' := 10) X0 hx hby d11_9 rfl rfl ?_
  refine Go.ldcI (pc' := 12) X0 hx hby d11_10 rfl hown (mvT hZ (hw _ (List.mem_of_getElem? (i := 99) rfl))) ?_
  refine Go.imul (pc' := 13) X0 hx hby d11_12 rfl ?_
  refine Go.iadd (pc' := 14) X0 hx hby d11_13 rfl ?_
  refine Go.istoreN (Ls' := #[.val (.int (2 : Int32)), .val (.int (3 : Int32)), .val (.int (0 : Int32)), .val (.int ((((2 : Int32) * (-1640531535 : Int32)) + ((3 : Int32) * (-2048144777 : Int32))) + ((0 : Int32) * (-1028477379 : Int32))))]) (pc' := 15) X0 hx hby d11_14 rfl rfl ?_
  refine Go.iloadN (pc' := 16) X0 hx hby d11_15 rfl rfl ?_
  refine Go.iloadN (pc' := 17) X0 hx hby d11_16 rfl rfl ?_
  refine Go.bipush (pc' := 19) X0 hx hby d11_17 rfl (v := (15 : Int32)) (by decide) ?_
  refine Go.iushr (pc' := 20) X0 hx hby d11_19 rfl ?_
  refine Go.ixor (pc' := 21) X0 hx hby d11_20 rfl ?_
  exact Go.retI X0 hx hby hlk hret d11_21 (by decide) (by decide) ⟨by rw [show (((((2 : Int32) * (-1640531535 : Int32)) + ((3 : Int32) * (-2048144777 : Int32))) + ((0 : Int32) * (-1028477379 : Int32))) ^^^ ((((((2 : Int32) * (-1640531535 : Int32)) + ((3 : Int32) * (-2048144777 : Int32))) + ((0 : Int32) * (-1028477379 : Int32))).toUInt32 >>> ((15 : Int32) &&& 31).toUInt32).toInt32)) = (-835465565 : Int32) from by decide +kernel], rfl, e0⟩
theorem d18_0 : decode prog_3_method_2_code 0 = .ok (.iload_n 1, 1) := by decide +kernel
theorem d18_1 : decode prog_3_method_2_code 1 = .ok (.iload_n 2, 1) := by decide +kernel
theorem d18_2 : decode prog_3_method_2_code 2 = .ok (.iconst 0, 1) := by decide +kernel
theorem d18_3 : decode prog_3_method_2_code 3 = .ok (.invokestatic 21, 3) := by decide +kernel
theorem d18_6 : decode prog_3_method_2_code 6 = .ok (.aload_n 0, 1) := by decide +kernel
theorem d18_7 : decode prog_3_method_2_code 7 = .ok (.getfield 9, 3) := by decide +kernel
theorem d18_10 : decode prog_3_method_2_code 10 = .ok (.arraylength, 1) := by decide +kernel
theorem d18_11 : decode prog_3_method_2_code 11 = .ok (.iconst 1, 1) := by decide +kernel
theorem d18_12 : decode prog_3_method_2_code 12 = .ok (.isub, 1) := by decide +kernel
theorem d18_13 : decode prog_3_method_2_code 13 = .ok (.iand, 1) := by decide +kernel
theorem d18_14 : decode prog_3_method_2_code 14 = .ok (.istore_n 3, 1) := by decide +kernel
theorem d18_15 : decode prog_3_method_2_code 15 = .ok (.iconst (-1), 1) := by decide +kernel
theorem d18_16 : decode prog_3_method_2_code 16 = .ok (.istore 4, 2) := by decide +kernel
theorem d18_18 : decode prog_3_method_2_code 18 = .ok (.aload_n 0, 1) := by decide +kernel
theorem d18_19 : decode prog_3_method_2_code 19 = .ok (.getfield 9, 3) := by decide +kernel
theorem d18_22 : decode prog_3_method_2_code 22 = .ok (.iload_n 3, 1) := by decide +kernel
theorem d18_23 : decode prog_3_method_2_code 23 = .ok (.iaload, 1) := by decide +kernel
theorem d18_24 : decode prog_3_method_2_code 24 = .ok (.iload_n 1, 1) := by decide +kernel
theorem d18_25 : decode prog_3_method_2_code 25 = .ok (.if_icmp .ne 21, 3) := by decide +kernel
theorem d18_28 : decode prog_3_method_2_code 28 = .ok (.aload_n 0, 1) := by decide +kernel
theorem d18_29 : decode prog_3_method_2_code 29 = .ok (.getfield 15, 3) := by decide +kernel
theorem d18_32 : decode prog_3_method_2_code 32 = .ok (.iload_n 3, 1) := by decide +kernel
theorem d18_33 : decode prog_3_method_2_code 33 = .ok (.iaload, 1) := by decide +kernel
theorem d18_34 : decode prog_3_method_2_code 34 = .ok (.iload_n 2, 1) := by decide +kernel
theorem d18_35 : decode prog_3_method_2_code 35 = .ok (.if_icmp .ne 11, 3) := by decide +kernel
theorem d18_38 : decode prog_3_method_2_code 38 = .ok (.aload_n 0, 1) := by decide +kernel
theorem d18_39 : decode prog_3_method_2_code 39 = .ok (.getfield 18, 3) := by decide +kernel
theorem d18_42 : decode prog_3_method_2_code 42 = .ok (.iload_n 3, 1) := by decide +kernel
theorem d18_43 : decode prog_3_method_2_code 43 = .ok (.iaload, 1) := by decide +kernel
theorem d18_44 : decode prog_3_method_2_code 44 = .ok (.istore 4, 2) := by decide +kernel
theorem d18_46 : decode prog_3_method_2_code 46 = .ok (.iload 4, 2) := by decide +kernel
theorem d18_48 : decode prog_3_method_2_code 48 = .ok (.ireturn, 1) := by decide +kernel
theorem ef_18 (m : MethodId) (x0 : Addr) (x1 : Int32) (x2 : Int32) : entryFrame m #[(.ref x0), (.int x1), (.int x2)] 5 = mkF m 0 #[.val (.ref x0), .val (.int x1), .val (.int x2), .unset, .unset] [] := by first | (simp [entryFrame, mkF, argsToLocals, Value.category]; done) | rfl
theorem pn_Bdd_Computed : plainName "com/example/glacis/glacis/analysis/Bdd$Computed" = true := by first | (simp [plainName, overriddenIn]; done) | decide +kernel
set_option maxRecDepth 65536 in
set_option maxHeartbeats 40000000 in
theorem rx17 (l : Launch) (Z : State) (a0 : Array Value) (hw : ∀ d ∈ tables_1, d.before a0 Z = true) (q0 : Addr) (x0 : Int32) (x1 : Int32) (h0 : Heap) (n0 : Nat) (a q1 : Addr) (d : Nat → Addr) (sz vr : Int32) (f : Nat → Int → Value) (e0_ : x0 = 2) (e1_ : x1 = 3) (B : OwnB Z h0 n0 a q0 q1 d sz vr f) (r_12_675 : f 12 675 = (.int (-1 : Int32))) :
    Con l Z (⟨"com/example/glacis/glacis/analysis/Bdd$Computed", "get", "(II)I"⟩ : MethodName) prog_3_method_2_code 5 (some .int) [] ({ frames := 1, cells := 0, slots := 0, locals := 15 } : Room) #[(.ref q0), (.int x0), (.int x1)] h0 (fun v h L => v = some (.int (-1 : Int32)) ∧ Fr n0 L ∧ OwnB Z h n0 a q0 q1 d sz vr f) := by
  refine Con.of (plainFor_of_name pn_Bdd_Computed) ?_
  intro p e s m below meth c s₁ hx hby hml hown hnm hret hlk hZ X0 e0
  refine Go.cast (ef_18 m q0 x0 x1) ?_
  replace hown : s.vm.findClass "com/example/glacis/glacis/analysis/Bdd$Computed" = some m.cls := hown
  subst e0_ e1_
  show Go p e below _ (s₁.setTop (mkF m 0 #[.val (.ref q0), .val (.int (2 : Int32)), .val (.int (3 : Int32)), .unset, .unset] []))
  refine Go.iloadN (pc' := 1) X0 hx hby d18_0 rfl rfl ?_
  refine Go.iloadN (pc' := 2) X0 hx hby d18_1 rfl rfl ?_
  refine Go.iconst (pc' := 3) X0 hx hby d18_2 rfl (v := (0 : Int32)) (by decide) ?_
  refine Go.callSNest (pc' := 6) (W := 0) (argsL := [(.int (2 : Int32)), (.int (3 : Int32)), (.int (0 : Int32))]) (rest := []) X0 hx hby hZ hown (hw _ (List.mem_of_getElem? (i := 128) rfl)) (hw _ (List.mem_of_getElem? (i := 95) rfl)) (hw _ (List.mem_of_getElem? (i := 4) rfl)) (hw _ (List.mem_of_getElem? (i := 96) rfl)) (by decide) (rx18 l Z a0 hw  (2 : Int32) (3 : Int32) (0 : Int32) h0 rfl rfl rfl) e0 (by decide) (by decide) (by rw [hml]; rfl) pd_8 rfl rfl rfl (Nat.le_of_eq rfl) d18_3 rfl (by decide) (by decide) ?_
  rintro r2 T3 L4 X5 ⟨rfl, rfl, e1⟩
  rw [List.append_nil] at X5
  show Go p e below _ (T3.setTop (mkF m 6 #[.val (.ref q0), .val (.int (2 : Int32)), .val (.int (3 : Int32)), .unset, .unset] [(.int (-835465565 : Int32))]))
  refine Go.aloadN (pc' := 7) X5 hx hby d18_6 rfl rfl rfl ?_
  refine Go.getF (pc' := 10) X5 hx hby hZ hown (hw _ (List.mem_of_getElem? (i := 35) rfl)) Via.refl e1 B.f12 d18_7 rfl ?_
  intro T6 X7 e8
  show Go p e below _ (T6.setTop (mkF m 10 #[.val (.ref q0), .val (.int (2 : Int32)), .val (.int (3 : Int32)), .unset, .unset] [(.ref (d 12)), (.int (-835465565 : Int32))]))
  refine Go.alen (pc' := 11) (zv := (1024 : Int32)) X7 hx hby hZ e8 B.a12 d18_10 rfl (by decide) ?_
  refine Go.iconst (pc' := 12) X7 hx hby d18_11 rfl (v := (1 : Int32)) (by decide) ?_
  refine Go.isub (pc' := 13) X7 hx hby d18_12 rfl ?_
  change Go p e below _ (T6.setTop (mkF m 13 #[.val (.ref q0), .val (.int (2 : Int32)), .val (.int (3 : Int32)), .unset, .unset] [(.int (1023 : Int32)), (.int (-835465565 : Int32))]))
  refine Go.iand (pc' := 14) X7 hx hby d18_13 rfl ?_
  change Go p e below _ (T6.setTop (mkF m 14 #[.val (.ref q0), .val (.int (2 : Int32)), .val (.int (3 : Int32)), .unset, .unset] [(.int (675 : Int32))]))
  refine Go.istoreN (Ls' := #[.val (.ref q0), .val (.int (2 : Int32)), .val (.int (3 : Int32)), .val (.int (675 : Int32)), .unset]) (pc' := 15) X7 hx hby d18_14 rfl rfl ?_
  refine Go.iconst (pc' := 16) X7 hx hby d18_15 rfl (v := (-1 : Int32)) (by decide) ?_
  refine Go.istore (Ls' := #[.val (.ref q0), .val (.int (2 : Int32)), .val (.int (3 : Int32)), .val (.int (675 : Int32)), .val (.int (-1 : Int32))]) (pc' := 18) X7 hx hby d18_16 rfl rfl ?_
  refine Go.aloadN (pc' := 19) X7 hx hby d18_18 rfl rfl rfl ?_
  refine Go.getF (pc' := 22) X7 hx hby hZ hown (hw _ (List.mem_of_getElem? (i := 35) rfl)) Via.refl e8 B.f12 d18_19 rfl ?_
  intro T9 X10 e11
  show Go p e below _ (T9.setTop (mkF m 22 #[.val (.ref q0), .val (.int (2 : Int32)), .val (.int (3 : Int32)), .val (.int (675 : Int32)), .val (.int (-1 : Int32))] [(.ref (d 12))]))
  refine Go.iloadN (pc' := 23) X10 hx hby d18_22 rfl rfl ?_
  refine Go.iaload (pc' := 24) (i := 675) (v := (.int (-1 : Int32))) X10 hx hby hZ e11 B.a12 d18_23 rfl (by decide) (by decide) (by decide) r_12_675 ?_
  refine Go.iloadN (pc' := 25) X10 hx hby d18_24 rfl rfl ?_
  refine Go.icmpY (pc' := 46) X10 hx hby d18_25 (by decide) (by decide) (show (-1 : Int32) ≠ (2 : Int32) from by decide) ?_
  refine Go.iload (pc' := 48) X10 hx hby d18_46 rfl rfl ?_
  exact Go.retI X10 hx hby hlk hret d18_48 (by decide) (by decide) ⟨rfl, (Fr.nil _), by rw [e11]; exact B⟩
set_option maxRecDepth 65536 in
set_option maxHeartbeats 40000000 in
theorem rx19 (l : Launch) (Z : State) (a0 : Array Value) (hw : ∀ d ∈ tables_1, d.before a0 Z = true) (x0 : Int32) (x1 : Int32) (h0 : Heap) (e0_ : x0 = 0) (e1_ : x1 = 1) :
    Con l Z (⟨"java/lang/Math", "min", "(II)I"⟩ : MethodName) jdk_29_method_69_code 2 (some .int) [] ({ frames := 0, cells := 0, slots := 0, locals := 0 } : Room) #[(.int x0), (.int x1)] h0 (PQ (some (.int (0 : Int32))) h0) := by
  refine Con.of (Jvm.Free.JP.mathPlain rfl (by decide +kernel)) ?_
  intro p e s m below meth c s₁ hx hby hml hown hnm hret hlk hZ X0 e0
  refine Go.cast (ef_15 m x0 x1) ?_
  replace hown : s.vm.findClass "java/lang/Math" = some m.cls := hown
  subst e0_ e1_
  show Go p e below _ (s₁.setTop (mkF m 0 #[.val (.int (0 : Int32)), .val (.int (1 : Int32))] []))
  refine Go.iloadN (pc' := 1) X0 hx hby d15_0 rfl rfl ?_
  refine Go.iloadN (pc' := 2) X0 hx hby d15_1 rfl rfl ?_
  refine Go.icmpN (pc' := 5) X0 hx hby d15_2 rfl (show ¬ ((1 : Int32) < (0 : Int32)) from by decide) ?_
  refine Go.iloadN (pc' := 6) X0 hx hby d15_5 rfl rfl ?_
  refine Go.goto (pc' := 10) X0 hx hby d15_6 (by decide) (by decide) ?_
  exact Go.retI X0 hx hby hlk hret d15_10 (by decide) (by decide) ⟨rfl, rfl, e0⟩
theorem d19_0 : decode prog_2_method_14_code 0 = .ok (.iload_n 1, 1) := by decide +kernel
theorem d19_1 : decode prog_2_method_14_code 1 = .ok (.istore 4, 2) := by decide +kernel
theorem d19_3 : decode prog_2_method_14_code 3 = .ok (.aload_n 0, 1) := by decide +kernel
theorem d19_4 : decode prog_2_method_14_code 4 = .ok (.getfield 9, 3) := by decide +kernel
theorem d19_7 : decode prog_2_method_14_code 7 = .ok (.iload_n 1, 1) := by decide +kernel
theorem d19_8 : decode prog_2_method_14_code 8 = .ok (.iaload, 1) := by decide +kernel
theorem d19_9 : decode prog_2_method_14_code 9 = .ok (.iload_n 2, 1) := by decide +kernel
theorem d19_10 : decode prog_2_method_14_code 10 = .ok (.if_icmp .ne 24, 3) := by decide +kernel
theorem d19_13 : decode prog_2_method_14_code 13 = .ok (.iload_n 3, 1) := by decide +kernel
theorem d19_14 : decode prog_2_method_14_code 14 = .ok (.ifCond .eq 12, 3) := by decide +kernel
theorem d19_17 : decode prog_2_method_14_code 17 = .ok (.aload_n 0, 1) := by decide +kernel
theorem d19_18 : decode prog_2_method_14_code 18 = .ok (.getfield 18, 3) := by decide +kernel
theorem d19_21 : decode prog_2_method_14_code 21 = .ok (.iload_n 1, 1) := by decide +kernel
theorem d19_22 : decode prog_2_method_14_code 22 = .ok (.iaload, 1) := by decide +kernel
theorem d19_23 : decode prog_2_method_14_code 23 = .ok (.goto 9, 3) := by decide +kernel
theorem d19_26 : decode prog_2_method_14_code 26 = .ok (.aload_n 0, 1) := by decide +kernel
theorem d19_27 : decode prog_2_method_14_code 27 = .ok (.getfield 15, 3) := by decide +kernel
theorem d19_30 : decode prog_2_method_14_code 30 = .ok (.iload_n 1, 1) := by decide +kernel
theorem d19_31 : decode prog_2_method_14_code 31 = .ok (.iaload, 1) := by decide +kernel
theorem d19_32 : decode prog_2_method_14_code 32 = .ok (.istore 4, 2) := by decide +kernel
theorem d19_34 : decode prog_2_method_14_code 34 = .ok (.iload 4, 2) := by decide +kernel
theorem d19_36 : decode prog_2_method_14_code 36 = .ok (.ireturn, 1) := by decide +kernel
theorem ef_19 (m : MethodId) (x0 : Addr) (x1 : Int32) (x2 : Int32) (x3 : Int32) : entryFrame m #[(.ref x0), (.int x1), (.int x2), (.int x3)] 5 = mkF m 0 #[.val (.ref x0), .val (.int x1), .val (.int x2), .val (.int x3), .unset] [] := by first | (simp [entryFrame, mkF, argsToLocals, Value.category]; done) | rfl
set_option maxRecDepth 65536 in
set_option maxHeartbeats 40000000 in
theorem rx20 (l : Launch) (Z : State) (a0 : Array Value) (hw : ∀ d ∈ tables_1, d.before a0 Z = true) (a : Addr) (x0 : Int32) (x1 : Int32) (x2 : Int32) (h0 : Heap) (n0 : Nat) (q0 q1 : Addr) (d : Nat → Addr) (sz vr : Int32) (f : Nat → Int → Value) (e0_ : x0 = 2) (e1_ : x1 = 0) (e2_ : x2 = 0) (B : OwnB Z h0 n0 a q0 q1 d sz vr f) (r_0_2 : f 0 2 = (.int (0 : Int32))) (r_1_2 : f 1 2 = (.int (0 : Int32))) :
    Con l Z (⟨"com/example/glacis/glacis/analysis/Bdd", "cofactor", "(IIZ)I"⟩ : MethodName) prog_2_method_14_code 5 (some .int) [] ({ frames := 0, cells := 0, slots := 0, locals := 0 } : Room) #[(.ref a), (.int x0), (.int x1), (.int x2)] h0 (fun v h L => v = some (.int (0 : Int32)) ∧ Fr n0 L ∧ OwnB Z h n0 a q0 q1 d sz vr f) := by
  refine Con.of (plainFor_of_name pn_Bdd) ?_
  intro p e s m below meth c s₁ hx hby hml hown hnm hret hlk hZ X0 e0
  refine Go.cast (ef_19 m a x0 x1 x2) ?_
  replace hown : s.vm.findClass "com/example/glacis/glacis/analysis/Bdd" = some m.cls := hown
  subst e0_ e1_ e2_
  show Go p e below _ (s₁.setTop (mkF m 0 #[.val (.ref a), .val (.int (2 : Int32)), .val (.int (0 : Int32)), .val (.int (0 : Int32)), .unset] []))
  refine Go.iloadN (pc' := 1) X0 hx hby d19_0 rfl rfl ?_
  refine Go.istore (Ls' := #[.val (.ref a), .val (.int (2 : Int32)), .val (.int (0 : Int32)), .val (.int (0 : Int32)), .val (.int (2 : Int32))]) (pc' := 3) X0 hx hby d19_1 rfl rfl ?_
  refine Go.aloadN (pc' := 4) X0 hx hby d19_3 rfl rfl rfl ?_
  refine Go.getF (pc' := 7) X0 hx hby hZ hown (hw _ (List.mem_of_getElem? (i := 12) rfl)) Via.refl e0 B.f0 d19_4 rfl ?_
  intro T1 X2 e3
  show Go p e below _ (T1.setTop (mkF m 7 #[.val (.ref a), .val (.int (2 : Int32)), .val (.int (0 : Int32)), .val (.int (0 : Int32)), .val (.int (2 : Int32))] [(.ref (d 0))]))
  refine Go.iloadN (pc' := 8) X2 hx hby d19_7 rfl rfl ?_
  refine Go.iaload (pc' := 9) (i := 2) (v := (.int (0 : Int32))) X2 hx hby hZ e3 B.a0 d19_8 rfl (by decide) (by decide) (by decide) r_0_2 ?_
  refine Go.iloadN (pc' := 10) X2 hx hby d19_9 rfl rfl ?_
  refine Go.icmpN (pc' := 13) X2 hx hby d19_10 rfl (show ¬ ((0 : Int32) ≠ (0 : Int32)) from by decide) ?_
  refine Go.iloadN (pc' := 14) X2 hx hby d19_13 rfl rfl ?_
  refine Go.ifY (pc' := 26) X2 hx hby d19_14 (by decide) (by decide) (show (0 : Int32) = 0 from by decide) ?_
  refine Go.aloadN (pc' := 27) X2 hx hby d19_26 rfl rfl rfl ?_
  refine Go.getF (pc' := 30) X2 hx hby hZ hown (hw _ (List.mem_of_getElem? (i := 14) rfl)) Via.refl e3 B.f1 d19_27 rfl ?_
  intro T4 X5 e6
  show Go p e below _ (T4.setTop (mkF m 30 #[.val (.ref a), .val (.int (2 : Int32)), .val (.int (0 : Int32)), .val (.int (0 : Int32)), .val (.int (2 : Int32))] [(.ref (d 1))]))
  refine Go.iloadN (pc' := 31) X5 hx hby d19_30 rfl rfl ?_
  refine Go.iaload (pc' := 32) (i := 2) (v := (.int (0 : Int32))) X5 hx hby hZ e6 B.a1 d19_31 rfl (by decide) (by decide) (by decide) r_1_2 ?_
  refine Go.istore (Ls' := #[.val (.ref a), .val (.int (2 : Int32)), .val (.int (0 : Int32)), .val (.int (0 : Int32)), .val (.int (0 : Int32))]) (pc' := 34) X5 hx hby d19_32 rfl rfl ?_
  refine Go.iload (pc' := 36) X5 hx hby d19_34 rfl rfl ?_
  exact Go.retI X5 hx hby hlk hret d19_36 (by decide) (by decide) ⟨rfl, (Fr.nil _), by rw [e6]; exact B⟩
set_option maxRecDepth 65536 in
set_option maxHeartbeats 40000000 in
theorem rx21 (l : Launch) (Z : State) (a0 : Array Value) (hw : ∀ d ∈ tables_1, d.before a0 Z = true) (a : Addr) (x0 : Int32) (x1 : Int32) (x2 : Int32) (h0 : Heap) (n0 : Nat) (q0 q1 : Addr) (d : Nat → Addr) (sz vr : Int32) (f : Nat → Int → Value) (e0_ : x0 = 3) (e1_ : x1 = 0) (e2_ : x2 = 0) (B : OwnB Z h0 n0 a q0 q1 d sz vr f) (r_0_3 : f 0 3 = (.int (1 : Int32))) :
    Con l Z (⟨"com/example/glacis/glacis/analysis/Bdd", "cofactor", "(IIZ)I"⟩ : MethodName) prog_2_method_14_code 5 (some .int) [] ({ frames := 0, cells := 0, slots := 0, locals := 0 } : Room) #[(.ref a), (.int x0), (.int x1), (.int x2)] h0 (fun v h L => v = some (.int (3 : Int32)) ∧ Fr n0 L ∧ OwnB Z h n0 a q0 q1 d sz vr f) := by
  refine Con.of (plainFor_of_name pn_Bdd) ?_
  intro p e s m below meth c s₁ hx hby hml hown hnm hret hlk hZ X0 e0
  refine Go.cast (ef_19 m a x0 x1 x2) ?_
  replace hown : s.vm.findClass "com/example/glacis/glacis/analysis/Bdd" = some m.cls := hown
  subst e0_ e1_ e2_
  show Go p e below _ (s₁.setTop (mkF m 0 #[.val (.ref a), .val (.int (3 : Int32)), .val (.int (0 : Int32)), .val (.int (0 : Int32)), .unset] []))
  refine Go.iloadN (pc' := 1) X0 hx hby d19_0 rfl rfl ?_
  refine Go.istore (Ls' := #[.val (.ref a), .val (.int (3 : Int32)), .val (.int (0 : Int32)), .val (.int (0 : Int32)), .val (.int (3 : Int32))]) (pc' := 3) X0 hx hby d19_1 rfl rfl ?_
  refine Go.aloadN (pc' := 4) X0 hx hby d19_3 rfl rfl rfl ?_
  refine Go.getF (pc' := 7) X0 hx hby hZ hown (hw _ (List.mem_of_getElem? (i := 12) rfl)) Via.refl e0 B.f0 d19_4 rfl ?_
  intro T1 X2 e3
  show Go p e below _ (T1.setTop (mkF m 7 #[.val (.ref a), .val (.int (3 : Int32)), .val (.int (0 : Int32)), .val (.int (0 : Int32)), .val (.int (3 : Int32))] [(.ref (d 0))]))
  refine Go.iloadN (pc' := 8) X2 hx hby d19_7 rfl rfl ?_
  refine Go.iaload (pc' := 9) (i := 3) (v := (.int (1 : Int32))) X2 hx hby hZ e3 B.a0 d19_8 rfl (by decide) (by decide) (by decide) r_0_3 ?_
  refine Go.iloadN (pc' := 10) X2 hx hby d19_9 rfl rfl ?_
  refine Go.icmpY (pc' := 34) X2 hx hby d19_10 (by decide) (by decide) (show (1 : Int32) ≠ (0 : Int32) from by decide) ?_
  refine Go.iload (pc' := 36) X2 hx hby d19_34 rfl rfl ?_
  exact Go.retI X2 hx hby hlk hret d19_36 (by decide) (by decide) ⟨rfl, (Fr.nil _), by rw [e3]; exact B⟩
set_option maxRecDepth 65536 in
set_option maxHeartbeats 40000000 in
theorem rx23 (l : Launch) (Z : State) (a0 : Array Value) (hw : ∀ d ∈ tables_1, d.before a0 Z = true) (x0 : Int32) (x1 : Int32) (h0 : Heap) (e0_ : x0 = 0) (e1_ : x1 = 3) :
    Con l Z (⟨"java/lang/Math", "min", "(II)I"⟩ : MethodName) jdk_29_method_69_code 2 (some .int) [] ({ frames := 0, cells := 0, slots := 0, locals := 0 } : Room) #[(.int x0), (.int x1)] h0 (PQ (some (.int (0 : Int32))) h0) := by
  refine Con.of (Jvm.Free.JP.mathPlain rfl (by decide +kernel)) ?_
  intro p e s m below meth c s₁ hx hby hml hown hnm hret hlk hZ X0 e0
  refine Go.cast (ef_15 m x0 x1) ?_
  replace hown : s.vm.findClass "java/lang/Math" = some m.cls := hown
  subst e0_ e1_
  show Go p e below _ (s₁.setTop (mkF m 0 #[.val (.int (0 : Int32)), .val (.int (3 : Int32))] []))
  refine Go.iloadN (pc' := 1) X0 hx hby d15_0 rfl rfl ?_
  refine Go.iloadN (pc' := 2) X0 hx hby d15_1 rfl rfl ?_
  refine Go.icmpN (pc' := 5) X0 hx hby d15_2 rfl (show ¬ ((3 : Int32) < (0 : Int32)) from by decide) ?_
  refine Go.iloadN (pc' := 6) X0 hx hby d15_5 rfl rfl ?_
  refine Go.goto (pc' := 10) X0 hx hby d15_6 (by decide) (by decide) ?_
  exact Go.retI X0 hx hby hlk hret d15_10 (by decide) (by decide) ⟨rfl, rfl, e0⟩
set_option maxRecDepth 65536 in
set_option maxHeartbeats 40000000 in
theorem rx24 (l : Launch) (Z : State) (a0 : Array Value) (hw : ∀ d ∈ tables_1, d.before a0 Z = true) (x0 : Int32) (x1 : Int32) (h0 : Heap) (e0_ : x0 = 0) (e1_ : x1 = 3) :
    Con l Z (⟨"java/lang/Math", "max", "(II)I"⟩ : MethodName) jdk_29_method_65_code 2 (some .int) [] ({ frames := 0, cells := 0, slots := 0, locals := 0 } : Room) #[(.int x0), (.int x1)] h0 (PQ (some (.int (3 : Int32))) h0) := by
  refine Con.of (Jvm.Free.JP.mathPlain rfl (by decide +kernel)) ?_
  intro p e s m below meth c s₁ hx hby hml hown hnm hret hlk hZ X0 e0
  refine Go.cast (ef_16 m x0 x1) ?_
  replace hown : s.vm.findClass "java/lang/Math" = some m.cls := hown
  subst e0_ e1_
  show Go p e below _ (s₁.setTop (mkF m 0 #[.val (.int (0 : Int32)), .val (.int (3 : Int32))] []))
  refine Go.iloadN (pc' := 1) X0 hx hby d16_0 rfl rfl ?_
  refine Go.iloadN (pc' := 2) X0 hx hby d16_1 rfl rfl ?_
  refine Go.icmpY (pc' := 9) X0 hx hby d16_2 (by decide) (by decide) (show (0 : Int32) < (3 : Int32) from by decide) ?_
  refine Go.iloadN (pc' := 10) X0 hx hby d16_9 rfl rfl ?_
  exact Go.retI X0 hx hby hlk hret d16_10 (by decide) (by decide) ⟨rfl, rfl, e0⟩
set_option maxRecDepth 65536 in
set_option maxHeartbeats 40000000 in
theorem rx22 (l : Launch) (Z : State) (a0 : Array Value) (hw : ∀ d ∈ tables_1, d.before a0 Z = true) (a : Addr) (x0 : Int32) (x1 : Int32) (x2 : Int32) (h0 : Heap) (n0 : Nat) (q0 q1 : Addr) (d : Nat → Addr) (sz vr : Int32) (f : Nat → Int → Value) (e0_ : x0 = 1) (e1_ : x1 = 0) (e2_ : x2 = 3) (B : OwnB Z h0 n0 a q0 q1 d sz vr f) :
    Con l Z (⟨"com/example/glacis/glacis/analysis/Bdd", "push", "(III)I"⟩ : MethodName) prog_2_method_12_code 5 (some .int) [] ({ frames := 1, cells := 0, slots := 0, locals := 15 } : Room) #[(.ref a), (.int x0), (.int x1), (.int x2)] h0 (fun v h L => v = some (.int (2 : Int32)) ∧ Fr n0 L ∧ OwnB Z h n0 a q0 q1 d sz vr (own_up (own_up (own_up f 7 1 (.int (0 : Int32))) 8 1 (.int (3 : Int32))) 11 1 (.int (0 : Int32)))) := by
  refine Con.of (plainFor_of_name pn_Bdd) ?_
  intro p e s m below meth c s₁ hx hby hml hown hnm hret hlk hZ X0 e0
  refine Go.cast (ef_14 m a x0 x1 x2) ?_
  replace hown : s.vm.findClass "com/example/glacis/glacis/analysis/Bdd" = some m.cls := hown
  subst e0_ e1_ e2_
  show Go p e below _ (s₁.setTop (mkF m 0 #[.val (.ref a), .val (.int (1 : Int32)), .val (.int (0 : Int32)), .val (.int (3 : Int32)), .unset] []))
  refine Go.iloadN (pc' := 1) X0 hx hby d14_0 rfl rfl ?_
  refine Go.aloadN (pc' := 2) X0 hx hby d14_1 rfl rfl rfl ?_
  refine Go.getF (pc' := 5) X0 hx hby hZ hown (hw _ (List.mem_of_getElem? (i := 44) rfl)) Via.refl e0 B.f7 d14_2 rfl ?_
  intro T1 X2 e3
  show Go p e below _ (T1.setTop (mkF m 5 #[.val (.ref a), .val (.int (1 : Int32)), .val (.int (0 : Int32)), .val (.int (3 : Int32)), .unset] [(.ref (d 7)), (.int (1 : Int32))]))
  refine Go.alen (pc' := 6) (zv := (64 : Int32)) X2 hx hby hZ e3 B.a7 d14_5 rfl (by decide) ?_
  refine Go.icmpY (pc' := 79) X2 hx hby d14_6 (by decide) (by decide) (show (1 : Int32) ≠ (64 : Int32) from by decide) ?_
  refine Go.aloadN (pc' := 80) X2 hx hby d14_79 rfl rfl rfl ?_
  refine Go.getF (pc' := 83) X2 hx hby hZ hown (hw _ (List.mem_of_getElem? (i := 44) rfl)) Via.refl e3 B.f7 d14_80 rfl ?_
  intro T4 X5 e6
  show Go p e below _ (T4.setTop (mkF m 83 #[.val (.ref a), .val (.int (1 : Int32)), .val (.int (0 : Int32)), .val (.int (3 : Int32)), .unset] [(.ref (d 7))]))
  refine Go.iloadN (pc' := 84) X5 hx hby d14_83 rfl rfl ?_
  refine Go.iloadN (pc' := 85) X5 hx hby d14_84 rfl rfl ?_
  refine Go.iloadN (pc' := 86) X5 hx hby d14_85 rfl rfl ?_
  refine Go.callS (pc' := 89) (W := 2) (argsL := [(.int (0 : Int32)), (.int (3 : Int32))]) (rest := [(.int (1 : Int32)), (.ref (d 7))]) X5 hx hby hZ hown (hw _ (List.mem_of_getElem? (i := 113) rfl)) (hw _ (List.mem_of_getElem? (i := 114) rfl)) (hw _ (List.mem_of_getElem? (i := 115) rfl)) (hw _ (List.mem_of_getElem? (i := 116) rfl)) (by decide) (rx23 l Z a0 hw  (0 : Int32) (3 : Int32) h0 rfl rfl) e6 (by decide) (by decide) (by rw [hml]; rfl) pd_6 rfl rfl rfl (Nat.le_of_eq rfl) d14_86 rfl (by decide) (by decide) ?_
  rintro r8 T9 L10 X11 ⟨rfl, rfl, e7⟩
  rw [List.append_nil] at X11
  show Go p e below _ (T9.setTop (mkF m 89 #[.val (.ref a), .val (.int (1 : Int32)), .val (.int (0 : Int32)), .val (.int (3 : Int32)), .unset] [(.int (0 : Int32)), (.int (1 : Int32)), (.ref (d 7))]))
  refine Go.iastore (pc' := 90) (i := 1) X11 hx hby hZ e7 B.a7 d14_89 rfl (by decide) (by decide) (by decide) ?_
  intro T12 h13 X14 e15 W16 A17
  have N19 : Fr n0 _ := Fr.snoc X14 (Fr.nil _) (B.2.1 7 (by decide))
  have B18 : OwnB Z h13 n0 a q0 q1 d sz vr (own_up f 7 1 (.int (0 : Int32))) := B.st hw (k := 7) (by decide) W16 A17
  show Go p e below _ (T12.setTop (mkF m 90 #[.val (.ref a), .val (.int (1 : Int32)), .val (.int (0 : Int32)), .val (.int (3 : Int32)), .unset] []))
  refine Go.aloadN (pc' := 91) X14 hx hby d14_90 rfl rfl rfl ?_
  refine Go.getF (pc' := 94) X14 hx hby hZ hown (hw _ (List.mem_of_getElem? (i := 46) rfl)) Via.refl e15 B18.f8 d14_91 rfl ?_
  intro T20 X21 e22
  show Go p e below _ (T20.setTop (mkF m 94 #[.val (.ref a), .val (.int (1 : Int32)), .val (.int (0 : Int32)), .val (.int (3 : Int32)), .unset] [(.ref (d 8))]))
  refine Go.iloadN (pc' := 95) X21 hx hby d14_94 rfl rfl ?_
  refine Go.iloadN (pc' := 96) X21 hx hby d14_95 rfl rfl ?_
  refine Go.iloadN (pc' := 97) X21 hx hby d14_96 rfl rfl ?_
  refine Go.callS (pc' := 100) (W := 2) (argsL := [(.int (0 : Int32)), (.int (3 : Int32))]) (rest := [(.int (1 : Int32)), (.ref (d 8))]) X21 hx hby hZ hown (hw _ (List.mem_of_getElem? (i := 117) rfl)) (hw _ (List.mem_of_getElem? (i := 118) rfl)) (hw _ (List.mem_of_getElem? (i := 115) rfl)) (hw _ (List.mem_of_getElem? (i := 119) rfl)) (by decide) (rx24 l Z a0 hw  (0 : Int32) (3 : Int32) h13 rfl rfl) e22 (by decide) (by decide) (by rw [hml]; rfl) pd_6 rfl rfl rfl (Nat.le_of_eq rfl) d14_97 rfl (by decide) (by decide) ?_
  rintro r24 T25 L26 X27 ⟨rfl, rfl, e23⟩
  rw [List.append_nil] at X27
  show Go p e below _ (T25.setTop (mkF m 100 #[.val (.ref a), .val (.int (1 : Int32)), .val (.int (0 : Int32)), .val (.int (3 : Int32)), .unset] [(.int (3 : Int32)), (.int (1 : Int32)), (.ref (d 8))]))
  refine Go.iastore (pc' := 101) (i := 1) X27 hx hby hZ e23 B18.a8 d14_100 rfl (by decide) (by decide) (by decide) ?_
  intro T28 h29 X30 e31 W32 A33
  have N35 : Fr n0 _ := Fr.snoc X30 N19 (B18.2.1 8 (by decide))
  have B34 : OwnB Z h29 n0 a q0 q1 d sz vr (own_up (own_up f 7 1 (.int (0 : Int32))) 8 1 (.int (3 : Int32))) := B18.st hw (k := 8) (by decide) W32 A33
  show Go p e below _ (T28.setTop (mkF m 101 #[.val (.ref a), .val (.int (1 : Int32)), .val (.int (0 : Int32)), .val (.int (3 : Int32)), .unset] []))
  refine Go.aloadN (pc' := 102) X30 hx hby d14_101 rfl rfl rfl ?_
  refine Go.getF (pc' := 105) X30 hx hby hZ hown (hw _ (List.mem_of_getElem? (i := 52) rfl)) Via.refl e31 B34.f11 d14_102 rfl ?_
  intro T36 X37 e38
  show Go p e below _ (T36.setTop (mkF m 105 #[.val (.ref a), .val (.int (1 : Int32)), .val (.int (0 : Int32)), .val (.int (3 : Int32)), .unset] [(.ref (d 11))]))
  refine Go.iloadN (pc' := 106) X37 hx hby d14_105 rfl rfl ?_
  refine Go.iconst (pc' := 107) X37 hx hby d14_106 rfl (v := (0 : Int32)) (by decide) ?_
  refine Go.iastore (pc' := 108) (i := 1) X37 hx hby hZ e38 B34.a11 d14_107 rfl (by decide) (by decide) (by decide) ?_
  intro T39 h40 X41 e42 W43 A44
  have N46 : Fr n0 _ := Fr.snoc X41 N35 (B34.2.1 11 (by decide))
  have B45 : OwnB Z h40 n0 a q0 q1 d sz vr (own_up (own_up (own_up f 7 1 (.int (0 : Int32))) 8 1 (.int (3 : Int32))) 11 1 (.int (0 : Int32))) := B34.st hw (k := 11) (by decide) W43 A44
  show Go p e below _ (T39.setTop (mkF m 108 #[.val (.ref a), .val (.int (1 : Int32)), .val (.int (0 : Int32)), .val (.int (3 : Int32)), .unset] []))
  refine Go.iloadN (pc' := 109) X41 hx hby d14_108 rfl rfl ?_
  refine Go.iconst (pc' := 110) X41 hx hby d14_109 rfl (v := (1 : Int32)) (by decide) ?_
  refine Go.iadd (pc' := 111) X41 hx hby d14_110 rfl ?_
  change Go p e below _ (T39.setTop (mkF m 111 #[.val (.ref a), .val (.int (1 : Int32)), .val (.int (0 : Int32)), .val (.int (3 : Int32)), .unset] [(.int (2 : Int32))]))
  exact Go.retI X41 hx hby hlk hret d14_111 (by decide) (by decide) ⟨rfl, N46, by rw [e42]; exact B45⟩
set_option maxRecDepth 65536 in
set_option maxHeartbeats 40000000 in
theorem rx25 (l : Launch) (Z : State) (a0 : Array Value) (hw : ∀ d ∈ tables_1, d.before a0 Z = true) (x0 : Int32) (x1 : Int32) (x2 : Int32) (h0 : Heap) (e0_ : x0 = 0) (e1_ : x1 = 0) (e2_ : x2 = 3) :
    Con l Z (⟨"com/example/glacis/glacis/analysis/Bdd", "terminalCase", "(III)I"⟩ : MethodName) prog_2_method_13_code 4 (some .int) [] ({ frames := 0, cells := 0, slots := 0, locals := 0 } : Room) #[(.int x0), (.int x1), (.int x2)] h0 (PQ (some (.int (0 : Int32))) h0) := by
  refine Con.of (plainFor_of_name pn_Bdd) ?_
  intro p e s m below meth c s₁ hx hby hml hown hnm hret hlk hZ X0 e0
  refine Go.cast (ef_17 m x0 x1 x2) ?_
  replace hown : s.vm.findClass "com/example/glacis/glacis/analysis/Bdd" = some m.cls := hown
  subst e0_ e1_ e2_
  show Go p e below _ (s₁.setTop (mkF m 0 #[.val (.int (0 : Int32)), .val (.int (0 : Int32)), .val (.int (3 : Int32)), .unset] []))
  refine Go.iloadN (pc' := 1) X0 hx hby d17_0 rfl rfl ?_
  refine Go.iloadN (pc' := 2) X0 hx hby d17_1 rfl rfl ?_
  refine Go.icmpY (pc' := 10) X0 hx hby d17_2 (by decide) (by decide) (show (0 : Int32) ≠ (3 : Int32) from by decide) ?_
  refine Go.iloadN (pc' := 11) X0 hx hby d17_10 rfl rfl ?_
  refine Go.ifN (pc' := 14) X0 hx hby d17_11 rfl (show ¬ ((0 : Int32) ≠ 0) from by decide) ?_
  refine Go.iloadN (pc' := 15) X0 hx hby d17_14 rfl rfl ?_
  refine Go.ifN (pc' := 18) X0 hx hby d17_15 rfl (show ¬ ((0 : Int32) ≠ 0) from by decide) ?_
  refine Go.iconst (pc' := 19) X0 hx hby d17_18 rfl (v := (0 : Int32)) (by decide) ?_
  refine Go.goto (pc' := 23) X0 hx hby d17_19 (by decide) (by decide) ?_
  refine Go.istoreN (Ls' := #[.val (.int (0 : Int32)), .val (.int (0 : Int32)), .val (.int (3 : Int32)), .val (.int (0 : Int32))]) (pc' := 24) X0 hx hby d17_23 rfl rfl ?_
  refine Go.goto (pc' := 47) X0 hx hby d17_24 (by decide) (by decide) ?_
  refine Go.iloadN (pc' := 48) X0 hx hby d17_47 rfl rfl ?_
  exact Go.retI X0 hx hby hlk hret d17_48 (by decide) (by decide) ⟨rfl, rfl, e0⟩
set_option maxRecDepth 65536 in
set_option maxHeartbeats 40000000 in
theorem rx26 (l : Launch) (Z : State) (a0 : Array Value) (hw : ∀ d ∈ tables_1, d.before a0 Z = true) (a : Addr) (x0 : Int32) (x1 : Int32) (x2 : Int32) (h0 : Heap) (n0 : Nat) (q0 q1 : Addr) (d : Nat → Addr) (sz vr : Int32) (f : Nat → Int → Value) (e0_ : x0 = 2) (e1_ : x1 = 0) (e2_ : x2 = 1) (B : OwnB Z h0 n0 a q0 q1 d sz vr f) (r_0_2 : f 0 2 = (.int (0 : Int32))) (r_2_2 : f 2 2 = (.int (1 : Int32))) :
    Con l Z (⟨"com/example/glacis/glacis/analysis/Bdd", "cofactor", "(IIZ)I"⟩ : MethodName) prog_2_method_14_code 5 (some .int) [] ({ frames := 0, cells := 0, slots := 0, locals := 0 } : Room) #[(.ref a), (.int x0), (.int x1), (.int x2)] h0 (fun v h L => v = some (.int (1 : Int32)) ∧ Fr n0 L ∧ OwnB Z h n0 a q0 q1 d sz vr f) := by
  refine Con.of (plainFor_of_name pn_Bdd) ?_
  intro p e s m below meth c s₁ hx hby hml hown hnm hret hlk hZ X0 e0
  refine Go.cast (ef_19 m a x0 x1 x2) ?_
  replace hown : s.vm.findClass "com/example/glacis/glacis/analysis/Bdd" = some m.cls := hown
  subst e0_ e1_ e2_
  show Go p e below _ (s₁.setTop (mkF m 0 #[.val (.ref a), .val (.int (2 : Int32)), .val (.int (0 : Int32)), .val (.int (1 : Int32)), .unset] []))
  refine Go.iloadN (pc' := 1) X0 hx hby d19_0 rfl rfl ?_
  refine Go.istore (Ls' := #[.val (.ref a), .val (.int (2 : Int32)), .val (.int (0 : Int32)), .val (.int (1 : Int32)), .val (.int (2 : Int32))]) (pc' := 3) X0 hx hby d19_1 rfl rfl ?_
  refine Go.aloadN (pc' := 4) X0 hx hby d19_3 rfl rfl rfl ?_
  refine Go.getF (pc' := 7) X0 hx hby hZ hown (hw _ (List.mem_of_getElem? (i := 12) rfl)) Via.refl e0 B.f0 d19_4 rfl ?_
  intro T1 X2 e3
  show Go p e below _ (T1.setTop (mkF m 7 #[.val (.ref a), .val (.int (2 : Int32)), .val (.int (0 : Int32)), .val (.int (1 : Int32)), .val (.int (2 : Int32))] [(.ref (d 0))]))
  refine Go.iloadN (pc' := 8) X2 hx hby d19_7 rfl rfl ?_
  refine Go.iaload (pc' := 9) (i := 2) (v := (.int (0 : Int32))) X2 hx hby hZ e3 B.a0 d19_8 rfl (by decide) (by decide) (by decide) r_0_2 ?_
  refine Go.iloadN (pc' := 10) X2 hx hby d19_9 rfl rfl ?_
  refine Go.icmpN (pc' := 13) X2 hx hby d19_10 rfl (show ¬ ((0 : Int32) ≠ (0 : Int32)) from by decide) ?_
  refine Go.iloadN (pc' := 14) X2 hx hby d19_13 rfl rfl ?_
  refine Go.ifN (pc' := 17) X2 hx hby d19_14 rfl (show ¬ ((1 : Int32) = 0) from by decide) ?_
  refine Go.aloadN (pc' := 18) X2 hx hby d19_17 rfl rfl rfl ?_
  refine Go.getF (pc' := 21) X2 hx hby hZ hown (hw _ (List.mem_of_getElem? (i := 16) rfl)) Via.refl e3 B.f2 d19_18 rfl ?_
  intro T4 X5 e6
  show Go p e below _ (T4.setTop (mkF m 21 #[.val (.ref a), .val (.int (2 : Int32)), .val (.int (0 : Int32)), .val (.int (1 : Int32)), .val (.int (2 : Int32))] [(.ref (d 2))]))
  refine Go.iloadN (pc' := 22) X5 hx hby d19_21 rfl rfl ?_
  refine Go.iaload (pc' := 23) (i := 2) (v := (.int (1 : Int32))) X5 hx hby hZ e6 B.a2 d19_22 rfl (by decide) (by decide) (by decide) r_2_2 ?_
  refine Go.goto (pc' := 32) X5 hx hby d19_23 (by decide) (by decide) ?_
  refine Go.istore (Ls' := #[.val (.ref a), .val (.int (2 : Int32)), .val (.int (0 : Int32)), .val (.int (1 : Int32)), .val (.int (1 : Int32))]) (pc' := 34) X5 hx hby d19_32 rfl rfl ?_
  refine Go.iload (pc' := 36) X5 hx hby d19_34 rfl rfl ?_
  exact Go.retI X5 hx hby hlk hret d19_36 (by decide) (by decide) ⟨rfl, (Fr.nil _), by rw [e6]; exact B⟩
set_option maxRecDepth 65536 in
set_option maxHeartbeats 40000000 in
theorem rx27 (l : Launch) (Z : State) (a0 : Array Value) (hw : ∀ d ∈ tables_1, d.before a0 Z = true) (a : Addr) (x0 : Int32) (x1 : Int32) (x2 : Int32) (h0 : Heap) (n0 : Nat) (q0 q1 : Addr) (d : Nat → Addr) (sz vr : Int32) (f : Nat → Int → Value) (e0_ : x0 = 3) (e1_ : x1 = 0) (e2_ : x2 = 1) (B : OwnB Z h0 n0 a q0 q1 d sz vr f) (r_0_3 : f 0 3 = (.int (1 : Int32))) :
    Con l Z (⟨"com/example/glacis/glacis/analysis/Bdd", "cofactor", "(IIZ)I"⟩ : MethodName) prog_2_method_14_code 5 (some .int) [] ({ frames := 0, cells := 0, slots := 0, locals := 0 } : Room) #[(.ref a), (.int x0), (.int x1), (.int x2)] h0 (fun v h L => v = some (.int (3 : Int32)) ∧ Fr n0 L ∧ OwnB Z h n0 a q0 q1 d sz vr f) := by
  refine Con.of (plainFor_of_name pn_Bdd) ?_
  intro p e s m below meth c s₁ hx hby hml hown hnm hret hlk hZ X0 e0
  refine Go.cast (ef_19 m a x0 x1 x2) ?_
  replace hown : s.vm.findClass "com/example/glacis/glacis/analysis/Bdd" = some m.cls := hown
  subst e0_ e1_ e2_
  show Go p e below _ (s₁.setTop (mkF m 0 #[.val (.ref a), .val (.int (3 : Int32)), .val (.int (0 : Int32)), .val (.int (1 : Int32)), .unset] []))
  refine Go.iloadN (pc' := 1) X0 hx hby d19_0 rfl rfl ?_
  refine Go.istore (Ls' := #[.val (.ref a), .val (.int (3 : Int32)), .val (.int (0 : Int32)), .val (.int (1 : Int32)), .val (.int (3 : Int32))]) (pc' := 3) X0 hx hby d19_1 rfl rfl ?_
  refine Go.aloadN (pc' := 4) X0 hx hby d19_3 rfl rfl rfl ?_
  refine Go.getF (pc' := 7) X0 hx hby hZ hown (hw _ (List.mem_of_getElem? (i := 12) rfl)) Via.refl e0 B.f0 d19_4 rfl ?_
  intro T1 X2 e3
  show Go p e below _ (T1.setTop (mkF m 7 #[.val (.ref a), .val (.int (3 : Int32)), .val (.int (0 : Int32)), .val (.int (1 : Int32)), .val (.int (3 : Int32))] [(.ref (d 0))]))
  refine Go.iloadN (pc' := 8) X2 hx hby d19_7 rfl rfl ?_
  refine Go.iaload (pc' := 9) (i := 3) (v := (.int (1 : Int32))) X2 hx hby hZ e3 B.a0 d19_8 rfl (by decide) (by decide) (by decide) r_0_3 ?_
  refine Go.iloadN (pc' := 10) X2 hx hby d19_9 rfl rfl ?_
  refine Go.icmpY (pc' := 34) X2 hx hby d19_10 (by decide) (by decide) (show (1 : Int32) ≠ (0 : Int32) from by decide) ?_
  refine Go.iload (pc' := 36) X2 hx hby d19_34 rfl rfl ?_
  exact Go.retI X2 hx hby hlk hret d19_36 (by decide) (by decide) ⟨rfl, (Fr.nil _), by rw [e3]; exact B⟩
set_option maxRecDepth 65536 in
set_option maxHeartbeats 40000000 in
theorem rx29 (l : Launch) (Z : State) (a0 : Array Value) (hw : ∀ d ∈ tables_1, d.before a0 Z = true) (x0 : Int32) (x1 : Int32) (h0 : Heap) (e0_ : x0 = 1) (e1_ : x1 = 3) :
    Con l Z (⟨"java/lang/Math", "min", "(II)I"⟩ : MethodName) jdk_29_method_69_code 2 (some .int) [] ({ frames := 0, cells := 0, slots := 0, locals := 0 } : Room) #[(.int x0), (.int x1)] h0 (PQ (some (.int (1 : Int32))) h0) := by
  refine Con.of (Jvm.Free.JP.mathPlain rfl (by decide +kernel)) ?_
  intro p e s m below meth c s₁ hx hby hml hown hnm hret hlk hZ X0 e0
  refine Go.cast (ef_15 m x0 x1) ?_
  replace hown : s.vm.findClass "java/lang/Math" = some m.cls := hown
  subst e0_ e1_
  show Go p e below _ (s₁.setTop (mkF m 0 #[.val (.int (1 : Int32)), .val (.int (3 : Int32))] []))
  refine Go.iloadN (pc' := 1) X0 hx hby d15_0 rfl rfl ?_
  refine Go.iloadN (pc' := 2) X0 hx hby d15_1 rfl rfl ?_
  refine Go.icmpN (pc' := 5) X0 hx hby d15_2 rfl (show ¬ ((3 : Int32) < (1 : Int32)) from by decide) ?_
  refine Go.iloadN (pc' := 6) X0 hx hby d15_5 rfl rfl ?_
  refine Go.goto (pc' := 10) X0 hx hby d15_6 (by decide) (by decide) ?_
  exact Go.retI X0 hx hby hlk hret d15_10 (by decide) (by decide) ⟨rfl, rfl, e0⟩
set_option maxRecDepth 65536 in
set_option maxHeartbeats 40000000 in
theorem rx30 (l : Launch) (Z : State) (a0 : Array Value) (hw : ∀ d ∈ tables_1, d.before a0 Z = true) (x0 : Int32) (x1 : Int32) (h0 : Heap) (e0_ : x0 = 1) (e1_ : x1 = 3) :
    Con l Z (⟨"java/lang/Math", "max", "(II)I"⟩ : MethodName) jdk_29_method_65_code 2 (some .int) [] ({ frames := 0, cells := 0, slots := 0, locals := 0 } : Room) #[(.int x0), (.int x1)] h0 (PQ (some (.int (3 : Int32))) h0) := by
  refine Con.of (Jvm.Free.JP.mathPlain rfl (by decide +kernel)) ?_
  intro p e s m below meth c s₁ hx hby hml hown hnm hret hlk hZ X0 e0
  refine Go.cast (ef_16 m x0 x1) ?_
  replace hown : s.vm.findClass "java/lang/Math" = some m.cls := hown
  subst e0_ e1_
  show Go p e below _ (s₁.setTop (mkF m 0 #[.val (.int (1 : Int32)), .val (.int (3 : Int32))] []))
  refine Go.iloadN (pc' := 1) X0 hx hby d16_0 rfl rfl ?_
  refine Go.iloadN (pc' := 2) X0 hx hby d16_1 rfl rfl ?_
  refine Go.icmpY (pc' := 9) X0 hx hby d16_2 (by decide) (by decide) (show (1 : Int32) < (3 : Int32) from by decide) ?_
  refine Go.iloadN (pc' := 10) X0 hx hby d16_9 rfl rfl ?_
  exact Go.retI X0 hx hby hlk hret d16_10 (by decide) (by decide) ⟨rfl, rfl, e0⟩
set_option maxRecDepth 65536 in
set_option maxHeartbeats 40000000 in
theorem rx28 (l : Launch) (Z : State) (a0 : Array Value) (hw : ∀ d ∈ tables_1, d.before a0 Z = true) (a : Addr) (x0 : Int32) (x1 : Int32) (x2 : Int32) (h0 : Heap) (n0 : Nat) (q0 q1 : Addr) (d : Nat → Addr) (sz vr : Int32) (f : Nat → Int → Value) (e0_ : x0 = 1) (e1_ : x1 = 1) (e2_ : x2 = 3) (B : OwnB Z h0 n0 a q0 q1 d sz vr f) :
    Con l Z (⟨"com/example/glacis/glacis/analysis/Bdd", "push", "(III)I"⟩ : MethodName) prog_2_method_12_code 5 (some .int) [] ({ frames := 1, cells := 0, slots := 0, locals := 15 } : Room) #[(.ref a), (.int x0), (.int x1), (.int x2)] h0 (fun v h L => v = some (.int (2 : Int32)) ∧ Fr n0 L ∧ OwnB Z h n0 a q0 q1 d sz vr (own_up (own_up (own_up f 7 1 (.int (1 : Int32))) 8 1 (.int (3 : Int32))) 11 1 (.int (0 : Int32)))) := by
  refine Con.of (plainFor_of_name pn_Bdd) ?_
  intro p e s m below meth c s₁ hx hby hml hown hnm hret hlk hZ X0 e0
  refine Go.cast (ef_14 m a x0 x1 x2) ?_
  replace hown : s.vm.findClass "com/example/glacis/glacis/analysis/Bdd" = some m.cls := hown
  subst e0_ e1_ e2_
  show Go p e below _ (s₁.setTop (mkF m 0 #[.val (.ref a), .val (.int (1 : Int32)), .val (.int (1 : Int32)), .val (.int (3 : Int32)), .unset] []))
  refine Go.iloadN (pc' := 1) X0 hx hby d14_0 rfl rfl ?_
  refine Go.aloadN (pc' := 2) X0 hx hby d14_1 rfl rfl rfl ?_
  refine Go.getF (pc' := 5) X0 hx hby hZ hown (hw _ (List.mem_of_getElem? (i := 44) rfl)) Via.refl e0 B.f7 d14_2 rfl ?_
  intro T1 X2 e3
  show Go p e below _ (T1.setTop (mkF m 5 #[.val (.ref a), .val (.int (1 : Int32)), .val (.int (1 : Int32)), .val (.int (3 : Int32)), .unset] [(.ref (d 7)), (.int (1 : Int32))]))
  refine Go.alen (pc' := 6) (zv := (64 : Int32)) X2 hx hby hZ e3 B.a7 d14_5 rfl (by decide) ?_
  refine Go.icmpY (pc' := 79) X2 hx hby d14_6 (by decide) (by decide) (show (1 : Int32) ≠ (64 : Int32) from by decide) ?_
  refine Go.aloadN (pc' := 80) X2 hx hby d14_79 rfl rfl rfl ?_
  refine Go.getF (pc' := 83) X2 hx hby hZ hown (hw _ (List.mem_of_getElem? (i := 44) rfl)) Via.refl e3 B.f7 d14_80 rfl ?_
  intro T4 X5 e6
  show Go p e below _ (T4.setTop (mkF m 83 #[.val (.ref a), .val (.int (1 : Int32)), .val (.int (1 : Int32)), .val (.int (3 : Int32)), .unset] [(.ref (d 7))]))
  refine Go.iloadN (pc' := 84) X5 hx hby d14_83 rfl rfl ?_
  refine Go.iloadN (pc' := 85) X5 hx hby d14_84 rfl rfl ?_
  refine Go.iloadN (pc' := 86) X5 hx hby d14_85 rfl rfl ?_
  refine Go.callS (pc' := 89) (W := 2) (argsL := [(.int (1 : Int32)), (.int (3 : Int32))]) (rest := [(.int (1 : Int32)), (.ref (d 7))]) X5 hx hby hZ hown (hw _ (List.mem_of_getElem? (i := 113) rfl)) (hw _ (List.mem_of_getElem? (i := 114) rfl)) (hw _ (List.mem_of_getElem? (i := 115) rfl)) (hw _ (List.mem_of_getElem? (i := 116) rfl)) (by decide) (rx29 l Z a0 hw  (1 : Int32) (3 : Int32) h0 rfl rfl) e6 (by decide) (by decide) (by rw [hml]; rfl) pd_6 rfl rfl rfl (Nat.le_of_eq rfl) d14_86 rfl (by decide) (by decide) ?_
  rintro r8 T9 L10 X11 ⟨rfl, rfl, e7⟩
  rw [List.append_nil] at X11
  show Go p e below _ (T9.setTop (mkF m 89 #[.val (.ref a), .val (.int (1 : Int32)), .val (.int (1 : Int32)), .val (.int (3 : Int32)), .unset] [(.int (1 : Int32)), (.int (1 : Int32)), (.ref (d 7))]))
  refine Go.iastore (pc' := 90) (i := 1) X11 hx hby hZ e7 B.a7 d14_89 rfl (by decide) (by decide) (by decide) ?_
  intro T12 h13 X14 e15 W16 A17
  have N19 : Fr n0 _ := Fr.snoc X14 (Fr.nil _) (B.2.1 7 (by decide))
  have B18 : OwnB Z h13 n0 a q0 q1 d sz vr (own_up f 7 1 (.int (1 : Int32))) := B.st hw (k := 7) (by decide) W16 A17
  show Go p e below _ (T12.setTop (mkF m 90 #[.val (.ref a), .val (.int (1 : Int32)), .val (.int (1 : Int32)), .val (.int (3 : Int32)), .unset] []))
  refine Go.aloadN (pc' := 91) X14 hx hby d14_90 rfl rfl rfl ?_
  refine Go.getF (pc' := 94) X14 hx hby hZ hown (hw _ (List.mem_of_getElem? (i := 46) rfl)) Via.refl e15 B18.f8 d14_91 rfl ?_
  intro T20 X21 e22
  show Go p e below _ (T20.setTop (mkF m 94 #[.val (.ref a), .val (.int (1 : Int32)), .val (.int (1 : Int32)), .val (.int (3 : Int32)), .unset] [(.ref (d 8))]))
  refine Go.iloadN (pc' := 95) X21 hx hby d14_94 rfl rfl ?_
  refine Go.iloadN (pc' := 96) X21 hx hby d14_95 rfl rfl ?_
  refine Go.iloadN (pc' := 97) X21 hx hby d14_96 rfl rfl ?_
  refine Go.callS (pc' := 100) (W := 2) (argsL := [(.int (1 : Int32)), (.int (3 : Int32))]) (rest := [(.int (1 : Int32)), (.ref (d 8))]) X21 hx hby hZ hown (hw _ (List.mem_of_getElem? (i := 117) rfl)) (hw _ (List.mem_of_getElem? (i := 118) rfl)) (hw _ (List.mem_of_getElem? (i := 115) rfl)) (hw _ (List.mem_of_getElem? (i := 119) rfl)) (by decide) (rx30 l Z a0 hw  (1 : Int32) (3 : Int32) h13 rfl rfl) e22 (by decide) (by decide) (by rw [hml]; rfl) pd_6 rfl rfl rfl (Nat.le_of_eq rfl) d14_97 rfl (by decide) (by decide) ?_
  rintro r24 T25 L26 X27 ⟨rfl, rfl, e23⟩
  rw [List.append_nil] at X27
  show Go p e below _ (T25.setTop (mkF m 100 #[.val (.ref a), .val (.int (1 : Int32)), .val (.int (1 : Int32)), .val (.int (3 : Int32)), .unset] [(.int (3 : Int32)), (.int (1 : Int32)), (.ref (d 8))]))
  refine Go.iastore (pc' := 101) (i := 1) X27 hx hby hZ e23 B18.a8 d14_100 rfl (by decide) (by decide) (by decide) ?_
  intro T28 h29 X30 e31 W32 A33
  have N35 : Fr n0 _ := Fr.snoc X30 N19 (B18.2.1 8 (by decide))
  have B34 : OwnB Z h29 n0 a q0 q1 d sz vr (own_up (own_up f 7 1 (.int (1 : Int32))) 8 1 (.int (3 : Int32))) := B18.st hw (k := 8) (by decide) W32 A33
  show Go p e below _ (T28.setTop (mkF m 101 #[.val (.ref a), .val (.int (1 : Int32)), .val (.int (1 : Int32)), .val (.int (3 : Int32)), .unset] []))
  refine Go.aloadN (pc' := 102) X30 hx hby d14_101 rfl rfl rfl ?_
  refine Go.getF (pc' := 105) X30 hx hby hZ hown (hw _ (List.mem_of_getElem? (i := 52) rfl)) Via.refl e31 B34.f11 d14_102 rfl ?_
  intro T36 X37 e38
  show Go p e below _ (T36.setTop (mkF m 105 #[.val (.ref a), .val (.int (1 : Int32)), .val (.int (1 : Int32)), .val (.int (3 : Int32)), .unset] [(.ref (d 11))]))
  refine Go.iloadN (pc' := 106) X37 hx hby d14_105 rfl rfl ?_
  refine Go.iconst (pc' := 107) X37 hx hby d14_106 rfl (v := (0 : Int32)) (by decide) ?_
  refine Go.iastore (pc' := 108) (i := 1) X37 hx hby hZ e38 B34.a11 d14_107 rfl (by decide) (by decide) (by decide) ?_
  intro T39 h40 X41 e42 W43 A44
  have N46 : Fr n0 _ := Fr.snoc X41 N35 (B34.2.1 11 (by decide))
  have B45 : OwnB Z h40 n0 a q0 q1 d sz vr (own_up (own_up (own_up f 7 1 (.int (1 : Int32))) 8 1 (.int (3 : Int32))) 11 1 (.int (0 : Int32))) := B34.st hw (k := 11) (by decide) W43 A44
  show Go p e below _ (T39.setTop (mkF m 108 #[.val (.ref a), .val (.int (1 : Int32)), .val (.int (1 : Int32)), .val (.int (3 : Int32)), .unset] []))
  refine Go.iloadN (pc' := 109) X41 hx hby d14_108 rfl rfl ?_
  refine Go.iconst (pc' := 110) X41 hx hby d14_109 rfl (v := (1 : Int32)) (by decide) ?_
  refine Go.iadd (pc' := 111) X41 hx hby d14_110 rfl ?_
  change Go p e below _ (T39.setTop (mkF m 111 #[.val (.ref a), .val (.int (1 : Int32)), .val (.int (1 : Int32)), .val (.int (3 : Int32)), .unset] [(.int (2 : Int32))]))
  exact Go.retI X41 hx hby hlk hret d14_111 (by decide) (by decide) ⟨rfl, N46, by rw [e42]; exact B45⟩
set_option maxRecDepth 65536 in
set_option maxHeartbeats 40000000 in
theorem rx31 (l : Launch) (Z : State) (a0 : Array Value) (hw : ∀ d ∈ tables_1, d.before a0 Z = true) (x0 : Int32) (x1 : Int32) (x2 : Int32) (h0 : Heap) (e0_ : x0 = 0) (e1_ : x1 = 1) (e2_ : x2 = 3) :
    Con l Z (⟨"com/example/glacis/glacis/analysis/Bdd", "terminalCase", "(III)I"⟩ : MethodName) prog_2_method_13_code 4 (some .int) [] ({ frames := 0, cells := 0, slots := 0, locals := 0 } : Room) #[(.int x0), (.int x1), (.int x2)] h0 (PQ (some (.int (3 : Int32))) h0) := by
  refine Con.of (plainFor_of_name pn_Bdd) ?_
  intro p e s m below meth c s₁ hx hby hml hown hnm hret hlk hZ X0 e0
  refine Go.cast (ef_17 m x0 x1 x2) ?_
  replace hown : s.vm.findClass "com/example/glacis/glacis/analysis/Bdd" = some m.cls := hown
  subst e0_ e1_ e2_
  show Go p e below _ (s₁.setTop (mkF m 0 #[.val (.int (0 : Int32)), .val (.int (1 : Int32)), .val (.int (3 : Int32)), .unset] []))
  refine Go.iloadN (pc' := 1) X0 hx hby d17_0 rfl rfl ?_
  refine Go.iloadN (pc' := 2) X0 hx hby d17_1 rfl rfl ?_
  refine Go.icmpY (pc' := 10) X0 hx hby d17_2 (by decide) (by decide) (show (1 : Int32) ≠ (3 : Int32) from by decide) ?_
  refine Go.iloadN (pc' := 11) X0 hx hby d17_10 rfl rfl ?_
  refine Go.ifY (pc' := 27) X0 hx hby d17_11 (by decide) (by decide) (show (1 : Int32) ≠ 0 from by decide) ?_
  refine Go.iloadN (pc' := 28) X0 hx hby d17_27 rfl rfl ?_
  refine Go.iconst (pc' := 29) X0 hx hby d17_28 rfl (v := (1 : Int32)) (by decide) ?_
  refine Go.icmpN (pc' := 32) X0 hx hby d17_29 rfl (show ¬ ((1 : Int32) ≠ (1 : Int32)) from by decide) ?_
  refine Go.iloadN (pc' := 33) X0 hx hby d17_32 rfl rfl ?_
  refine Go.ifN (pc' := 36) X0 hx hby d17_33 rfl (show ¬ ((0 : Int32) ≠ 0) from by decide) ?_
  refine Go.iloadN (pc' := 37) X0 hx hby d17_36 rfl rfl ?_
  refine Go.goto (pc' := 41) X0 hx hby d17_37 (by decide) (by decide) ?_
  refine Go.istoreN (Ls' := #[.val (.int (0 : Int32)), .val (.int (1 : Int32)), .val (.int (3 : Int32)), .val (.int (3 : Int32))]) (pc' := 42) X0 hx hby d17_41 rfl rfl ?_
  refine Go.goto (pc' := 47) X0 hx hby d17_42 (by decide) (by decide) ?_
  refine Go.iloadN (pc' := 48) X0 hx hby d17_47 rfl rfl ?_
  exact Go.retI X0 hx hby hlk hret d17_48 (by decide) (by decide) ⟨rfl, rfl, e0⟩
set_option maxRecDepth 65536 in
set_option maxHeartbeats 40000000 in
theorem rx34 (l : Launch) (Z : State) (a0 : Array Value) (hw : ∀ d ∈ tables_1, d.before a0 Z = true) (x0 : Int32) (x1 : Int32) (x2 : Int32) (h0 : Heap) (e0_ : x0 = 0) (e1_ : x1 = 0) (e2_ : x2 = 3) :
    Con l Z (⟨"com/example/glacis/glacis/analysis/Bdd", "hash", "(III)I"⟩ : MethodName) prog_2_method_19_code 4 (some .int) [] ({ frames := 0, cells := 0, slots := 0, locals := 0 } : Room) #[(.int x0), (.int x1), (.int x2)] h0 (PQ (some (.int (1209571975 : Int32))) h0) := by
  refine Con.of (plainFor_of_name pn_Bdd) ?_
  intro p e s m below meth c s₁ hx hby hml hown hnm hret hlk hZ X0 e0
  refine Go.cast (ef_11 m x0 x1 x2) ?_
  replace hown : s.vm.findClass "com/example/glacis/glacis/analysis/Bdd" = some m.cls := hown
  subst e0_ e1_ e2_
  show Go p e below _ (s₁.setTop (mkF m 0 #[.val (.int (0 : Int32)), .val (.int (0 : Int32)), .val (.int (3 : Int32)), .unset] []))
  refine Go.iloadN (pc' := 1) X0 hx hby d11_0 rfl rfl ?_
  refine Go.ldcI (pc' := 3) X0 hx hby d11_1 rfl hown (mvT hZ (hw _ (List.mem_of_getElem? (i := 97) rfl))) ?_
  refine Go.imul (pc' := 4) X0 hx hby d11_3 rfl ?_
  refine Go.iloadN (pc' := 5) X0 hx hby d11_4 rfl rfl ?_
  refine Go.ldcI (pc' := 7) X0 hx hby d11_5 rfl hown (mvT hZ (hw _ (List.mem_of_getElem? (i := 98) rfl))) ?_
  refine Go.imul (pc' := 8) X0 hx hby d11_7 rfl ?_
  refine Go.iadd (pc' := 9) X0 hx hby d11_8 rfl ?_
  refine Go.iloadN (pc' := 10) X0 hx hby d11_9 rfl rfl ?_
  refine Go.ldcI (pc' := 12) X0 hx hby d11_10 rfl hown (mvT hZ (hw _ (List.mem_of_getElem? (i := 99) rfl))) ?_
  refine Go.imul (pc' := 13) X0 hx hby d11_12 rfl ?_
  refine Go.iadd (pc' := 14) X0 hx hby d11_13 rfl ?_
  refine Go.istoreN (Ls' := #[.val (.int (0 : Int32)), .val (.int (0 : Int32)), .val (.int (3 : Int32)), .val (.int ((((0 : Int32) * (-1640531535 : Int32)) + ((0 : Int32) * (-2048144777 : Int32))) + ((3 : Int32) * (-1028477379 : Int32))))]) (pc' := 15) X0 hx hby d11_14 rfl rfl ?_
  refine Go.iloadN (pc' := 16) X0 hx hby d11_15 rfl rfl ?_
  refine Go.iloadN (pc' := 17) X0 hx hby d11_16 rfl rfl ?_
  refine Go.bipush (pc' := 19) X0 hx hby d11_17 rfl (v := (15 : Int32)) (by decide) ?_
  refine Go.iushr (pc' := 20) X0 hx hby d11_19 rfl ?_
  refine Go.ixor (pc' := 21) X0 hx hby d11_20 rfl ?_
  exact Go.retI X0 hx hby hlk hret d11_21 (by decide) (by decide) ⟨by rw [show (((((0 : Int32) * (-1640531535 : Int32)) + ((0 : Int32) * (-2048144777 : Int32))) + ((3 : Int32) * (-1028477379 : Int32))) ^^^ ((((((0 : Int32) * (-1640531535 : Int32)) + ((0 : Int32) * (-2048144777 : Int32))) + ((3 : Int32) * (-1028477379 : Int32))).toUInt32 >>> ((15 : Int32) &&& 31).toUInt32).toInt32)) = (1209571975 : Int32) from by decide +kernel], rfl, e0⟩
set_option maxRecDepth 65536 in
set_option maxHeartbeats 40000000 in
theorem rx33 (l : Launch) (Z : State) (a0 : Array Value) (hw : ∀ d ∈ tables_1, d.before a0 Z = true) (a : Addr) (x0 : Int32) (x1 : Int32) (x2 : Int32) (h0 : Heap) (n0 : Nat) (q0 q1 : Addr) (d : Nat → Addr) (sz vr : Int32) (f : Nat → Int → Value) (e0_ : x0 = 0) (e1_ : x1 = 0) (e2_ : x2 = 3) (B : OwnB Z h0 n0 a q0 q1 d sz vr f) (r_4_647 : f 4 647 = (.int (-1 : Int32))) :
    Con l Z (⟨"com/example/glacis/glacis/analysis/Bdd", "find", "(III)I"⟩ : MethodName) prog_2_method_16_code 6 (some .int) [] ({ frames := 1, cells := 0, slots := 0, locals := 15 } : Room) #[(.ref a), (.int x0), (.int x1), (.int x2)] h0 (fun v h L => v = some (.int (-1 : Int32)) ∧ Fr n0 L ∧ OwnB Z h n0 a q0 q1 d sz vr f) := by
  refine Con.of (plainFor_of_name pn_Bdd) ?_
  intro p e s m below meth c s₁ hx hby hml hown hnm hret hlk hZ X0 e0
  refine Go.cast (ef_10 m a x0 x1 x2) ?_
  replace hown : s.vm.findClass "com/example/glacis/glacis/analysis/Bdd" = some m.cls := hown
  subst e0_ e1_ e2_
  show Go p e below _ (s₁.setTop (mkF m 0 #[.val (.ref a), .val (.int (0 : Int32)), .val (.int (0 : Int32)), .val (.int (3 : Int32)), .unset, .unset] []))
  refine Go.iloadN (pc' := 1) X0 hx hby d10_0 rfl rfl ?_
  refine Go.iloadN (pc' := 2) X0 hx hby d10_1 rfl rfl ?_
  refine Go.iloadN (pc' := 3) X0 hx hby d10_2 rfl rfl ?_
  refine Go.callS (pc' := 6) (W := 0) (argsL := [(.int (0 : Int32)), (.int (0 : Int32)), (.int (3 : Int32))]) (rest := []) X0 hx hby hZ hown (hw _ (List.mem_of_getElem? (i := 94) rfl)) (hw _ (List.mem_of_getElem? (i := 95) rfl)) (hw _ (List.mem_of_getElem? (i := 4) rfl)) (hw _ (List.mem_of_getElem? (i := 96) rfl)) (by decide) (rx34 l Z a0 hw  (0 : Int32) (0 : Int32) (3 : Int32) h0 rfl rfl rfl) e0 (by decide) (by decide) (by rw [hml]; rfl) pd_8 rfl rfl rfl (Nat.le_of_eq rfl) d10_3 rfl (by decide) (by decide) ?_
  rintro r2 T3 L4 X5 ⟨rfl, rfl, e1⟩
  rw [List.append_nil] at X5
  show Go p e below _ (T3.setTop (mkF m 6 #[.val (.ref a), .val (.int (0 : Int32)), .val (.int (0 : Int32)), .val (.int (3 : Int32)), .unset, .unset] [(.int (1209571975 : Int32))]))
  refine Go.aloadN (pc' := 7) X5 hx hby d10_6 rfl rfl rfl ?_
  refine Go.getF (pc' := 10) X5 hx hby hZ hown (hw _ (List.mem_of_getElem? (i := 20) rfl)) Via.refl e1 B.f4 d10_7 rfl ?_
  intro T6 X7 e8
  show Go p e below _ (T6.setTop (mkF m 10 #[.val (.ref a), .val (.int (0 : Int32)), .val (.int (0 : Int32)), .val (.int (3 : Int32)), .unset, .unset] [(.ref (d 4)), (.int (1209571975 : Int32))]))
  refine Go.alen (pc' := 11) (zv := (1024 : Int32)) X7 hx hby hZ e8 B.a4 d10_10 rfl (by decide) ?_
  refine Go.iconst (pc' := 12) X7 hx hby d10_11 rfl (v := (1 : Int32)) (by decide) ?_
  refine Go.isub (pc' := 13) X7 hx hby d10_12 rfl ?_
  change Go p e below _ (T6.setTop (mkF m 13 #[.val (.ref a), .val (.int (0 : Int32)), .val (.int (0 : Int32)), .val (.int (3 : Int32)), .unset, .unset] [(.int (1023 : Int32)), (.int (1209571975 : Int32))]))
  refine Go.iand (pc' := 14) X7 hx hby d10_13 rfl ?_
  change Go p e below _ (T6.setTop (mkF m 14 #[.val (.ref a), .val (.int (0 : Int32)), .val (.int (0 : Int32)), .val (.int (3 : Int32)), .unset, .unset] [(.int (647 : Int32))]))
  refine Go.istore (Ls' := #[.val (.ref a), .val (.int (0 : Int32)), .val (.int (0 : Int32)), .val (.int (3 : Int32)), .val (.int (647 : Int32)), .unset]) (pc' := 16) X7 hx hby d10_14 rfl rfl ?_
  refine Go.aloadN (pc' := 17) X7 hx hby d10_16 rfl rfl rfl ?_
  refine Go.getF (pc' := 20) X7 hx hby hZ hown (hw _ (List.mem_of_getElem? (i := 20) rfl)) Via.refl e8 B.f4 d10_17 rfl ?_
  intro T9 X10 e11
  show Go p e below _ (T9.setTop (mkF m 20 #[.val (.ref a), .val (.int (0 : Int32)), .val (.int (0 : Int32)), .val (.int (3 : Int32)), .val (.int (647 : Int32)), .unset] [(.ref (d 4))]))
  refine Go.iload (pc' := 22) X10 hx hby d10_20 rfl rfl ?_
  refine Go.iaload (pc' := 23) (i := 647) (v := (.int (-1 : Int32))) X10 hx hby hZ e11 B.a4 d10_22 rfl (by decide) (by decide) (by decide) r_4_647 ?_
  refine Go.istore (Ls' := #[.val (.ref a), .val (.int (0 : Int32)), .val (.int (0 : Int32)), .val (.int (3 : Int32)), .val (.int (647 : Int32)), .val (.int (-1 : Int32))]) (pc' := 25) X10 hx hby d10_23 rfl rfl ?_
  refine Go.iload (pc' := 27) X10 hx hby d10_25 rfl rfl ?_
  refine Go.iconst (pc' := 28) X10 hx hby d10_27 rfl (v := (-1 : Int32)) (by decide) ?_
  refine Go.icmpY (pc' := 79) X10 hx hby d10_28 (by decide) (by decide) (show (-1 : Int32) = (-1 : Int32) from by decide) ?_
  refine Go.iconst (pc' := 80) X10 hx hby d10_79 rfl (v := (-1 : Int32)) (by decide) ?_
  exact Go.retI X10 hx hby hlk hret d10_80 (by decide) (by decide) ⟨rfl, (Fr.nil _), by rw [e11]; exact B⟩
set_option maxRecDepth 65536 in
set_option maxHeartbeats 40000000 in
theorem rx32 (l : Launch) (Z : State) (a0 : Array Value) (hw : ∀ d ∈ tables_1, d.before a0 Z = true) (a : Addr) (x0 : Int32) (x1 : Int32) (x2 : Int32) (h0 : Heap) (n0 : Nat) (q0 q1 : Addr) (d : Nat → Addr) (sz vr : Int32) (f : Nat → Int → Value) (e0_ : x0 = 0) (e1_ : x1 = 0) (e2_ : x2 = 3) (B : OwnB Z h0 n0 a q0 q1 d sz vr f) (hsz : sz = 4) (r_4_647 : f 4 647 = (.int (-1 : Int32))) :
    Con l Z (⟨"com/example/glacis/glacis/analysis/Bdd", "node", "(III)I"⟩ : MethodName) prog_2_method_15_code 6 (some .int) [] ({ frames := 2, cells := 0, slots := 0, locals := 32 } : Room) #[(.ref a), (.int x0), (.int x1), (.int x2)] h0 (fun v h L => v = some (.int (4 : Int32)) ∧ Fr n0 L ∧ OwnB Z h n0 a q0 q1 d (5 : Int32) vr (own_up (own_up (own_up (own_up (own_up f 0 4 (.int (0 : Int32))) 1 4 (.int (0 : Int32))) 2 4 (.int (3 : Int32))) 3 4 (.int (-1 : Int32))) 4 647 (.int (4 : Int32)))) := by
  refine Con.of (plainFor_of_name pn_Bdd) ?_
  intro p e s m below meth c s₁ hx hby hml hown hnm hret hlk hZ X0 e0
  refine Go.cast (ef_9 m a x0 x1 x2) ?_
  replace hown : s.vm.findClass "com/example/glacis/glacis/analysis/Bdd" = some m.cls := hown
  subst e0_ e1_ e2_ hsz
  show Go p e below _ (s₁.setTop (mkF m 0 #[.val (.ref a), .val (.int (0 : Int32)), .val (.int (0 : Int32)), .val (.int (3 : Int32)), .unset, .unset] []))
  refine Go.iloadN (pc' := 1) X0 hx hby d9_0 rfl rfl ?_
  refine Go.istore (Ls' := #[.val (.ref a), .val (.int (0 : Int32)), .val (.int (0 : Int32)), .val (.int (3 : Int32)), .val (.int (0 : Int32)), .unset]) (pc' := 3) X0 hx hby d9_1 rfl rfl ?_
  refine Go.iloadN (pc' := 4) X0 hx hby d9_3 rfl rfl ?_
  refine Go.iloadN (pc' := 5) X0 hx hby d9_4 rfl rfl ?_
  refine Go.icmpN (pc' := 8) X0 hx hby d9_5 rfl (show ¬ ((0 : Int32) = (3 : Int32)) from by decide) ?_
  refine Go.aloadN (pc' := 9) X0 hx hby d9_8 rfl rfl rfl ?_
  refine Go.iloadN (pc' := 10) X0 hx hby d9_9 rfl rfl ?_
  refine Go.iloadN (pc' := 11) X0 hx hby d9_10 rfl rfl ?_
  refine Go.iloadN (pc' := 12) X0 hx hby d9_11 rfl rfl ?_
  refine Go.callP (C := "com/example/glacis/glacis/analysis/Bdd") (pc' := 15) (a := a) (W := 0) (argsL := [(.int (0 : Int32)), (.int (0 : Int32)), (.int (3 : Int32))]) (rest := []) X0 hx hby hZ hown (hw _ (List.mem_of_getElem? (i := 90) rfl)) (hw _ (List.mem_of_getElem? (i := 91) rfl)) (own_sel (w := (⟨"com/example/glacis/glacis/analysis/Bdd", "test", "(I)I"⟩ : MethodName)) (y := (⟨"com/example/glacis/glacis/analysis/Bdd", "find", "(III)I"⟩ : MethodName)) (hw _ (List.mem_of_getElem? (i := 84) rfl)) rfl (hw _ (List.mem_of_getElem? (i := 92) rfl)) (hw _ (List.mem_of_getElem? (i := 91) rfl)) (by decide)) (hw _ (List.mem_of_getElem? (i := 92) rfl)) (hw _ (List.mem_of_getElem? (i := 4) rfl)) (hw _ (List.mem_of_getElem? (i := 93) rfl)) (by decide) (rx33 l Z a0 hw a (0 : Int32) (0 : Int32) (3 : Int32) h0 n0 q0 q1 d (4 : Int32) vr f rfl rfl rfl B r_4_647) e0 B.2.2.2.2.1 (by decide) (by decide) (by rw [hml]; rfl) pd_8 rfl rfl rfl (Nat.le_of_eq rfl) d9_12 rfl (by decide) (by decide) ?_
  rintro r3 T4 L5 X6 ⟨rfl, N1, B2⟩
  show Go p e below _ (T4.setTop (mkF m 15 #[.val (.ref a), .val (.int (0 : Int32)), .val (.int (0 : Int32)), .val (.int (3 : Int32)), .val (.int (0 : Int32)), .unset] [(.int (-1 : Int32))]))
  refine Go.istore (Ls' := #[.val (.ref a), .val (.int (0 : Int32)), .val (.int (0 : Int32)), .val (.int (3 : Int32)), .val (.int (-1 : Int32)), .unset]) (pc' := 17) X6 hx hby d9_15 rfl rfl ?_
  refine Go.iload (pc' := 19) X6 hx hby d9_17 rfl rfl ?_
  refine Go.iconst (pc' := 20) X6 hx hby d9_19 rfl (v := (-1 : Int32)) (by decide) ?_
  refine Go.icmpN (pc' := 23) X6 hx hby d9_20 rfl (show ¬ ((-1 : Int32) ≠ (-1 : Int32)) from by decide) ?_
  refine Go.aloadN (pc' := 24) X6 hx hby d9_23 rfl rfl rfl ?_
  refine Go.getF (pc' := 27) X6 hx hby hZ hown (hw _ (List.mem_of_getElem? (i := 22) rfl)) Via.refl rfl B2.2.2.2.2.2.2.2.2.1 d9_24 rfl ?_
  intro T7 X8 e9
  show Go p e below _ (T7.setTop (mkF m 27 #[.val (.ref a), .val (.int (0 : Int32)), .val (.int (0 : Int32)), .val (.int (3 : Int32)), .val (.int (-1 : Int32)), .unset] [(.int (4 : Int32))]))
  refine Go.aloadN (pc' := 28) X8 hx hby d9_27 rfl rfl rfl ?_
  refine Go.getF (pc' := 31) X8 hx hby hZ hown (hw _ (List.mem_of_getElem? (i := 12) rfl)) Via.refl e9 B2.f0 d9_28 rfl ?_
  intro T10 X11 e12
  show Go p e below _ (T10.setTop (mkF m 31 #[.val (.ref a), .val (.int (0 : Int32)), .val (.int (0 : Int32)), .val (.int (3 : Int32)), .val (.int (-1 : Int32)), .unset] [(.ref (d 0)), (.int (4 : Int32))]))
  refine Go.alen (pc' := 32) (zv := (1024 : Int32)) X11 hx hby hZ e12 B2.a0 d9_31 rfl (by decide) ?_
  refine Go.icmpY (pc' := 39) X11 hx hby d9_32 (by decide) (by decide) (show (4 : Int32) ≠ (1024 : Int32) from by decide) ?_
  refine Go.aloadN (pc' := 40) X11 hx hby d9_39 rfl rfl rfl ?_
  refine Go.getF (pc' := 43) X11 hx hby hZ hown (hw _ (List.mem_of_getElem? (i := 22) rfl)) Via.refl e12 B2.2.2.2.2.2.2.2.2.1 d9_40 rfl ?_
  intro T13 X14 e15
  show Go p e below _ (T13.setTop (mkF m 43 #[.val (.ref a), .val (.int (0 : Int32)), .val (.int (0 : Int32)), .val (.int (3 : Int32)), .val (.int (-1 : Int32)), .unset] [(.int (4 : Int32))]))
  refine Go.istore (Ls' := #[.val (.ref a), .val (.int (0 : Int32)), .val (.int (0 : Int32)), .val (.int (3 : Int32)), .val (.int (4 : Int32)), .unset]) (pc' := 45) X14 hx hby d9_43 rfl rfl ?_
  refine Go.aloadN (pc' := 46) X14 hx hby d9_45 rfl rfl rfl ?_
  refine Go.dup (pc' := 47) X14 hx hby d9_46 rfl rfl ?_
  refine Go.getF (pc' := 50) X14 hx hby hZ hown (hw _ (List.mem_of_getElem? (i := 22) rfl)) Via.refl e15 B2.2.2.2.2.2.2.2.2.1 d9_47 rfl ?_
  intro T16 X17 e18
  show Go p e below _ (T16.setTop (mkF m 50 #[.val (.ref a), .val (.int (0 : Int32)), .val (.int (0 : Int32)), .val (.int (3 : Int32)), .val (.int (4 : Int32)), .unset] [(.int (4 : Int32)), (.ref a)]))
  refine Go.iconst (pc' := 51) X17 hx hby d9_50 rfl (v := (1 : Int32)) (by decide) ?_
  refine Go.iadd (pc' := 52) X17 hx hby d9_51 rfl ?_
  change Go p e below _ (T16.setTop (mkF m 52 #[.val (.ref a), .val (.int (0 : Int32)), .val (.int (0 : Int32)), .val (.int (3 : Int32)), .val (.int (4 : Int32)), .unset] [(.int (5 : Int32)), (.ref a)]))
  refine Go.putF (pc' := 55) (ty := .int) X17 hx hby hZ hown (hw _ (List.mem_of_getElem? (i := 22) rfl)) Via.refl e18 B2.2.2.2.2.2.2.2.2.1 B2.2.2.2.2.1 (Or.inl (hw _ (List.mem_of_getElem? (i := 23) rfl))) (hw _ (List.mem_of_getElem? (i := 3) rfl)) (by decide) rfl rfl d9_52 rfl ?_
  intro T19 h20 X21 e22 W23
  have z24 : n0 ≤ h20.size := by rw [Wr.size W23]; exact (Nat.le_trans B2.2.2.2.1 (Nat.le_of_lt B2.2.2.2.2.1.lt))
  have f25 : Fld Z h20 a "com/example/glacis/glacis/analysis/Bdd" "size" "I" (.int (5 : Int32)) := Fld.same W23 B2.2.2.2.2.2.2.2.2.1
  have N26 : Fr n0 _ := Fr.snoc X21 (Fr.app (Fr.nil _) N1) B2.2.2.2.1
  show Go p e below _ (T19.setTop (mkF m 55 #[.val (.ref a), .val (.int (0 : Int32)), .val (.int (0 : Int32)), .val (.int (3 : Int32)), .val (.int (4 : Int32)), .unset] []))
  have B27 : OwnB Z h20 n0 a q0 q1 d (5 : Int32) vr f := B2.set_size hw W23
  refine Go.aloadN (pc' := 56) X21 hx hby d9_55 rfl rfl rfl ?_
  refine Go.getF (pc' := 59) X21 hx hby hZ hown (hw _ (List.mem_of_getElem? (i := 12) rfl)) Via.refl e22 B27.f0 d9_56 rfl ?_
  intro T28 X29 e30
  show Go p e below _ (T28.setTop (mkF m 59 #[.val (.ref a), .val (.int (0 : Int32)), .val (.int (0 : Int32)), .val (.int (3 : Int32)), .val (.int (4 : Int32)), .unset] [(.ref (d 0))]))
  refine Go.iload (pc' := 61) X29 hx hby d9_59 rfl rfl ?_
  refine Go.iloadN (pc' := 62) X29 hx hby d9_61 rfl rfl ?_
  refine Go.iastore (pc' := 63) (i := 4) X29 hx hby hZ e30 B27.a0 d9_62 rfl (by decide) (by decide) (by decide) ?_
  intro T31 h32 X33 e34 W35 A36
  have N38 : Fr n0 _ := Fr.snoc X33 N26 (B27.2.1 0 (by decide))
  have B37 : OwnB Z h32 n0 a q0 q1 d (5 : Int32) vr (own_up f 0 4 (.int (0 : Int32))) := B27.st hw (k := 0) (by decide) W35 A36
  show Go p e below _ (T31.setTop (mkF m 63 #[.val (.ref a), .val (.int (0 : Int32)), .val (.int (0 : Int32)), .val (.int (3 : Int32)), .val (.int (4 : Int32)), .unset] []))
  refine Go.aloadN (pc' := 64) X33 hx hby d9_63 rfl rfl rfl ?_
  refine Go.getF (pc' := 67) X33 hx hby hZ hown (hw _ (List.mem_of_getElem? (i := 14) rfl)) Via.refl e34 B37.f1 d9_64 rfl ?_
  intro T39 X40 e41
  show Go p e below _ (T39.setTop (mkF m 67 #[.val (.ref a), .val (.int (0 : Int32)), .val (.int (0 : Int32)), .val (.int (3 : Int32)), .val (.int (4 : Int32)), .unset] [(.ref (d 1))]))
  refine Go.iload (pc' := 69) X40 hx hby d9_67 rfl rfl ?_
  refine Go.iloadN (pc' := 70) X40 hx hby d9_69 rfl rfl ?_
  refine Go.iastore (pc' := 71) (i := 4) X40 hx hby hZ e41 B37.a1 d9_70 rfl (by decide) (by decide) (by decide) ?_
  intro T42 h43 X44 e45 W46 A47
  have N49 : Fr n0 _ := Fr.snoc X44 N38 (B37.2.1 1 (by decide))
  have B48 : OwnB Z h43 n0 a q0 q1 d (5 : Int32) vr (own_up (own_up f 0 4 (.int (0 : Int32))) 1 4 (.int (0 : Int32))) := B37.st hw (k := 1) (by decide) W46 A47
  show Go p e below _ (T42.setTop (mkF m 71 #[.val (.ref a), .val (.int (0 : Int32)), .val (.int (0 : Int32)), .val (.int (3 : Int32)), .val (.int (4 : Int32)), .unset] []))
  refine Go.aloadN (pc' := 72) X44 hx hby d9_71 rfl rfl rfl ?_
  refine Go.getF (pc' := 75) X44 hx hby hZ hown (hw _ (List.mem_of_getElem? (i := 16) rfl)) Via.refl e45 B48.f2 d9_72 rfl ?_
  intro T50 X51 e52
  show Go p e below _ (T50.setTop (mkF m 75 #[.val (.ref a), .val (.int (0 : Int32)), .val (.int (0 : Int32)), .val (.int (3 : Int32)), .val (.int (4 : Int32)), .unset] [(.ref (d 2))]))
  refine Go.iload (pc' := 77) X51 hx hby d9_75 rfl rfl ?_
  refine Go.iloadN (pc' := 78) X51 hx hby d9_77 rfl rfl ?_
  refine Go.iastore (pc' := 79) (i := 4) X51 hx hby hZ e52 B48.a2 d9_78 rfl (by decide) (by decide) (by decide) ?_
  intro T53 h54 X55 e56 W57 A58
  have N60 : Fr n0 _ := Fr.snoc X55 N49 (B48.2.1 2 (by decide))
  have B59 : OwnB Z h54 n0 a q0 q1 d (5 : Int32) vr (own_up (own_up (own_up f 0 4 (.int (0 : Int32))) 1 4 (.int (0 : Int32))) 2 4 (.int (3 : Int32))) := B48.st hw (k := 2) (by decide) W57 A58
  show Go p e below _ (T53.setTop (mkF m 79 #[.val (.ref a), .val (.int (0 : Int32)), .val (.int (0 : Int32)), .val (.int (3 : Int32)), .val (.int (4 : Int32)), .unset] []))
  refine Go.iloadN (pc' := 80) X55 hx hby d9_79 rfl rfl ?_
  refine Go.iloadN (pc' := 81) X55 hx hby d9_80 rfl rfl ?_
  refine Go.iloadN (pc' := 82) X55 hx hby d9_81 rfl rfl ?_
  refine Go.callS (pc' := 85) (W := 0) (argsL := [(.int (0 : Int32)), (.int (0 : Int32)), (.int (3 : Int32))]) (rest := []) X55 hx hby hZ hown (hw _ (List.mem_of_getElem? (i := 94) rfl)) (hw _ (List.mem_of_getElem? (i := 95) rfl)) (hw _ (List.mem_of_getElem? (i := 4) rfl)) (hw _ (List.mem_of_getElem? (i := 96) rfl)) (by decide) (rx34 l Z a0 hw  (0 : Int32) (0 : Int32) (3 : Int32) h54 rfl rfl rfl) e56 (by decide) (by decide) (by rw [hml]; rfl) pd_8 rfl rfl rfl (Nat.le_of_eq rfl) d9_82 rfl (by decide) (by decide) ?_
  rintro r62 T63 L64 X65 ⟨rfl, rfl, e61⟩
  rw [List.append_nil] at X65
  show Go p e below _ (T63.setTop (mkF m 85 #[.val (.ref a), .val (.int (0 : Int32)), .val (.int (0 : Int32)), .val (.int (3 : Int32)), .val (.int (4 : Int32)), .unset] [(.int (1209571975 : Int32))]))
  refine Go.aloadN (pc' := 86) X65 hx hby d9_85 rfl rfl rfl ?_
  refine Go.getF (pc' := 89) X65 hx hby hZ hown (hw _ (List.mem_of_getElem? (i := 20) rfl)) Via.refl e61 B59.f4 d9_86 rfl ?_
  intro T66 X67 e68
  show Go p e below _ (T66.setTop (mkF m 89 #[.val (.ref a), .val (.int (0 : Int32)), .val (.int (0 : Int32)), .val (.int (3 : Int32)), .val (.int (4 : Int32)), .unset] [(.ref (d 4)), (.int (1209571975 : Int32))]))
  refine Go.alen (pc' := 90) (zv := (1024 : Int32)) X67 hx hby hZ e68 B59.a4 d9_89 rfl (by decide) ?_
  refine Go.iconst (pc' := 91) X67 hx hby d9_90 rfl (v := (1 : Int32)) (by decide) ?_
  refine Go.isub (pc' := 92) X67 hx hby d9_91 rfl ?_
  change Go p e below _ (T66.setTop (mkF m 92 #[.val (.ref a), .val (.int (0 : Int32)), .val (.int (0 : Int32)), .val (.int (3 : Int32)), .val (.int (4 : Int32)), .unset] [(.int (1023 : Int32)), (.int (1209571975 : Int32))]))
  refine Go.iand (pc' := 93) X67 hx hby d9_92 rfl ?_
  change Go p e below _ (T66.setTop (mkF m 93 #[.val (.ref a), .val (.int (0 : Int32)), .val (.int (0 : Int32)), .val (.int (3 : Int32)), .val (.int (4 : Int32)), .unset] [(.int (647 : Int32))]))
  refine Go.istore (Ls' := #[.val (.ref a), .val (.int (0 : Int32)), .val (.int (0 : Int32)), .val (.int (3 : Int32)), .val (.int (4 : Int32)), .val (.int (647 : Int32))]) (pc' := 95) X67 hx hby d9_93 rfl rfl ?_
  refine Go.aloadN (pc' := 96) X67 hx hby d9_95 rfl rfl rfl ?_
  refine Go.getF (pc' := 99) X67 hx hby hZ hown (hw _ (List.mem_of_getElem? (i := 18) rfl)) Via.refl e68 B59.f3 d9_96 rfl ?_
  intro T69 X70 e71
  show Go p e below _ (T69.setTop (mkF m 99 #[.val (.ref a), .val (.int (0 : Int32)), .val (.int (0 : Int32)), .val (.int (3 : Int32)), .val (.int (4 : Int32)), .val (.int (647 : Int32))] [(.ref (d 3))]))
  refine Go.iload (pc' := 101) X70 hx hby d9_99 rfl rfl ?_
  refine Go.aloadN (pc' := 102) X70 hx hby d9_101 rfl rfl rfl ?_
  refine Go.getF (pc' := 105) X70 hx hby hZ hown (hw _ (List.mem_of_getElem? (i := 20) rfl)) Via.refl e71 B59.f4 d9_102 rfl ?_
  intro T72 X73 e74
  show Go p e below _ (T72.setTop (mkF m 105 #[.val (.ref a), .val (.int (0 : Int32)), .val (.int (0 : Int32)), .val (.int (3 : Int32)), .val (.int (4 : Int32)), .val (.int (647 : Int32))] [(.ref (d 4)), (.int (4 : Int32)), (.ref (d 3))]))
  refine Go.iload (pc' := 107) X73 hx hby d9_105 rfl rfl ?_
  refine Go.iaload (pc' := 108) (i := 647) (v := (.int (-1 : Int32))) X73 hx hby hZ e74 B59.a4 d9_107 rfl (by decide) (by decide) (by decide) r_4_647 ?_
  refine Go.iastore (pc' := 109) (i := 4) X73 hx hby hZ e74 B59.a3 d9_108 rfl (by decide) (by decide) (by decide) ?_
  intro T75 h76 X77 e78 W79 A80
  have N82 : Fr n0 _ := Fr.snoc X77 N60 (B59.2.1 3 (by decide))
  have B81 : OwnB Z h76 n0 a q0 q1 d (5 : Int32) vr (own_up (own_up (own_up (own_up f 0 4 (.int (0 : Int32))) 1 4 (.int (0 : Int32))) 2 4 (.int (3 : Int32))) 3 4 (.int (-1 : Int32))) := B59.st hw (k := 3) (by decide) W79 A80
  show Go p e below _ (T75.setTop (mkF m 109 #[.val (.ref a), .val (.int (0 : Int32)), .val (.int (0 : Int32)), .val (.int (3 : Int32)), .val (.int (4 : Int32)), .val (.int (647 : Int32))] []))
  refine Go.aloadN (pc' := 110) X77 hx hby d9_109 rfl rfl rfl ?_
  refine Go.getF (pc' := 113) X77 hx hby hZ hown (hw _ (List.mem_of_getElem? (i := 20) rfl)) Via.refl e78 B81.f4 d9_110 rfl ?_
  intro T83 X84 e85
  show Go p e below _ (T83.setTop (mkF m 113 #[.val (.ref a), .val (.int (0 : Int32)), .val (.int (0 : Int32)), .val (.int (3 : Int32)), .val (.int (4 : Int32)), .val (.int (647 : Int32))] [(.ref (d 4))]))
  refine Go.iload (pc' := 115) X84 hx hby d9_113 rfl rfl ?_
  refine Go.iload (pc' := 117) X84 hx hby d9_115 rfl rfl ?_
  refine Go.iastore (pc' := 118) (i := 647) X84 hx hby hZ e85 B81.a4 d9_117 rfl (by decide) (by decide) (by decide) ?_
  intro T86 h87 X88 e89 W90 A91
  have N93 : Fr n0 _ := Fr.snoc X88 N82 (B81.2.1 4 (by decide))
  have B92 : OwnB Z h87 n0 a q0 q1 d (5 : Int32) vr (own_up (own_up (own_up (own_up (own_up f 0 4 (.int (0 : Int32))) 1 4 (.int (0 : Int32))) 2 4 (.int (3 : Int32))) 3 4 (.int (-1 : Int32))) 4 647 (.int (4 : Int32))) := B81.st hw (k := 4) (by decide) W90 A91
  show Go p e below _ (T86.setTop (mkF m 118 #[.val (.ref a), .val (.int (0 : Int32)), .val (.int (0 : Int32)), .val (.int (3 : Int32)), .val (.int (4 : Int32)), .val (.int (647 : Int32))] []))
  refine Go.iload (pc' := 120) X88 hx hby d9_118 rfl rfl ?_
  exact Go.retI X88 hx hby hlk hret d9_120 (by decide) (by decide) ⟨rfl, N93, by rw [e89]; exact B92⟩
theorem d20_0 : decode prog_3_method_3_code 0 = .ok (.iload_n 1, 1) := by decide +kernel
theorem d20_1 : decode prog_3_method_3_code 1 = .ok (.iload_n 2, 1) := by decide +kernel
theorem d20_2 : decode prog_3_method_3_code 2 = .ok (.iconst 0, 1) := by decide +kernel
theorem d20_3 : decode prog_3_method_3_code 3 = .ok (.invokestatic 21, 3) := by decide +kernel
theorem d20_6 : decode prog_3_method_3_code 6 = .ok (.aload_n 0, 1) := by decide +kernel
theorem d20_7 : decode prog_3_method_3_code 7 = .ok (.getfield 9, 3) := by decide +kernel
theorem d20_10 : decode prog_3_method_3_code 10 = .ok (.arraylength, 1) := by decide +kernel
theorem d20_11 : decode prog_3_method_3_code 11 = .ok (.iconst 1, 1) := by decide +kernel
theorem d20_12 : decode prog_3_method_3_code 12 = .ok (.isub, 1) := by decide +kernel
theorem d20_13 : decode prog_3_method_3_code 13 = .ok (.iand, 1) := by decide +kernel
theorem d20_14 : decode prog_3_method_3_code 14 = .ok (.istore 4, 2) := by decide +kernel
theorem d20_16 : decode prog_3_method_3_code 16 = .ok (.aload_n 0, 1) := by decide +kernel
theorem d20_17 : decode prog_3_method_3_code 17 = .ok (.getfield 9, 3) := by decide +kernel
theorem d20_20 : decode prog_3_method_3_code 20 = .ok (.iload 4, 2) := by decide +kernel
theorem d20_22 : decode prog_3_method_3_code 22 = .ok (.iload_n 1, 1) := by decide +kernel
theorem d20_23 : decode prog_3_method_3_code 23 = .ok (.iastore, 1) := by decide +kernel
theorem d20_24 : decode prog_3_method_3_code 24 = .ok (.aload_n 0, 1) := by decide +kernel
theorem d20_25 : decode prog_3_method_3_code 25 = .ok (.getfield 15, 3) := by decide +kernel
theorem d20_28 : decode prog_3_method_3_code 28 = .ok (.iload 4, 2) := by decide +kernel
theorem d20_30 : decode prog_3_method_3_code 30 = .ok (.iload_n 2, 1) := by decide +kernel
theorem d20_31 : decode prog_3_method_3_code 31 = .ok (.iastore, 1) := by decide +kernel
theorem d20_32 : decode prog_3_method_3_code 32 = .ok (.aload_n 0, 1) := by decide +kernel
theorem d20_33 : decode prog_3_method_3_code 33 = .ok (.getfield 18, 3) := by decide +kernel
theorem d20_36 : decode prog_3_method_3_code 36 = .ok (.iload 4, 2) := by decide +kernel
theorem d20_38 : decode prog_3_method_3_code 38 = .ok (.iload_n 3, 1) := by decide +kernel
theorem d20_39 : decode prog_3_method_3_code 39 = .ok (.iastore, 1) := by decide +kernel
theorem d20_40 : decode prog_3_method_3_code 40 = .ok (.return_, 1) := by decide +kernel
theorem ef_20 (m : MethodId) (x0 : Addr) (x1 : Int32) (x2 : Int32) (x3 : Int32) : entryFrame m #[(.ref x0), (.int x1), (.int x2), (.int x3)] 5 = mkF m 0 #[.val (.ref x0), .val (.int x1), .val (.int x2), .val (.int x3), .unset] [] := by first | (simp [entryFrame, mkF, argsToLocals, Value.category]; done) | rfl
set_option maxRecDepth 65536 in
set_option maxHeartbeats 40000000 in
theorem rx35 (l : Launch) (Z : State) (a0 : Array Value) (hw : ∀ d ∈ tables_1, d.before a0 Z = true) (q0 : Addr) (x0 : Int32) (x1 : Int32) (x2 : Int32) (h0 : Heap) (n0 : Nat) (a q1 : Addr) (d : Nat → Addr) (sz vr : Int32) (f : Nat → Int → Value) (e0_ : x0 = 2) (e1_ : x1 = 3) (e2_ : x2 = 4) (B : OwnB Z h0 n0 a q0 q1 d sz vr f) :
    Con l Z (⟨"com/example/glacis/glacis/analysis/Bdd$Computed", "put", "(III)V"⟩ : MethodName) prog_3_method_3_code 5 none [] ({ frames := 1, cells := 0, slots := 0, locals := 15 } : Room) #[(.ref q0), (.int x0), (.int x1), (.int x2)] h0 (fun v h L => v = none ∧ Fr n0 L ∧ OwnB Z h n0 a q0 q1 d sz vr (own_up (own_up (own_up f 12 675 (.int (2 : Int32))) 13 675 (.int (3 : Int32))) 14 675 (.int (4 : Int32)))) := by
  refine Con.of (plainFor_of_name pn_Bdd_Computed) ?_
  intro p e s m below meth c s₁ hx hby hml hown hnm hret hlk hZ X0 e0
  refine Go.cast (ef_20 m q0 x0 x1 x2) ?_
  replace hown : s.vm.findClass "com/example/glacis/glacis/analysis/Bdd$Computed" = some m.cls := hown
  subst e0_ e1_ e2_
  show Go p e below _ (s₁.setTop (mkF m 0 #[.val (.ref q0), .val (.int (2 : Int32)), .val (.int (3 : Int32)), .val (.int (4 : Int32)), .unset] []))
  refine Go.iloadN (pc' := 1) X0 hx hby d20_0 rfl rfl ?_
  refine Go.iloadN (pc' := 2) X0 hx hby d20_1 rfl rfl ?_
  refine Go.iconst (pc' := 3) X0 hx hby d20_2 rfl (v := (0 : Int32)) (by decide) ?_
  refine Go.callSNest (pc' := 6) (W := 0) (argsL := [(.int (2 : Int32)), (.int (3 : Int32)), (.int (0 : Int32))]) (rest := []) X0 hx hby hZ hown (hw _ (List.mem_of_getElem? (i := 128) rfl)) (hw _ (List.mem_of_getElem? (i := 95) rfl)) (hw _ (List.mem_of_getElem? (i := 4) rfl)) (hw _ (List.mem_of_getElem? (i := 96) rfl)) (by decide) (rx18 l Z a0 hw  (2 : Int32) (3 : Int32) (0 : Int32) h0 rfl rfl rfl) e0 (by decide) (by decide) (by rw [hml]; rfl) pd_8 rfl rfl rfl (Nat.le_of_eq rfl) d20_3 rfl (by decide) (by decide) ?_
  rintro r2 T3 L4 X5 ⟨rfl, rfl, e1⟩
  rw [List.append_nil] at X5
  show Go p e below _ (T3.setTop (mkF m 6 #[.val (.ref q0), .val (.int (2 : Int32)), .val (.int (3 : Int32)), .val (.int (4 : Int32)), .unset] [(.int (-835465565 : Int32))]))
  refine Go.aloadN (pc' := 7) X5 hx hby d20_6 rfl rfl rfl ?_
  refine Go.getF (pc' := 10) X5 hx hby hZ hown (hw _ (List.mem_of_getElem? (i := 35) rfl)) Via.refl e1 B.f12 d20_7 rfl ?_
  intro T6 X7 e8
  show Go p e below _ (T6.setTop (mkF m 10 #[.val (.ref q0), .val (.int (2 : Int32)), .val (.int (3 : Int32)), .val (.int (4 : Int32)), .unset] [(.ref (d 12)), (.int (-835465565 : Int32))]))
  refine Go.alen (pc' := 11) (zv := (1024 : Int32)) X7 hx hby hZ e8 B.a12 d20_10 rfl (by decide) ?_
  refine Go.iconst (pc' := 12) X7 hx hby d20_11 rfl (v := (1 : Int32)) (by decide) ?_
  refine Go.isub (pc' := 13) X7 hx hby d20_12 rfl ?_
  change Go p e below _ (T6.setTop (mkF m 13 #[.val (.ref q0), .val (.int (2 : Int32)), .val (.int (3 : Int32)), .val (.int (4 : Int32)), .unset] [(.int (1023 : Int32)), (.int (-835465565 : Int32))]))
  refine Go.iand (pc' := 14) X7 hx hby d20_13 rfl ?_
  change Go p e below _ (T6.setTop (mkF m 14 #[.val (.ref q0), .val (.int (2 : Int32)), .val (.int (3 : Int32)), .val (.int (4 : Int32)), .unset] [(.int (675 : Int32))]))
  refine Go.istore (Ls' := #[.val (.ref q0), .val (.int (2 : Int32)), .val (.int (3 : Int32)), .val (.int (4 : Int32)), .val (.int (675 : Int32))]) (pc' := 16) X7 hx hby d20_14 rfl rfl ?_
  refine Go.aloadN (pc' := 17) X7 hx hby d20_16 rfl rfl rfl ?_
  refine Go.getF (pc' := 20) X7 hx hby hZ hown (hw _ (List.mem_of_getElem? (i := 35) rfl)) Via.refl e8 B.f12 d20_17 rfl ?_
  intro T9 X10 e11
  show Go p e below _ (T9.setTop (mkF m 20 #[.val (.ref q0), .val (.int (2 : Int32)), .val (.int (3 : Int32)), .val (.int (4 : Int32)), .val (.int (675 : Int32))] [(.ref (d 12))]))
  refine Go.iload (pc' := 22) X10 hx hby d20_20 rfl rfl ?_
  refine Go.iloadN (pc' := 23) X10 hx hby d20_22 rfl rfl ?_
  refine Go.iastore (pc' := 24) (i := 675) X10 hx hby hZ e11 B.a12 d20_23 rfl (by decide) (by decide) (by decide) ?_
  intro T12 h13 X14 e15 W16 A17
  have N19 : Fr n0 _ := Fr.snoc X14 (Fr.nil _) (B.2.1 12 (by decide))
  have B18 : OwnB Z h13 n0 a q0 q1 d sz vr (own_up f 12 675 (.int (2 : Int32))) := B.st hw (k := 12) (by decide) W16 A17
  show Go p e below _ (T12.setTop (mkF m 24 #[.val (.ref q0), .val (.int (2 : Int32)), .val (.int (3 : Int32)), .val (.int (4 : Int32)), .val (.int (675 : Int32))] []))
  refine Go.aloadN (pc' := 25) X14 hx hby d20_24 rfl rfl rfl ?_
  refine Go.getF (pc' := 28) X14 hx hby hZ hown (hw _ (List.mem_of_getElem? (i := 37) rfl)) Via.refl e15 B18.f13 d20_25 rfl ?_
  intro T20 X21 e22
  show Go p e below _ (T20.setTop (mkF m 28 #[.val (.ref q0), .val (.int (2 : Int32)), .val (.int (3 : Int32)), .val (.int (4 : Int32)), .val (.int (675 : Int32))] [(.ref (d 13))]))
  refine Go.iload (pc' := 30) X21 hx hby d20_28 rfl rfl ?_
  refine Go.iloadN (pc' := 31) X21 hx hby d20_30 rfl rfl ?_
  refine Go.iastore (pc' := 32) (i := 675) X21 hx hby hZ e22 B18.a13 d20_31 rfl (by decide) (by decide) (by decide) ?_
  intro T23 h24 X25 e26 W27 A28
  have N30 : Fr n0 _ := Fr.snoc X25 N19 (B18.2.1 13 (by decide))
  have B29 : OwnB Z h24 n0 a q0 q1 d sz vr (own_up (own_up f 12 675 (.int (2 : Int32))) 13 675 (.int (3 : Int32))) := B18.st hw (k := 13) (by decide) W27 A28
  show Go p e below _ (T23.setTop (mkF m 32 #[.val (.ref q0), .val (.int (2 : Int32)), .val (.int (3 : Int32)), .val (.int (4 : Int32)), .val (.int (675 : Int32))] []))
  refine Go.aloadN (pc' := 33) X25 hx hby d20_32 rfl rfl rfl ?_
  refine Go.getF (pc' := 36) X25 hx hby hZ hown (hw _ (List.mem_of_getElem? (i := 39) rfl)) Via.refl e26 B29.f14 d20_33 rfl ?_
  intro T31 X32 e33
  show Go p e below _ (T31.setTop (mkF m 36 #[.val (.ref q0), .val (.int (2 : Int32)), .val (.int (3 : Int32)), .val (.int (4 : Int32)), .val (.int (675 : Int32))] [(.ref (d 14))]))
  refine Go.iload (pc' := 38) X32 hx hby d20_36 rfl rfl ?_
  refine Go.iloadN (pc' := 39) X32 hx hby d20_38 rfl rfl ?_
  refine Go.iastore (pc' := 40) (i := 675) X32 hx hby hZ e33 B29.a14 d20_39 rfl (by decide) (by decide) (by decide) ?_
  intro T34 h35 X36 e37 W38 A39
  have N41 : Fr n0 _ := Fr.snoc X36 N30 (B29.2.1 14 (by decide))
  have B40 : OwnB Z h35 n0 a q0 q1 d sz vr (own_up (own_up (own_up f 12 675 (.int (2 : Int32))) 13 675 (.int (3 : Int32))) 14 675 (.int (4 : Int32))) := B29.st hw (k := 14) (by decide) W38 A39
  show Go p e below _ (T34.setTop (mkF m 40 #[.val (.ref q0), .val (.int (2 : Int32)), .val (.int (3 : Int32)), .val (.int (4 : Int32)), .val (.int (675 : Int32))] []))
  exact Go.ret0 X36 hx hby hlk hret d20_40 (by decide) (by decide) ⟨rfl, N41, by rw [e37]; exact B40⟩
theorem d13_0 : decode prog_2_method_11_code 0 = .ok (.aload_n 0, 1) := by decide +kernel
theorem d13_1 : decode prog_2_method_11_code 1 = .ok (.iconst 0, 1) := by decide +kernel
theorem d13_2 : decode prog_2_method_11_code 2 = .ok (.iload_n 2, 1) := by decide +kernel
theorem d13_3 : decode prog_2_method_11_code 3 = .ok (.iload_n 3, 1) := by decide +kernel
theorem d13_4 : decode prog_2_method_11_code 4 = .ok (.invokevirtual 98, 3) := by decide +kernel
theorem d13_7 : decode prog_2_method_11_code 7 = .ok (.istore 4, 2) := by decide +kernel
theorem d13_9 : decode prog_2_method_11_code 9 = .ok (.iconst (-1), 1) := by decide +kernel
theorem d13_10 : decode prog_2_method_11_code 10 = .ok (.istore 5, 2) := by decide +kernel
theorem d13_12 : decode prog_2_method_11_code 12 = .ok (.iload 4, 2) := by decide +kernel
theorem d13_14 : decode prog_2_method_11_code 14 = .ok (.ifCond .le 258, 3) := by decide +kernel
theorem d13_17 : decode prog_2_method_11_code 17 = .ok (.iload 4, 2) := by decide +kernel
theorem d13_19 : decode prog_2_method_11_code 19 = .ok (.iconst 1, 1) := by decide +kernel
theorem d13_20 : decode prog_2_method_11_code 20 = .ok (.isub, 1) := by decide +kernel
theorem d13_21 : decode prog_2_method_11_code 21 = .ok (.istore 6, 2) := by decide +kernel
theorem d13_23 : decode prog_2_method_11_code 23 = .ok (.aload_n 0, 1) := by decide +kernel
theorem d13_24 : decode prog_2_method_11_code 24 = .ok (.getfield 42, 3) := by decide +kernel
theorem d13_27 : decode prog_2_method_11_code 27 = .ok (.iload 6, 2) := by decide +kernel
theorem d13_29 : decode prog_2_method_11_code 29 = .ok (.iaload, 1) := by decide +kernel
theorem d13_30 : decode prog_2_method_11_code 30 = .ok (.istore 7, 2) := by decide +kernel
theorem d13_32 : decode prog_2_method_11_code 32 = .ok (.aload_n 0, 1) := by decide +kernel
theorem d13_33 : decode prog_2_method_11_code 33 = .ok (.getfield 45, 3) := by decide +kernel
theorem d13_36 : decode prog_2_method_11_code 36 = .ok (.iload 6, 2) := by decide +kernel
theorem d13_38 : decode prog_2_method_11_code 38 = .ok (.iaload, 1) := by decide +kernel
theorem d13_39 : decode prog_2_method_11_code 39 = .ok (.istore 8, 2) := by decide +kernel
theorem d13_41 : decode prog_2_method_11_code 41 = .ok (.aload_n 0, 1) := by decide +kernel
theorem d13_42 : decode prog_2_method_11_code 42 = .ok (.getfield 54, 3) := by decide +kernel
theorem d13_45 : decode prog_2_method_11_code 45 = .ok (.iload 6, 2) := by decide +kernel
theorem d13_47 : decode prog_2_method_11_code 47 = .ok (.iaload, 1) := by decide +kernel
theorem d13_48 : decode prog_2_method_11_code 48 = .ok (.ifCond .ne 115, 3) := by decide +kernel
theorem d13_51 : decode prog_2_method_11_code 51 = .ok (.iload_n 1, 1) := by decide +kernel
theorem d13_52 : decode prog_2_method_11_code 52 = .ok (.iload 7, 2) := by decide +kernel
theorem d13_54 : decode prog_2_method_11_code 54 = .ok (.iload 8, 2) := by decide +kernel
theorem d13_56 : decode prog_2_method_11_code 56 = .ok (.invokestatic 101, 3) := by decide +kernel
theorem d13_59 : decode prog_2_method_11_code 59 = .ok (.istore 9, 2) := by decide +kernel
theorem d13_61 : decode prog_2_method_11_code 61 = .ok (.iload 9, 2) := by decide +kernel
theorem d13_63 : decode prog_2_method_11_code 63 = .ok (.iconst (-1), 1) := by decide +kernel
theorem d13_64 : decode prog_2_method_11_code 64 = .ok (.if_icmp .ne 18, 3) := by decide +kernel
theorem d13_67 : decode prog_2_method_11_code 67 = .ok (.aload_n 0, 1) := by decide +kernel
theorem d13_68 : decode prog_2_method_11_code 68 = .ok (.getfield 38, 3) := by decide +kernel
theorem d13_71 : decode prog_2_method_11_code 71 = .ok (.iload_n 1, 1) := by decide +kernel
theorem d13_72 : decode prog_2_method_11_code 72 = .ok (.aaload, 1) := by decide +kernel
theorem d13_73 : decode prog_2_method_11_code 73 = .ok (.iload 7, 2) := by decide +kernel
theorem d13_75 : decode prog_2_method_11_code 75 = .ok (.iload 8, 2) := by decide +kernel
theorem d13_77 : decode prog_2_method_11_code 77 = .ok (.invokevirtual 104, 3) := by decide +kernel
theorem d13_80 : decode prog_2_method_11_code 80 = .ok (.istore 9, 2) := by decide +kernel
theorem d13_82 : decode prog_2_method_11_code 82 = .ok (.iload 9, 2) := by decide +kernel
theorem d13_84 : decode prog_2_method_11_code 84 = .ok (.iconst (-1), 1) := by decide +kernel
theorem d13_85 : decode prog_2_method_11_code 85 = .ok (.if_icmp .ne 68, 3) := by decide +kernel
theorem d13_88 : decode prog_2_method_11_code 88 = .ok (.aload_n 0, 1) := by decide +kernel
theorem d13_89 : decode prog_2_method_11_code 89 = .ok (.getfield 9, 3) := by decide +kernel
theorem d13_92 : decode prog_2_method_11_code 92 = .ok (.iload 7, 2) := by decide +kernel
theorem d13_94 : decode prog_2_method_11_code 94 = .ok (.iaload, 1) := by decide +kernel
theorem d13_95 : decode prog_2_method_11_code 95 = .ok (.aload_n 0, 1) := by decide +kernel
theorem d13_96 : decode prog_2_method_11_code 96 = .ok (.getfield 9, 3) := by decide +kernel
theorem d13_99 : decode prog_2_method_11_code 99 = .ok (.iload 8, 2) := by decide +kernel
theorem d13_101 : decode prog_2_method_11_code 101 = .ok (.iaload, 1) := by decide +kernel
theorem d13_102 : decode prog_2_method_11_code 102 = .ok (.invokestatic 108, 3) := by decide +kernel
theorem d13_105 : decode prog_2_method_11_code 105 = .ok (.istore 10, 2) := by decide +kernel
theorem d13_107 : decode prog_2_method_11_code 107 = .ok (.aload_n 0, 1) := by decide +kernel
theorem d13_108 : decode prog_2_method_11_code 108 = .ok (.getfield 48, 3) := by decide +kernel
theorem d13_111 : decode prog_2_method_11_code 111 = .ok (.iload 6, 2) := by decide +kernel
theorem d13_113 : decode prog_2_method_11_code 113 = .ok (.iload 10, 2) := by decide +kernel
theorem d13_115 : decode prog_2_method_11_code 115 = .ok (.iastore, 1) := by decide +kernel
theorem d13_116 : decode prog_2_method_11_code 116 = .ok (.aload_n 0, 1) := by decide +kernel
theorem d13_117 : decode prog_2_method_11_code 117 = .ok (.getfield 54, 3) := by decide +kernel
theorem d13_120 : decode prog_2_method_11_code 120 = .ok (.iload 6, 2) := by decide +kernel
theorem d13_122 : decode prog_2_method_11_code 122 = .ok (.iconst 1, 1) := by decide +kernel
theorem d13_123 : decode prog_2_method_11_code 123 = .ok (.iastore, 1) := by decide +kernel
theorem d13_124 : decode prog_2_method_11_code 124 = .ok (.aload_n 0, 1) := by decide +kernel
theorem d13_125 : decode prog_2_method_11_code 125 = .ok (.iload 4, 2) := by decide +kernel
theorem d13_127 : decode prog_2_method_11_code 127 = .ok (.aload_n 0, 1) := by decide +kernel
theorem d13_128 : decode prog_2_method_11_code 128 = .ok (.iload 7, 2) := by decide +kernel
theorem d13_130 : decode prog_2_method_11_code 130 = .ok (.iload 10, 2) := by decide +kernel
theorem d13_132 : decode prog_2_method_11_code 132 = .ok (.iconst 0, 1) := by decide +kernel
theorem d13_133 : decode prog_2_method_11_code 133 = .ok (.invokevirtual 113, 3) := by decide +kernel
theorem d13_136 : decode prog_2_method_11_code 136 = .ok (.aload_n 0, 1) := by decide +kernel
theorem d13_137 : decode prog_2_method_11_code 137 = .ok (.iload 8, 2) := by decide +kernel
theorem d13_139 : decode prog_2_method_11_code 139 = .ok (.iload 10, 2) := by decide +kernel
theorem d13_141 : decode prog_2_method_11_code 141 = .ok (.iconst 0, 1) := by decide +kernel
theorem d13_142 : decode prog_2_method_11_code 142 = .ok (.invokevirtual 113, 3) := by decide +kernel
theorem d13_145 : decode prog_2_method_11_code 145 = .ok (.invokevirtual 98, 3) := by decide +kernel
theorem d13_148 : decode prog_2_method_11_code 148 = .ok (.istore 4, 2) := by decide +kernel
theorem d13_150 : decode prog_2_method_11_code 150 = .ok (.goto 10, 3) := by decide +kernel
theorem d13_153 : decode prog_2_method_11_code 153 = .ok (.iload 9, 2) := by decide +kernel
theorem d13_155 : decode prog_2_method_11_code 155 = .ok (.istore 5, 2) := by decide +kernel
theorem d13_157 : decode prog_2_method_11_code 157 = .ok (.iinc 4 (-1), 3) := by decide +kernel
theorem d13_160 : decode prog_2_method_11_code 160 = .ok (.goto 109, 3) := by decide +kernel
theorem d13_163 : decode prog_2_method_11_code 163 = .ok (.aload_n 0, 1) := by decide +kernel
theorem d13_164 : decode prog_2_method_11_code 164 = .ok (.getfield 54, 3) := by decide +kernel
theorem d13_167 : decode prog_2_method_11_code 167 = .ok (.iload 6, 2) := by decide +kernel
theorem d13_169 : decode prog_2_method_11_code 169 = .ok (.iaload, 1) := by decide +kernel
theorem d13_170 : decode prog_2_method_11_code 170 = .ok (.iconst 1, 1) := by decide +kernel
theorem d13_171 : decode prog_2_method_11_code 171 = .ok (.if_icmp .ne 58, 3) := by decide +kernel
theorem d13_174 : decode prog_2_method_11_code 174 = .ok (.aload_n 0, 1) := by decide +kernel
theorem d13_175 : decode prog_2_method_11_code 175 = .ok (.getfield 48, 3) := by decide +kernel
theorem d13_178 : decode prog_2_method_11_code 178 = .ok (.iload 6, 2) := by decide +kernel
theorem d13_180 : decode prog_2_method_11_code 180 = .ok (.iaload, 1) := by decide +kernel
theorem d13_181 : decode prog_2_method_11_code 181 = .ok (.istore 9, 2) := by decide +kernel
theorem d13_183 : decode prog_2_method_11_code 183 = .ok (.aload_n 0, 1) := by decide +kernel
theorem d13_184 : decode prog_2_method_11_code 184 = .ok (.getfield 51, 3) := by decide +kernel
theorem d13_187 : decode prog_2_method_11_code 187 = .ok (.iload 6, 2) := by decide +kernel
theorem d13_189 : decode prog_2_method_11_code 189 = .ok (.iload 5, 2) := by decide +kernel
theorem d13_191 : decode prog_2_method_11_code 191 = .ok (.iastore, 1) := by decide +kernel
theorem d13_192 : decode prog_2_method_11_code 192 = .ok (.aload_n 0, 1) := by decide +kernel
theorem d13_193 : decode prog_2_method_11_code 193 = .ok (.getfield 54, 3) := by decide +kernel
theorem d13_196 : decode prog_2_method_11_code 196 = .ok (.iload 6, 2) := by decide +kernel
theorem d13_198 : decode prog_2_method_11_code 198 = .ok (.iconst 2, 1) := by decide +kernel
theorem d13_199 : decode prog_2_method_11_code 199 = .ok (.iastore, 1) := by decide +kernel
theorem d13_200 : decode prog_2_method_11_code 200 = .ok (.aload_n 0, 1) := by decide +kernel
theorem d13_201 : decode prog_2_method_11_code 201 = .ok (.iload 4, 2) := by decide +kernel
theorem d13_203 : decode prog_2_method_11_code 203 = .ok (.aload_n 0, 1) := by decide +kernel
theorem d13_204 : decode prog_2_method_11_code 204 = .ok (.iload 7, 2) := by decide +kernel
theorem d13_206 : decode prog_2_method_11_code 206 = .ok (.iload 9, 2) := by decide +kernel
theorem d13_208 : decode prog_2_method_11_code 208 = .ok (.iconst 1, 1) := by decide +kernel
theorem d13_209 : decode prog_2_method_11_code 209 = .ok (.invokevirtual 113, 3) := by decide +kernel
theorem d13_212 : decode prog_2_method_11_code 212 = .ok (.aload_n 0, 1) := by decide +kernel
theorem d13_213 : decode prog_2_method_11_code 213 = .ok (.iload 8, 2) := by decide +kernel
theorem d13_215 : decode prog_2_method_11_code 215 = .ok (.iload 9, 2) := by decide +kernel
theorem d13_217 : decode prog_2_method_11_code 217 = .ok (.iconst 1, 1) := by decide +kernel
theorem d13_218 : decode prog_2_method_11_code 218 = .ok (.invokevirtual 113, 3) := by decide +kernel
theorem d13_221 : decode prog_2_method_11_code 221 = .ok (.invokevirtual 98, 3) := by decide +kernel
theorem d13_224 : decode prog_2_method_11_code 224 = .ok (.istore 4, 2) := by decide +kernel
theorem d13_226 : decode prog_2_method_11_code 226 = .ok (.goto 43, 3) := by decide +kernel
theorem d13_229 : decode prog_2_method_11_code 229 = .ok (.aload_n 0, 1) := by decide +kernel
theorem d13_230 : decode prog_2_method_11_code 230 = .ok (.aload_n 0, 1) := by decide +kernel
theorem d13_231 : decode prog_2_method_11_code 231 = .ok (.getfield 48, 3) := by decide +kernel
theorem d13_234 : decode prog_2_method_11_code 234 = .ok (.iload 6, 2) := by decide +kernel
theorem d13_236 : decode prog_2_method_11_code 236 = .ok (.iaload, 1) := by decide +kernel
theorem d13_237 : decode prog_2_method_11_code 237 = .ok (.aload_n 0, 1) := by decide +kernel
theorem d13_238 : decode prog_2_method_11_code 238 = .ok (.getfield 51, 3) := by decide +kernel
theorem d13_241 : decode prog_2_method_11_code 241 = .ok (.iload 6, 2) := by decide +kernel
theorem d13_243 : decode prog_2_method_11_code 243 = .ok (.iaload, 1) := by decide +kernel
theorem d13_244 : decode prog_2_method_11_code 244 = .ok (.iload 5, 2) := by decide +kernel
theorem d13_246 : decode prog_2_method_11_code 246 = .ok (.invokevirtual 81, 3) := by decide +kernel
theorem d13_249 : decode prog_2_method_11_code 249 = .ok (.istore 5, 2) := by decide +kernel
theorem d13_251 : decode prog_2_method_11_code 251 = .ok (.aload_n 0, 1) := by decide +kernel
theorem d13_252 : decode prog_2_method_11_code 252 = .ok (.getfield 38, 3) := by decide +kernel
theorem d13_255 : decode prog_2_method_11_code 255 = .ok (.iload_n 1, 1) := by decide +kernel
theorem d13_256 : decode prog_2_method_11_code 256 = .ok (.aaload, 1) := by decide +kernel
theorem d13_257 : decode prog_2_method_11_code 257 = .ok (.iload 7, 2) := by decide +kernel
theorem d13_259 : decode prog_2_method_11_code 259 = .ok (.iload 8, 2) := by decide +kernel
theorem d13_261 : decode prog_2_method_11_code 261 = .ok (.iload 5, 2) := by decide +kernel
theorem d13_263 : decode prog_2_method_11_code 263 = .ok (.invokevirtual 117, 3) := by decide +kernel
theorem d13_266 : decode prog_2_method_11_code 266 = .ok (.iinc 4 (-1), 3) := by decide +kernel
theorem d13_269 : decode prog_2_method_11_code 269 = .ok (.goto (-257), 3) := by decide +kernel
theorem d13_272 : decode prog_2_method_11_code 272 = .ok (.iload 5, 2) := by decide +kernel
theorem d13_274 : decode prog_2_method_11_code 274 = .ok (.ireturn, 1) := by decide +kernel
theorem ef_13 (m : MethodId) (x0 : Addr) (x1 : Int32) (x2 : Int32) (x3 : Int32) : entryFrame m #[(.ref x0), (.int x1), (.int x2), (.int x3)] 11 = mkF m 0 #[.val (.ref x0), .val (.int x1), .val (.int x2), .val (.int x3), .unset, .unset, .unset, .unset, .unset, .unset, .unset] [] := by first | (simp [entryFrame, mkF, argsToLocals, Value.category]; done) | rfl
set_option maxRecDepth 65536 in
set_option maxHeartbeats 40000000 in
theorem rx12 (l : Launch) (Z : State) (a0 : Array Value) (hw : ∀ d ∈ tables_1, d.before a0 Z = true) (a : Addr) (x0 : Int32) (x1 : Int32) (x2 : Int32) (h0 : Heap) (n0 : Nat) (q0 q1 : Addr) (d : Nat → Addr) (sz vr : Int32) (f : Nat → Int → Value) (e0_ : x0 = 0) (e1_ : x1 = 2) (e2_ : x2 = 3) (B : OwnB Z h0 n0 a q0 q1 d sz vr f) (hsz : sz = 4) (r_6_0 : f 6 0 = (.ref q0)) (r_12_675 : f 12 675 = (.int (-1 : Int32))) (r_0_2 : f 0 2 = (.int (0 : Int32))) (r_0_3 : f 0 3 = (.int (1 : Int32))) (r_1_2 : f 1 2 = (.int (0 : Int32))) (r_2_2 : f 2 2 = (.int (1 : Int32))) (r_4_647 : f 4 647 = (.int (-1 : Int32))) :
    Con l Z (⟨"com/example/glacis/glacis/analysis/Bdd", "apply", "(III)I"⟩ : MethodName) prog_2_method_11_code 11 (some .int) [] ({ frames := 3, cells := 0, slots := 0, locals := 49 } : Room) #[(.ref a), (.int x0), (.int x1), (.int x2)] h0 (fun v h L => v = some (.int (4 : Int32)) ∧ Fr n0 L ∧ OwnB Z h n0 a q0 q1 d (5 : Int32) vr (own_up (own_up (own_up (own_up (own_up (own_up (own_up (own_up (own_up (own_up (own_up (own_up (own_up (own_up (own_up (own_up (own_up (own_up (own_up (own_up (own_up f 7 0 (.int (2 : Int32))) 8 0 (.int (3 : Int32))) 11 0 (.int (0 : Int32))) 9 0 (.int (0 : Int32))) 11 0 (.int (1 : Int32))) 7 1 (.int (0 : Int32))) 8 1 (.int (3 : Int32))) 11 1 (.int (0 : Int32))) 10 0 (.int (0 : Int32))) 11 0 (.int (2 : Int32))) 7 1 (.int (1 : Int32))) 8 1 (.int (3 : Int32))) 11 1 (.int (0 : Int32))) 0 4 (.int (0 : Int32))) 1 4 (.int (0 : Int32))) 2 4 (.int (3 : Int32))) 3 4 (.int (-1 : Int32))) 4 647 (.int (4 : Int32))) 12 675 (.int (2 : Int32))) 13 675 (.int (3 : Int32))) 14 675 (.int (4 : Int32)))) := by
  refine Con.of (plainFor_of_name pn_Bdd) ?_
  intro p e s m below meth c s₁ hx hby hml hown hnm hret hlk hZ X0 e0
  refine Go.cast (ef_13 m a x0 x1 x2) ?_
  replace hown : s.vm.findClass "com/example/glacis/glacis/analysis/Bdd" = some m.cls := hown
  subst e0_ e1_ e2_ hsz
  show Go p e below _ (s₁.setTop (mkF m 0 #[.val (.ref a), .val (.int (0 : Int32)), .val (.int (2 : Int32)), .val (.int (3 : Int32)), .unset, .unset, .unset, .unset, .unset, .unset, .unset] []))
  refine Go.aloadN (pc' := 1) X0 hx hby d13_0 rfl rfl rfl ?_
  refine Go.iconst (pc' := 2) X0 hx hby d13_1 rfl (v := (0 : Int32)) (by decide) ?_
  refine Go.iloadN (pc' := 3) X0 hx hby d13_2 rfl rfl ?_
  refine Go.iloadN (pc' := 4) X0 hx hby d13_3 rfl rfl ?_
  refine Go.callP (C := "com/example/glacis/glacis/analysis/Bdd") (pc' := 7) (a := a) (W := 0) (argsL := [(.int (0 : Int32)), (.int (2 : Int32)), (.int (3 : Int32))]) (rest := []) X0 hx hby hZ hown (hw _ (List.mem_of_getElem? (i := 109) rfl)) (hw _ (List.mem_of_getElem? (i := 110) rfl)) (own_sel (w := (⟨"com/example/glacis/glacis/analysis/Bdd", "test", "(I)I"⟩ : MethodName)) (y := (⟨"com/example/glacis/glacis/analysis/Bdd", "push", "(III)I"⟩ : MethodName)) (hw _ (List.mem_of_getElem? (i := 84) rfl)) rfl (hw _ (List.mem_of_getElem? (i := 111) rfl)) (hw _ (List.mem_of_getElem? (i := 110) rfl)) (by decide)) (hw _ (List.mem_of_getElem? (i := 111) rfl)) (hw _ (List.mem_of_getElem? (i := 4) rfl)) (hw _ (List.mem_of_getElem? (i := 112) rfl)) (by decide) (rx13 l Z a0 hw a (0 : Int32) (2 : Int32) (3 : Int32) h0 n0 q0 q1 d (4 : Int32) vr f rfl rfl rfl B ) e0 B.2.2.2.2.1 (by decide) (by decide) (by rw [hml]; rfl) pd_8 rfl rfl rfl (Nat.le_of_eq rfl) d13_4 rfl (by decide) (by decide) ?_
  rintro r3 T4 L5 X6 ⟨rfl, N1, B2⟩
  show Go p e below _ (T4.setTop (mkF m 7 #[.val (.ref a), .val (.int (0 : Int32)), .val (.int (2 : Int32)), .val (.int (3 : Int32)), .unset, .unset, .unset, .unset, .unset, .unset, .unset] [(.int (1 : Int32))]))
  refine Go.istore (Ls' := #[.val (.ref a), .val (.int (0 : Int32)), .val (.int (2 : Int32)), .val (.int (3 : Int32)), .val (.int (1 : Int32)), .unset, .unset, .unset, .unset, .unset, .unset]) (pc' := 9) X6 hx hby d13_7 rfl rfl ?_
  refine Go.iconst (pc' := 10) X6 hx hby d13_9 rfl (v := (-1 : Int32)) (by decide) ?_
  refine Go.istore (Ls' := #[.val (.ref a), .val (.int (0 : Int32)), .val (.int (2 : Int32)), .val (.int (3 : Int32)), .val (.int (1 : Int32)), .val (.int (-1 : Int32)), .unset, .unset, .unset, .unset, .unset]) (pc' := 12) X6 hx hby d13_10 rfl rfl ?_
  refine Go.iload (pc' := 14) X6 hx hby d13_12 rfl rfl ?_
  refine Go.ifN (pc' := 17) X6 hx hby d13_14 rfl (show ¬ ((1 : Int32) ≤ 0) from by decide) ?_
  refine Go.iload (pc' := 19) X6 hx hby d13_17 rfl rfl ?_
  refine Go.iconst (pc' := 20) X6 hx hby d13_19 rfl (v := (1 : Int32)) (by decide) ?_
  refine Go.isub (pc' := 21) X6 hx hby d13_20 rfl ?_
  change Go p e below _ (T4.setTop (mkF m 21 #[.val (.ref a), .val (.int (0 : Int32)), .val (.int (2 : Int32)), .val (.int (3 : Int32)), .val (.int (1 : Int32)), .val (.int (-1 : Int32)), .unset, .unset, .unset, .unset, .unset] [(.int (0 : Int32))]))
  refine Go.istore (Ls' := #[.val (.ref a), .val (.int (0 : Int32)), .val (.int (2 : Int32)), .val (.int (3 : Int32)), .val (.int (1 : Int32)), .val (.int (-1 : Int32)), .val (.int (0 : Int32)), .unset, .unset, .unset, .unset]) (pc' := 23) X6 hx hby d13_21 rfl rfl ?_
  refine Go.aloadN (pc' := 24) X6 hx hby d13_23 rfl rfl rfl ?_
  refine Go.getF (pc' := 27) X6 hx hby hZ hown (hw _ (List.mem_of_getElem? (i := 44) rfl)) Via.refl rfl B2.f7 d13_24 rfl ?_
  intro T7 X8 e9
  show Go p e below _ (T7.setTop (mkF m 27 #[.val (.ref a), .val (.int (0 : Int32)), .val (.int (2 : Int32)), .val (.int (3 : Int32)), .val (.int (1 : Int32)), .val (.int (-1 : Int32)), .val (.int (0 : Int32)), .unset, .unset, .unset, .unset] [(.ref (d 7))]))
  refine Go.iload (pc' := 29) X8 hx hby d13_27 rfl rfl ?_
  refine Go.iaload (pc' := 30) (i := 0) (v := (.int (2 : Int32))) X8 hx hby hZ e9 B2.a7 d13_29 rfl (by decide) (by decide) (by decide) rfl ?_
  refine Go.istore (Ls' := #[.val (.ref a), .val (.int (0 : Int32)), .val (.int (2 : Int32)), .val (.int (3 : Int32)), .val (.int (1 : Int32)), .val (.int (-1 : Int32)), .val (.int (0 : Int32)), .val (.int (2 : Int32)), .unset, .unset, .unset]) (pc' := 32) X8 hx hby d13_30 rfl rfl ?_
  refine Go.aloadN (pc' := 33) X8 hx hby d13_32 rfl rfl rfl ?_
  refine Go.getF (pc' := 36) X8 hx hby hZ hown (hw _ (List.mem_of_getElem? (i := 46) rfl)) Via.refl e9 B2.f8 d13_33 rfl ?_
  intro T10 X11 e12
  show Go p e below _ (T10.setTop (mkF m 36 #[.val (.ref a), .val (.int (0 : Int32)), .val (.int (2 : Int32)), .val (.int (3 : Int32)), .val (.int (1 : Int32)), .val (.int (-1 : Int32)), .val (.int (0 : Int32)), .val (.int (2 : Int32)), .unset, .unset, .unset] [(.ref (d 8))]))
  refine Go.iload (pc' := 38) X11 hx hby d13_36 rfl rfl ?_
  refine Go.iaload (pc' := 39) (i := 0) (v := (.int (3 : Int32))) X11 hx hby hZ e12 B2.a8 d13_38 rfl (by decide) (by decide) (by decide) rfl ?_
  refine Go.istore (Ls' := #[.val (.ref a), .val (.int (0 : Int32)), .val (.int (2 : Int32)), .val (.int (3 : Int32)), .val (.int (1 : Int32)), .val (.int (-1 : Int32)), .val (.int (0 : Int32)), .val (.int (2 : Int32)), .val (.int (3 : Int32)), .unset, .unset]) (pc' := 41) X11 hx hby d13_39 rfl rfl ?_
  refine Go.aloadN (pc' := 42) X11 hx hby d13_41 rfl rfl rfl ?_
  refine Go.getF (pc' := 45) X11 hx hby hZ hown (hw _ (List.mem_of_getElem? (i := 52) rfl)) Via.refl e12 B2.f11 d13_42 rfl ?_
  intro T13 X14 e15
  show Go p e below _ (T13.setTop (mkF m 45 #[.val (.ref a), .val (.int (0 : Int32)), .val (.int (2 : Int32)), .val (.int (3 : Int32)), .val (.int (1 : Int32)), .val (.int (-1 : Int32)), .val (.int (0 : Int32)), .val (.int (2 : Int32)), .val (.int (3 : Int32)), .unset, .unset] [(.ref (d 11))]))
  refine Go.iload (pc' := 47) X14 hx hby d13_45 rfl rfl ?_
  refine Go.iaload (pc' := 48) (i := 0) (v := (.int (0 : Int32))) X14 hx hby hZ e15 B2.a11 d13_47 rfl (by decide) (by decide) (by decide) rfl ?_
  refine Go.ifN (pc' := 51) X14 hx hby d13_48 rfl (show ¬ ((0 : Int32) ≠ 0) from by decide) ?_
  refine Go.iloadN (pc' := 52) X14 hx hby d13_51 rfl rfl ?_
  refine Go.iload (pc' := 54) X14 hx hby d13_52 rfl rfl ?_
  refine Go.iload (pc' := 56) X14 hx hby d13_54 rfl rfl ?_
  refine Go.callS (pc' := 59) (W := 0) (argsL := [(.int (0 : Int32)), (.int (2 : Int32)), (.int (3 : Int32))]) (rest := []) X14 hx hby hZ hown (hw _ (List.mem_of_getElem? (i := 120) rfl)) (hw _ (List.mem_of_getElem? (i := 121) rfl)) (hw _ (List.mem_of_getElem? (i := 4) rfl)) (hw _ (List.mem_of_getElem? (i := 122) rfl)) (by decide) (rx16 l Z a0 hw  (0 : Int32) (2 : Int32) (3 : Int32) T4.heap rfl rfl rfl) e15 (by decide) (by decide) (by rw [hml]; rfl) pd_8 rfl rfl rfl (Nat.le_of_eq rfl) d13_56 rfl (by decide) (by decide) ?_
  rintro r17 T18 L19 X20 ⟨rfl, rfl, e16⟩
  rw [List.append_nil] at X20
  show Go p e below _ (T18.setTop (mkF m 59 #[.val (.ref a), .val (.int (0 : Int32)), .val (.int (2 : Int32)), .val (.int (3 : Int32)), .val (.int (1 : Int32)), .val (.int (-1 : Int32)), .val (.int (0 : Int32)), .val (.int (2 : Int32)), .val (.int (3 : Int32)), .unset, .unset] [(.int (-1 : Int32))]))
  refine Go.istore (Ls' := #[.val (.ref a), .val (.int (0 : Int32)), .val (.int (2 : Int32)), .val (.int (3 : Int32)), .val (.int (1 : Int32)), .val (.int (-1 : Int32)), .val (.int (0 : Int32)), .val (.int (2 : Int32)), .val (.int (3 : Int32)), .val (.int (-1 : Int32)), .unset]) (pc' := 61) X20 hx hby d13_59 rfl rfl ?_
  refine Go.iload (pc' := 63) X20 hx hby d13_61 rfl rfl ?_
  refine Go.iconst (pc' := 64) X20 hx hby d13_63 rfl (v := (-1 : Int32)) (by decide) ?_
  refine Go.icmpN (pc' := 67) X20 hx hby d13_64 rfl (show ¬ ((-1 : Int32) ≠ (-1 : Int32)) from by decide) ?_
  refine Go.aloadN (pc' := 68) X20 hx hby d13_67 rfl rfl rfl ?_
  refine Go.getF (pc' := 71) X20 hx hby hZ hown (hw _ (List.mem_of_getElem? (i := 42) rfl)) Via.refl e16 B2.f6 d13_68 rfl ?_
  intro T21 X22 e23
  show Go p e below _ (T21.setTop (mkF m 71 #[.val (.ref a), .val (.int (0 : Int32)), .val (.int (2 : Int32)), .val (.int (3 : Int32)), .val (.int (1 : Int32)), .val (.int (-1 : Int32)), .val (.int (0 : Int32)), .val (.int (2 : Int32)), .val (.int (3 : Int32)), .val (.int (-1 : Int32)), .unset] [(.ref (d 6))]))
  refine Go.iloadN (pc' := 72) X22 hx hby d13_71 rfl rfl ?_
  refine Go.aaload (pc' := 73) (i := 0) (v := (.ref q0)) X22 hx hby hZ e23 B2.a6 rfl d13_72 rfl (by decide) (by decide) (by decide) r_6_0 ?_
  refine Go.iload (pc' := 75) X22 hx hby d13_73 rfl rfl ?_
  refine Go.iload (pc' := 77) X22 hx hby d13_75 rfl rfl ?_
  refine Go.callV (C := "com/example/glacis/glacis/analysis/Bdd$Computed") (pc' := 80) (a := q0) (W := 0) (argsL := [(.int (2 : Int32)), (.int (3 : Int32))]) (rest := []) X22 hx hby hZ hown (hw _ (List.mem_of_getElem? (i := 123) rfl)) (hw _ (List.mem_of_getElem? (i := 124) rfl)) (notFace_of_selects (args := #[]) (mvT hZ (hw _ (List.mem_of_getElem? (i := 126) rfl)))) (hw _ (List.mem_of_getElem? (i := 126) rfl)) (hw _ (List.mem_of_getElem? (i := 125) rfl)) (hw _ (List.mem_of_getElem? (i := 30) rfl)) (hw _ (List.mem_of_getElem? (i := 127) rfl)) (by decide) (rx17 l Z a0 hw q0 (2 : Int32) (3 : Int32) T4.heap n0 a q1 d (4 : Int32) vr (own_up (own_up (own_up f 7 0 (.int (2 : Int32))) 8 0 (.int (3 : Int32))) 11 0 (.int (0 : Int32))) rfl rfl B2 r_12_675) e23 B2.2.2.2.2.2.1 (by decide) (by decide) (by rw [hml]; rfl) pd_6 rfl rfl rfl (Nat.le_of_eq rfl) d13_77 rfl (by decide) (by decide) ?_
  rintro r26 T27 L28 X29 ⟨rfl, N24, B25⟩
  show Go p e below _ (T27.setTop (mkF m 80 #[.val (.ref a), .val (.int (0 : Int32)), .val (.int (2 : Int32)), .val (.int (3 : Int32)), .val (.int (1 : Int32)), .val (.int (-1 : Int32)), .val (.int (0 : Int32)), .val (.int (2 : Int32)), .val (.int (3 : Int32)), .val (.int (-1 : Int32)), .unset] [(.int (-1 : Int32))]))
  refine Go.istore (Ls' := #[.val (.ref a), .val (.int (0 : Int32)), .val (.int (2 : Int32)), .val (.int (3 : Int32)), .val (.int (1 : Int32)), .val (.int (-1 : Int32)), .val (.int (0 : Int32)), .val (.int (2 : Int32)), .val (.int (3 : Int32)), .val (.int (-1 : Int32)), .unset]) (pc' := 82) X29 hx hby d13_80 rfl rfl ?_
  refine Go.iload (pc' := 84) X29 hx hby d13_82 rfl rfl ?_
  refine Go.iconst (pc' := 85) X29 hx hby d13_84 rfl (v := (-1 : Int32)) (by decide) ?_
  refine Go.icmpN (pc' := 88) X29 hx hby d13_85 rfl (show ¬ ((-1 : Int32) ≠ (-1 : Int32)) from by decide) ?_
  refine Go.aloadN (pc' := 89) X29 hx hby d13_88 rfl rfl rfl ?_
  refine Go.getF (pc' := 92) X29 hx hby hZ hown (hw _ (List.mem_of_getElem? (i := 12) rfl)) Via.refl rfl B25.f0 d13_89 rfl ?_
  intro T30 X31 e32
  show Go p e below _ (T30.setTop (mkF m 92 #[.val (.ref a), .val (.int (0 : Int32)), .val (.int (2 : Int32)), .val (.int (3 : Int32)), .val (.int (1 : Int32)), .val (.int (-1 : Int32)), .val (.int (0 : Int32)), .val (.int (2 : Int32)), .val (.int (3 : Int32)), .val (.int (-1 : Int32)), .unset] [(.ref (d 0))]))
  refine Go.iload (pc' := 94) X31 hx hby d13_92 rfl rfl ?_
  refine Go.iaload (pc' := 95) (i := 2) (v := (.int (0 : Int32))) X31 hx hby hZ e32 B25.a0 d13_94 rfl (by decide) (by decide) (by decide) r_0_2 ?_
  refine Go.aloadN (pc' := 96) X31 hx hby d13_95 rfl rfl rfl ?_
  refine Go.getF (pc' := 99) X31 hx hby hZ hown (hw _ (List.mem_of_getElem? (i := 12) rfl)) Via.refl e32 B25.f0 d13_96 rfl ?_
  intro T33 X34 e35
  show Go p e below _ (T33.setTop (mkF m 99 #[.val (.ref a), .val (.int (0 : Int32)), .val (.int (2 : Int32)), .val (.int (3 : Int32)), .val (.int (1 : Int32)), .val (.int (-1 : Int32)), .val (.int (0 : Int32)), .val (.int (2 : Int32)), .val (.int (3 : Int32)), .val (.int (-1 : Int32)), .unset] [(.ref (d 0)), (.int (0 : Int32))]))
  refine Go.iload (pc' := 101) X34 hx hby d13_99 rfl rfl ?_
  refine Go.iaload (pc' := 102) (i := 3) (v := (.int (1 : Int32))) X34 hx hby hZ e35 B25.a0 d13_101 rfl (by decide) (by decide) (by decide) r_0_3 ?_
  refine Go.callS (pc' := 105) (W := 0) (argsL := [(.int (0 : Int32)), (.int (1 : Int32))]) (rest := []) X34 hx hby hZ hown (hw _ (List.mem_of_getElem? (i := 113) rfl)) (hw _ (List.mem_of_getElem? (i := 114) rfl)) (hw _ (List.mem_of_getElem? (i := 115) rfl)) (hw _ (List.mem_of_getElem? (i := 116) rfl)) (by decide) (rx19 l Z a0 hw  (0 : Int32) (1 : Int32) T27.heap rfl rfl) e35 (by decide) (by decide) (by rw [hml]; rfl) pd_6 rfl rfl rfl (Nat.le_of_eq rfl) d13_102 rfl (by decide) (by decide) ?_
  rintro r37 T38 L39 X40 ⟨rfl, rfl, e36⟩
  rw [List.append_nil] at X40
  show Go p e below _ (T38.setTop (mkF m 105 #[.val (.ref a), .val (.int (0 : Int32)), .val (.int (2 : Int32)), .val (.int (3 : Int32)), .val (.int (1 : Int32)), .val (.int (-1 : Int32)), .val (.int (0 : Int32)), .val (.int (2 : Int32)), .val (.int (3 : Int32)), .val (.int (-1 : Int32)), .unset] [(.int (0 : Int32))]))
  refine Go.istore (Ls' := #[.val (.ref a), .val (.int (0 : Int32)), .val (.int (2 : Int32)), .val (.int (3 : Int32)), .val (.int (1 : Int32)), .val (.int (-1 : Int32)), .val (.int (0 : Int32)), .val (.int (2 : Int32)), .val (.int (3 : Int32)), .val (.int (-1 : Int32)), .val (.int (0 : Int32))]) (pc' := 107) X40 hx hby d13_105 rfl rfl ?_
  refine Go.aloadN (pc' := 108) X40 hx hby d13_107 rfl rfl rfl ?_
  refine Go.getF (pc' := 111) X40 hx hby hZ hown (hw _ (List.mem_of_getElem? (i := 48) rfl)) Via.refl e36 B25.f9 d13_108 rfl ?_
  intro T41 X42 e43
  show Go p e below _ (T41.setTop (mkF m 111 #[.val (.ref a), .val (.int (0 : Int32)), .val (.int (2 : Int32)), .val (.int (3 : Int32)), .val (.int (1 : Int32)), .val (.int (-1 : Int32)), .val (.int (0 : Int32)), .val (.int (2 : Int32)), .val (.int (3 : Int32)), .val (.int (-1 : Int32)), .val (.int (0 : Int32))] [(.ref (d 9))]))
  refine Go.iload (pc' := 113) X42 hx hby d13_111 rfl rfl ?_
  refine Go.iload (pc' := 115) X42 hx hby d13_113 rfl rfl ?_
  refine Go.iastore (pc' := 116) (i := 0) X42 hx hby hZ e43 B25.a9 d13_115 rfl (by decide) (by decide) (by decide) ?_
  intro T44 h45 X46 e47 W48 A49
  have N51 : Fr n0 _ := Fr.snoc X46 (Fr.app (Fr.app (Fr.nil _) N1) N24) (B25.2.1 9 (by decide))
  have B50 : OwnB Z h45 n0 a q0 q1 d (4 : Int32) vr (own_up (own_up (own_up (own_up f 7 0 (.int (2 : Int32))) 8 0 (.int (3 : Int32))) 11 0 (.int (0 : Int32))) 9 0 (.int (0 : Int32))) := B25.st hw (k := 9) (by decide) W48 A49
  show Go p e below _ (T44.setTop (mkF m 116 #[.val (.ref a), .val (.int (0 : Int32)), .val (.int (2 : Int32)), .val (.int (3 : Int32)), .val (.int (1 : Int32)), .val (.int (-1 : Int32)), .val (.int (0 : Int32)), .val (.int (2 : Int32)), .val (.int (3 : Int32)), .val (.int (-1 : Int32)), .val (.int (0 : Int32))] []))
  refine Go.aloadN (pc' := 117) X46 hx hby d13_116 rfl rfl rfl ?_
  refine Go.getF (pc' := 120) X46 hx hby hZ hown (hw _ (List.mem_of_getElem? (i := 52) rfl)) Via.refl e47 B50.f11 d13_117 rfl ?_
  intro T52 X53 e54
  show Go p e below _ (T52.setTop (mkF m 120 #[.val (.ref a), .val (.int (0 : Int32)), .val (.int (2 : Int32)), .val (.int (3 : Int32)), .val (.int (1 : Int32)), .val (.int (-1 : Int32)), .val (.int (0 : Int32)), .val (.int (2 : Int32)), .val (.int (3 : Int32)), .val (.int (-1 : Int32)), .val (.int (0 : Int32))] [(.ref (d 11))]))
  refine Go.iload (pc' := 122) X53 hx hby d13_120 rfl rfl ?_
  refine Go.iconst (pc' := 123) X53 hx hby d13_122 rfl (v := (1 : Int32)) (by decide) ?_
  refine Go.iastore (pc' := 124) (i := 0) X53 hx hby hZ e54 B50.a11 d13_123 rfl (by decide) (by decide) (by decide) ?_
  intro T55 h56 X57 e58 W59 A60
  have N62 : Fr n0 _ := Fr.snoc X57 N51 (B50.2.1 11 (by decide))
  have B61 : OwnB Z h56 n0 a q0 q1 d (4 : Int32) vr (own_up (own_up (own_up (own_up (own_up f 7 0 (.int (2 : Int32))) 8 0 (.int (3 : Int32))) 11 0 (.int (0 : Int32))) 9 0 (.int (0 : Int32))) 11 0 (.int (1 : Int32))) := B50.st hw (k := 11) (by decide) W59 A60
  show Go p e below _ (T55.setTop (mkF m 124 #[.val (.ref a), .val (.int (0 : Int32)), .val (.int (2 : Int32)), .val (.int (3 : Int32)), .val (.int (1 : Int32)), .val (.int (-1 : Int32)), .val (.int (0 : Int32)), .val (.int (2 : Int32)), .val (.int (3 : Int32)), .val (.int (-1 : Int32)), .val (.int (0 : Int32))] []))
  refine Go.aloadN (pc' := 125) X57 hx hby d13_124 rfl rfl rfl ?_
  refine Go.iload (pc' := 127) X57 hx hby d13_125 rfl rfl ?_
  refine Go.aloadN (pc' := 128) X57 hx hby d13_127 rfl rfl rfl ?_
  refine Go.iload (pc' := 130) X57 hx hby d13_128 rfl rfl ?_
  refine Go.iload (pc' := 132) X57 hx hby d13_130 rfl rfl ?_
  refine Go.iconst (pc' := 133) X57 hx hby d13_132 rfl (v := (0 : Int32)) (by decide) ?_
  refine Go.callP (C := "com/example/glacis/glacis/analysis/Bdd") (pc' := 136) (a := a) (W := 2) (argsL := [(.int (2 : Int32)), (.int (0 : Int32)), (.int (0 : Int32))]) (rest := [(.int (1 : Int32)), (.ref a)]) X57 hx hby hZ hown (hw _ (List.mem_of_getElem? (i := 129) rfl)) (hw _ (List.mem_of_getElem? (i := 130) rfl)) (own_sel (w := (⟨"com/example/glacis/glacis/analysis/Bdd", "test", "(I)I"⟩ : MethodName)) (y := (⟨"com/example/glacis/glacis/analysis/Bdd", "cofactor", "(IIZ)I"⟩ : MethodName)) (hw _ (List.mem_of_getElem? (i := 84) rfl)) rfl (hw _ (List.mem_of_getElem? (i := 131) rfl)) (hw _ (List.mem_of_getElem? (i := 130) rfl)) (by decide)) (hw _ (List.mem_of_getElem? (i := 131) rfl)) (hw _ (List.mem_of_getElem? (i := 4) rfl)) (hw _ (List.mem_of_getElem? (i := 132) rfl)) (by decide) (rx20 l Z a0 hw a (2 : Int32) (0 : Int32) (0 : Int32) h56 n0 q0 q1 d (4 : Int32) vr (own_up (own_up (own_up (own_up (own_up f 7 0 (.int (2 : Int32))) 8 0 (.int (3 : Int32))) 11 0 (.int (0 : Int32))) 9 0 (.int (0 : Int32))) 11 0 (.int (1 : Int32))) rfl rfl rfl B61 r_0_2 r_1_2) e58 B61.2.2.2.2.1 (by decide) (by decide) (by rw [hml]; rfl) pd_10 rfl rfl rfl (Nat.le_of_eq rfl) d13_133 rfl (by decide) (by decide) ?_
  rintro r65 T66 L67 X68 ⟨rfl, N63, B64⟩
  show Go p e below _ (T66.setTop (mkF m 136 #[.val (.ref a), .val (.int (0 : Int32)), .val (.int (2 : Int32)), .val (.int (3 : Int32)), .val (.int (1 : Int32)), .val (.int (-1 : Int32)), .val (.int (0 : Int32)), .val (.int (2 : Int32)), .val (.int (3 : Int32)), .val (.int (-1 : Int32)), .val (.int (0 : Int32))] [(.int (0 : Int32)), (.int (1 : Int32)), (.ref a)]))
  refine Go.aloadN (pc' := 137) X68 hx hby d13_136 rfl rfl rfl ?_
  refine Go.iload (pc' := 139) X68 hx hby d13_137 rfl rfl ?_
  refine Go.iload (pc' := 141) X68 hx hby d13_139 rfl rfl ?_
  refine Go.iconst (pc' := 142) X68 hx hby d13_141 rfl (v := (0 : Int32)) (by decide) ?_
  refine Go.callP (C := "com/example/glacis/glacis/analysis/Bdd") (pc' := 145) (a := a) (W := 3) (argsL := [(.int (3 : Int32)), (.int (0 : Int32)), (.int (0 : Int32))]) (rest := [(.int (0 : Int32)), (.int (1 : Int32)), (.ref a)]) X68 hx hby hZ hown (hw _ (List.mem_of_getElem? (i := 129) rfl)) (hw _ (List.mem_of_getElem? (i := 130) rfl)) (own_sel (w := (⟨"com/example/glacis/glacis/analysis/Bdd", "test", "(I)I"⟩ : MethodName)) (y := (⟨"com/example/glacis/glacis/analysis/Bdd", "cofactor", "(IIZ)I"⟩ : MethodName)) (hw _ (List.mem_of_getElem? (i := 84) rfl)) rfl (hw _ (List.mem_of_getElem? (i := 131) rfl)) (hw _ (List.mem_of_getElem? (i := 130) rfl)) (by decide)) (hw _ (List.mem_of_getElem? (i := 131) rfl)) (hw _ (List.mem_of_getElem? (i := 4) rfl)) (hw _ (List.mem_of_getElem? (i := 132) rfl)) (by decide) (rx21 l Z a0 hw a (3 : Int32) (0 : Int32) (0 : Int32) T66.heap n0 q0 q1 d (4 : Int32) vr (own_up (own_up (own_up (own_up (own_up f 7 0 (.int (2 : Int32))) 8 0 (.int (3 : Int32))) 11 0 (.int (0 : Int32))) 9 0 (.int (0 : Int32))) 11 0 (.int (1 : Int32))) rfl rfl rfl B64 r_0_3) rfl B64.2.2.2.2.1 (by decide) (by decide) (by rw [hml]; rfl) pd_10 rfl rfl rfl (Nat.le_of_eq rfl) d13_142 rfl (by decide) (by decide) ?_
  rintro r71 T72 L73 X74 ⟨rfl, N69, B70⟩
  show Go p e below _ (T72.setTop (mkF m 145 #[.val (.ref a), .val (.int (0 : Int32)), .val (.int (2 : Int32)), .val (.int (3 : Int32)), .val (.int (1 : Int32)), .val (.int (-1 : Int32)), .val (.int (0 : Int32)), .val (.int (2 : Int32)), .val (.int (3 : Int32)), .val (.int (-1 : Int32)), .val (.int (0 : Int32))] [(.int (3 : Int32)), (.int (0 : Int32)), (.int (1 : Int32)), (.ref a)]))
  refine Go.callP (C := "com/example/glacis/glacis/analysis/Bdd") (pc' := 148) (a := a) (W := 0) (argsL := [(.int (1 : Int32)), (.int (0 : Int32)), (.int (3 : Int32))]) (rest := []) X74 hx hby hZ hown (hw _ (List.mem_of_getElem? (i := 109) rfl)) (hw _ (List.mem_of_getElem? (i := 110) rfl)) (own_sel (w := (⟨"com/example/glacis/glacis/analysis/Bdd", "test", "(I)I"⟩ : MethodName)) (y := (⟨"com/example/glacis/glacis/analysis/Bdd", "push", "(III)I"⟩ : MethodName)) (hw _ (List.mem_of_getElem? (i := 84) rfl)) rfl (hw _ (List.mem_of_getElem? (i := 111) rfl)) (hw _ (List.mem_of_getElem? (i := 110) rfl)) (by decide)) (hw _ (List.mem_of_getElem? (i := 111) rfl)) (hw _ (List.mem_of_getElem? (i := 4) rfl)) (hw _ (List.mem_of_getElem? (i := 112) rfl)) (by decide) (rx22 l Z a0 hw a (1 : Int32) (0 : Int32) (3 : Int32) T72.heap n0 q0 q1 d (4 : Int32) vr (own_up (own_up (own_up (own_up (own_up f 7 0 (.int (2 : Int32))) 8 0 (.int (3 : Int32))) 11 0 (.int (0 : Int32))) 9 0 (.int (0 : Int32))) 11 0 (.int (1 : Int32))) rfl rfl rfl B70 ) rfl B70.2.2.2.2.1 (by decide) (by decide) (by rw [hml]; rfl) pd_8 rfl rfl rfl (Nat.le_of_eq rfl) d13_145 rfl (by decide) (by decide) ?_
  rintro r77 T78 L79 X80 ⟨rfl, N75, B76⟩
  show Go p e below _ (T78.setTop (mkF m 148 #[.val (.ref a), .val (.int (0 : Int32)), .val (.int (2 : Int32)), .val (.int (3 : Int32)), .val (.int (1 : Int32)), .val (.int (-1 : Int32)), .val (.int (0 : Int32)), .val (.int (2 : Int32)), .val (.int (3 : Int32)), .val (.int (-1 : Int32)), .val (.int (0 : Int32))] [(.int (2 : Int32))]))
  refine Go.istore (Ls' := #[.val (.ref a), .val (.int (0 : Int32)), .val (.int (2 : Int32)), .val (.int (3 : Int32)), .val (.int (2 : Int32)), .val (.int (-1 : Int32)), .val (.int (0 : Int32)), .val (.int (2 : Int32)), .val (.int (3 : Int32)), .val (.int (-1 : Int32)), .val (.int (0 : Int32))]) (pc' := 150) X80 hx hby d13_148 rfl rfl ?_
  refine Go.goto (pc' := 160) X80 hx hby d13_150 (by decide) (by decide) ?_
  refine Go.goto (pc' := 269) X80 hx hby d13_160 (by decide) (by decide) ?_
  refine Go.goto (pc' := 12) X80 hx hby d13_269 (by decide) (by decide) ?_
  refine Go.iload (pc' := 14) X80 hx hby d13_12 rfl rfl ?_
  refine Go.ifN (pc' := 17) X80 hx hby d13_14 rfl (show ¬ ((2 : Int32) ≤ 0) from by decide) ?_
  refine Go.iload (pc' := 19) X80 hx hby d13_17 rfl rfl ?_
  refine Go.iconst (pc' := 20) X80 hx hby d13_19 rfl (v := (1 : Int32)) (by decide) ?_
  refine Go.isub (pc' := 21) X80 hx hby d13_20 rfl ?_
  change Go p e below _ (T78.setTop (mkF m 21 #[.val (.ref a), .val (.int (0 : Int32)), .val (.int (2 : Int32)), .val (.int (3 : Int32)), .val (.int (2 : Int32)), .val (.int (-1 : Int32)), .val (.int (0 : Int32)), .val (.int (2 : Int32)), .val (.int (3 : Int32)), .val (.int (-1 : Int32)), .val (.int (0 : Int32))] [(.int (1 : Int32))]))
  refine Go.istore (Ls' := #[.val (.ref a), .val (.int (0 : Int32)), .val (.int (2 : Int32)), .val (.int (3 : Int32)), .val (.int (2 : Int32)), .val (.int (-1 : Int32)), .val (.int (1 : Int32)), .val (.int (2 : Int32)), .val (.int (3 : Int32)), .val (.int (-1 : Int32)), .val (.int (0 : Int32))]) (pc' := 23) X80 hx hby d13_21 rfl rfl ?_
  refine Go.aloadN (pc' := 24) X80 hx hby d13_23 rfl rfl rfl ?_
  refine Go.getF (pc' := 27) X80 hx hby hZ hown (hw _ (List.mem_of_getElem? (i := 44) rfl)) Via.refl rfl B76.f7 d13_24 rfl ?_
  intro T81 X82 e83
  show Go p e below _ (T81.setTop (mkF m 27 #[.val (.ref a), .val (.int (0 : Int32)), .val (.int (2 : Int32)), .val (.int (3 : Int32)), .val (.int (2 : Int32)), .val (.int (-1 : Int32)), .val (.int (1 : Int32)), .val (.int (2 : Int32)), .val (.int (3 : Int32)), .val (.int (-1 : Int32)), .val (.int (0 : Int32))] [(.ref (d 7))]))
  refine Go.iload (pc' := 29) X82 hx hby d13_27 rfl rfl ?_
  refine Go.iaload (pc' := 30) (i := 1) (v := (.int (0 : Int32))) X82 hx hby hZ e83 B76.a7 d13_29 rfl (by decide) (by decide) (by decide) rfl ?_
  refine Go.istore (Ls' := #[.val (.ref a), .val (.int (0 : Int32)), .val (.int (2 : Int32)), .val (.int (3 : Int32)), .val (.int (2 : Int32)), .val (.int (-1 : Int32)), .val (.int (1 : Int32)), .val (.int (0 : Int32)), .val (.int (3 : Int32)), .val (.int (-1 : Int32)), .val (.int (0 : Int32))]) (pc' := 32) X82 hx hby d13_30 rfl rfl ?_
  refine Go.aloadN (pc' := 33) X82 hx hby d13_32 rfl rfl rfl ?_
  refine Go.getF (pc' := 36) X82 hx hby hZ hown (hw _ (List.mem_of_getElem? (i := 46) rfl)) Via.refl e83 B76.f8 d13_33 rfl ?_
  intro T84 X85 e86
  show Go p e below _ (T84.setTop (mkF m 36 #[.val (.ref a), .val (.int (0 : Int32)), .val (.int (2 : Int32)), .val (.int (3 : Int32)), .val (.int (2 : Int32)), .val (.int (-1 : Int32)), .val (.int (1 : Int32)), .val (.int (0 : Int32)), .val (.int (3 : Int32)), .val (.int (-1 : Int32)), .val (.int (0 : Int32))] [(.ref (d 8))]))
  refine Go.iload (pc' := 38) X85 hx hby d13_36 rfl rfl ?_
  refine Go.iaload (pc' := 39) (i := 1) (v := (.int (3 : Int32))) X85 hx hby hZ e86 B76.a8 d13_38 rfl (by decide) (by decide) (by decide) rfl ?_
  refine Go.istore (Ls' := #[.val (.ref a), .val (.int (0 : Int32)), .val (.int (2 : Int32)), .val (.int (3 : Int32)), .val (.int (2 : Int32)), .val (.int (-1 : Int32)), .val (.int (1 : Int32)), .val (.int (0 : Int32)), .val (.int (3 : Int32)), .val (.int (-1 : Int32)), .val (.int (0 : Int32))]) (pc' := 41) X85 hx hby d13_39 rfl rfl ?_
  refine Go.aloadN (pc' := 42) X85 hx hby d13_41 rfl rfl rfl ?_
  refine Go.getF (pc' := 45) X85 hx hby hZ hown (hw _ (List.mem_of_getElem? (i := 52) rfl)) Via.refl e86 B76.f11 d13_42 rfl ?_
  intro T87 X88 e89
  show Go p e below _ (T87.setTop (mkF m 45 #[.val (.ref a), .val (.int (0 : Int32)), .val (.int (2 : Int32)), .val (.int (3 : Int32)), .val (.int (2 : Int32)), .val (.int (-1 : Int32)), .val (.int (1 : Int32)), .val (.int (0 : Int32)), .val (.int (3 : Int32)), .val (.int (-1 : Int32)), .val (.int (0 : Int32))] [(.ref (d 11))]))
  refine Go.iload (pc' := 47) X88 hx hby d13_45 rfl rfl ?_
  refine Go.iaload (pc' := 48) (i := 1) (v := (.int (0 : Int32))) X88 hx hby hZ e89 B76.a11 d13_47 rfl (by decide) (by decide) (by decide) rfl ?_
  refine Go.ifN (pc' := 51) X88 hx hby d13_48 rfl (show ¬ ((0 : Int32) ≠ 0) from by decide) ?_
  refine Go.iloadN (pc' := 52) X88 hx hby d13_51 rfl rfl ?_
  refine Go.iload (pc' := 54) X88 hx hby d13_52 rfl rfl ?_
  refine Go.iload (pc' := 56) X88 hx hby d13_54 rfl rfl ?_
  refine Go.callS (pc' := 59) (W := 0) (argsL := [(.int (0 : Int32)), (.int (0 : Int32)), (.int (3 : Int32))]) (rest := []) X88 hx hby hZ hown (hw _ (List.mem_of_getElem? (i := 120) rfl)) (hw _ (List.mem_of_getElem? (i := 121) rfl)) (hw _ (List.mem_of_getElem? (i := 4) rfl)) (hw _ (List.mem_of_getElem? (i := 122) rfl)) (by decide) (rx25 l Z a0 hw  (0 : Int32) (0 : Int32) (3 : Int32) T78.heap rfl rfl rfl) e89 (by decide) (by decide) (by rw [hml]; rfl) pd_8 rfl rfl rfl (Nat.le_of_eq rfl) d13_56 rfl (by decide) (by decide) ?_
  rintro r91 T92 L93 X94 ⟨rfl, rfl, e90⟩
  rw [List.append_nil] at X94
  show Go p e below _ (T92.setTop (mkF m 59 #[.val (.ref a), .val (.int (0 : Int32)), .val (.int (2 : Int32)), .val (.int (3 : Int32)), .val (.int (2 : Int32)), .val (.int (-1 : Int32)), .val (.int (1 : Int32)), .val (.int (0 : Int32)), .val (.int (3 : Int32)), .val (.int (-1 : Int32)), .val (.int (0 : Int32))] [(.int (0 : Int32))]))
  refine Go.istore (Ls' := #[.val (.ref a), .val (.int (0 : Int32)), .val (.int (2 : Int32)), .val (.int (3 : Int32)), .val (.int (2 : Int32)), .val (.int (-1 : Int32)), .val (.int (1 : Int32)), .val (.int (0 : Int32)), .val (.int (3 : Int32)), .val (.int (0 : Int32)), .val (.int (0 : Int32))]) (pc' := 61) X94 hx hby d13_59 rfl rfl ?_
  refine Go.iload (pc' := 63) X94 hx hby d13_61 rfl rfl ?_
  refine Go.iconst (pc' := 64) X94 hx hby d13_63 rfl (v := (-1 : Int32)) (by decide) ?_
  refine Go.icmpY (pc' := 82) X94 hx hby d13_64 (by decide) (by decide) (show (0 : Int32) ≠ (-1 : Int32) from by decide) ?_
  refine Go.iload (pc' := 84) X94 hx hby d13_82 rfl rfl ?_
  refine Go.iconst (pc' := 85) X94 hx hby d13_84 rfl (v := (-1 : Int32)) (by decide) ?_
  refine Go.icmpY (pc' := 153) X94 hx hby d13_85 (by decide) (by decide) (show (0 : Int32) ≠ (-1 : Int32) from by decide) ?_
  refine Go.iload (pc' := 155) X94 hx hby d13_153 rfl rfl ?_
  refine Go.istore (Ls' := #[.val (.ref a), .val (.int (0 : Int32)), .val (.int (2 : Int32)), .val (.int (3 : Int32)), .val (.int (2 : Int32)), .val (.int (0 : Int32)), .val (.int (1 : Int32)), .val (.int (0 : Int32)), .val (.int (3 : Int32)), .val (.int (0 : Int32)), .val (.int (0 : Int32))]) (pc' := 157) X94 hx hby d13_155 rfl rfl ?_
  refine Go.iinc (w := (2 : Int32) + (-1 : Int32)) (Ls' := #[.val (.ref a), .val (.int (0 : Int32)), .val (.int (2 : Int32)), .val (.int (3 : Int32)), .val (.int ((2 : Int32) + (-1 : Int32))), .val (.int (0 : Int32)), .val (.int (1 : Int32)), .val (.int (0 : Int32)), .val (.int (3 : Int32)), .val (.int (0 : Int32)), .val (.int (0 : Int32))]) (pc' := 160) X94 hx hby d13_157 rfl rfl rfl rfl ?_
  change Go p e below _ (T92.setTop (mkF m 160 #[.val (.ref a), .val (.int (0 : Int32)), .val (.int (2 : Int32)), .val (.int (3 : Int32)), .val (.int (1 : Int32)), .val (.int (0 : Int32)), .val (.int (1 : Int32)), .val (.int (0 : Int32)), .val (.int (3 : Int32)), .val (.int (0 : Int32)), .val (.int (0 : Int32))] []))
  refine Go.goto (pc' := 269) X94 hx hby d13_160 (by decide) (by decide) ?_
  refine Go.goto (pc' := 12) X94 hx hby d13_269 (by decide) (by decide) ?_
  refine Go.iload (pc' := 14) X94 hx hby d13_12 rfl rfl ?_
  refine Go.ifN (pc' := 17) X94 hx hby d13_14 rfl (show ¬ ((1 : Int32) ≤ 0) from by decide) ?_
  refine Go.iload (pc' := 19) X94 hx hby d13_17 rfl rfl ?_
  refine Go.iconst (pc' := 20) X94 hx hby d13_19 rfl (v := (1 : Int32)) (by decide) ?_
  refine Go.isub (pc' := 21) X94 hx hby d13_20 rfl ?_
  change Go p e below _ (T92.setTop (mkF m 21 #[.val (.ref a), .val (.int (0 : Int32)), .val (.int (2 : Int32)), .val (.int (3 : Int32)), .val (.int (1 : Int32)), .val (.int (0 : Int32)), .val (.int (1 : Int32)), .val (.int (0 : Int32)), .val (.int (3 : Int32)), .val (.int (0 : Int32)), .val (.int (0 : Int32))] [(.int (0 : Int32))]))
  refine Go.istore (Ls' := #[.val (.ref a), .val (.int (0 : Int32)), .val (.int (2 : Int32)), .val (.int (3 : Int32)), .val (.int (1 : Int32)), .val (.int (0 : Int32)), .val (.int (0 : Int32)), .val (.int (0 : Int32)), .val (.int (3 : Int32)), .val (.int (0 : Int32)), .val (.int (0 : Int32))]) (pc' := 23) X94 hx hby d13_21 rfl rfl ?_
  refine Go.aloadN (pc' := 24) X94 hx hby d13_23 rfl rfl rfl ?_
  refine Go.getF (pc' := 27) X94 hx hby hZ hown (hw _ (List.mem_of_getElem? (i := 44) rfl)) Via.refl e90 B76.f7 d13_24 rfl ?_
  intro T95 X96 e97
  show Go p e below _ (T95.setTop (mkF m 27 #[.val (.ref a), .val (.int (0 : Int32)), .val (.int (2 : Int32)), .val (.int (3 : Int32)), .val (.int (1 : Int32)), .val (.int (0 : Int32)), .val (.int (0 : Int32)), .val (.int (0 : Int32)), .val (.int (3 : Int32)), .val (.int (0 : Int32)), .val (.int (0 : Int32))] [(.ref (d 7))]))
  refine Go.iload (pc' := 29) X96 hx hby d13_27 rfl rfl ?_
  refine Go.iaload (pc' := 30) (i := 0) (v := (.int (2 : Int32))) X96 hx hby hZ e97 B76.a7 d13_29 rfl (by decide) (by decide) (by decide) rfl ?_
  refine Go.istore (Ls' := #[.val (.ref a), .val (.int (0 : Int32)), .val (.int (2 : Int32)), .val (.int (3 : Int32)), .val (.int (1 : Int32)), .val (.int (0 : Int32)), .val (.int (0 : Int32)), .val (.int (2 : Int32)), .val (.int (3 : Int32)), .val (.int (0 : Int32)), .val (.int (0 : Int32))]) (pc' := 32) X96 hx hby d13_30 rfl rfl ?_
  refine Go.aloadN (pc' := 33) X96 hx hby d13_32 rfl rfl rfl ?_
  refine Go.getF (pc' := 36) X96 hx hby hZ hown (hw _ (List.mem_of_getElem? (i := 46) rfl)) Via.refl e97 B76.f8 d13_33 rfl ?_
  intro T98 X99 e100
  show Go p e below _ (T98.setTop (mkF m 36 #[.val (.ref a), .val (.int (0 : Int32)), .val (.int (2 : Int32)), .val (.int (3 : Int32)), .val (.int (1 : Int32)), .val (.int (0 : Int32)), .val (.int (0 : Int32)), .val (.int (2 : Int32)), .val (.int (3 : Int32)), .val (.int (0 : Int32)), .val (.int (0 : Int32))] [(.ref (d 8))]))
  refine Go.iload (pc' := 38) X99 hx hby d13_36 rfl rfl ?_
  refine Go.iaload (pc' := 39) (i := 0) (v := (.int (3 : Int32))) X99 hx hby hZ e100 B76.a8 d13_38 rfl (by decide) (by decide) (by decide) rfl ?_
  refine Go.istore (Ls' := #[.val (.ref a), .val (.int (0 : Int32)), .val (.int (2 : Int32)), .val (.int (3 : Int32)), .val (.int (1 : Int32)), .val (.int (0 : Int32)), .val (.int (0 : Int32)), .val (.int (2 : Int32)), .val (.int (3 : Int32)), .val (.int (0 : Int32)), .val (.int (0 : Int32))]) (pc' := 41) X99 hx hby d13_39 rfl rfl ?_
  refine Go.aloadN (pc' := 42) X99 hx hby d13_41 rfl rfl rfl ?_
  refine Go.getF (pc' := 45) X99 hx hby hZ hown (hw _ (List.mem_of_getElem? (i := 52) rfl)) Via.refl e100 B76.f11 d13_42 rfl ?_
  intro T101 X102 e103
  show Go p e below _ (T101.setTop (mkF m 45 #[.val (.ref a), .val (.int (0 : Int32)), .val (.int (2 : Int32)), .val (.int (3 : Int32)), .val (.int (1 : Int32)), .val (.int (0 : Int32)), .val (.int (0 : Int32)), .val (.int (2 : Int32)), .val (.int (3 : Int32)), .val (.int (0 : Int32)), .val (.int (0 : Int32))] [(.ref (d 11))]))
  refine Go.iload (pc' := 47) X102 hx hby d13_45 rfl rfl ?_
  refine Go.iaload (pc' := 48) (i := 0) (v := (.int (1 : Int32))) X102 hx hby hZ e103 B76.a11 d13_47 rfl (by decide) (by decide) (by decide) rfl ?_
  refine Go.ifY (pc' := 163) X102 hx hby d13_48 (by decide) (by decide) (show (1 : Int32) ≠ 0 from by decide) ?_
  refine Go.aloadN (pc' := 164) X102 hx hby d13_163 rfl rfl rfl ?_
  refine Go.getF (pc' := 167) X102 hx hby hZ hown (hw _ (List.mem_of_getElem? (i := 52) rfl)) Via.refl e103 B76.f11 d13_164 rfl ?_
  intro T104 X105 e106
  show Go p e below _ (T104.setTop (mkF m 167 #[.val (.ref a), .val (.int (0 : Int32)), .val (.int (2 : Int32)), .val (.int (3 : Int32)), .val (.int (1 : Int32)), .val (.int (0 : Int32)), .val (.int (0 : Int32)), .val (.int (2 : Int32)), .val (.int (3 : Int32)), .val (.int (0 : Int32)), .val (.int (0 : Int32))] [(.ref (d 11))]))
  refine Go.iload (pc' := 169) X105 hx hby d13_167 rfl rfl ?_
  refine Go.iaload (pc' := 170) (i := 0) (v := (.int (1 : Int32))) X105 hx hby hZ e106 B76.a11 d13_169 rfl (by decide) (by decide) (by decide) rfl ?_
  refine Go.iconst (pc' := 171) X105 hx hby d13_170 rfl (v := (1 : Int32)) (by decide) ?_
  refine Go.icmpN (pc' := 174) X105 hx hby d13_171 rfl (show ¬ ((1 : Int32) ≠ (1 : Int32)) from by decide) ?_
  refine Go.aloadN (pc' := 175) X105 hx hby d13_174 rfl rfl rfl ?_
  refine Go.getF (pc' := 178) X105 hx hby hZ hown (hw _ (List.mem_of_getElem? (i := 48) rfl)) Via.refl e106 B76.f9 d13_175 rfl ?_
  intro T107 X108 e109
  show Go p e below _ (T107.setTop (mkF m 178 #[.val (.ref a), .val (.int (0 : Int32)), .val (.int (2 : Int32)), .val (.int (3 : Int32)), .val (.int (1 : Int32)), .val (.int (0 : Int32)), .val (.int (0 : Int32)), .val (.int (2 : Int32)), .val (.int (3 : Int32)), .val (.int (0 : Int32)), .val (.int (0 : Int32))] [(.ref (d 9))]))
  refine Go.iload (pc' := 180) X108 hx hby d13_178 rfl rfl ?_
  refine Go.iaload (pc' := 181) (i := 0) (v := (.int (0 : Int32))) X108 hx hby hZ e109 B76.a9 d13_180 rfl (by decide) (by decide) (by decide) rfl ?_
  refine Go.istore (Ls' := #[.val (.ref a), .val (.int (0 : Int32)), .val (.int (2 : Int32)), .val (.int (3 : Int32)), .val (.int (1 : Int32)), .val (.int (0 : Int32)), .val (.int (0 : Int32)), .val (.int (2 : Int32)), .val (.int (3 : Int32)), .val (.int (0 : Int32)), .val (.int (0 : Int32))]) (pc' := 183) X108 hx hby d13_181 rfl rfl ?_
  refine Go.aloadN (pc' := 184) X108 hx hby d13_183 rfl rfl rfl ?_
  refine Go.getF (pc' := 187) X108 hx hby hZ hown (hw _ (List.mem_of_getElem? (i := 50) rfl)) Via.refl e109 B76.f10 d13_184 rfl ?_
  intro T110 X111 e112
  show Go p e below _ (T110.setTop (mkF m 187 #[.val (.ref a), .val (.int (0 : Int32)), .val (.int (2 : Int32)), .val (.int (3 : Int32)), .val (.int (1 : Int32)), .val (.int (0 : Int32)), .val (.int (0 : Int32)), .val (.int (2 : Int32)), .val (.int (3 : Int32)), .val (.int (0 : Int32)), .val (.int (0 : Int32))] [(.ref (d 10))]))
  refine Go.iload (pc' := 189) X111 hx hby d13_187 rfl rfl ?_
  refine Go.iload (pc' := 191) X111 hx hby d13_189 rfl rfl ?_
  refine Go.iastore (pc' := 192) (i := 0) X111 hx hby hZ e112 B76.a10 d13_191 rfl (by decide) (by decide) (by decide) ?_
  intro T113 h114 X115 e116 W117 A118
  have N120 : Fr n0 _ := Fr.snoc X115 (Fr.app (Fr.app (Fr.app N62 N63) N69) N75) (B76.2.1 10 (by decide))
  have B119 : OwnB Z h114 n0 a q0 q1 d (4 : Int32) vr (own_up (own_up (own_up (own_up (own_up (own_up (own_up (own_up (own_up f 7 0 (.int (2 : Int32))) 8 0 (.int (3 : Int32))) 11 0 (.int (0 : Int32))) 9 0 (.int (0 : Int32))) 11 0 (.int (1 : Int32))) 7 1 (.int (0 : Int32))) 8 1 (.int (3 : Int32))) 11 1 (.int (0 : Int32))) 10 0 (.int (0 : Int32))) := B76.st hw (k := 10) (by decide) W117 A118
  show Go p e below _ (T113.setTop (mkF m 192 #[.val (.ref a), .val (.int (0 : Int32)), .val (.int (2 : Int32)), .val (.int (3 : Int32)), .val (.int (1 : Int32)), .val (.int (0 : Int32)), .val (.int (0 : Int32)), .val (.int (2 : Int32)), .val (.int (3 : Int32)), .val (.int (0 : Int32)), .val (.int (0 : Int32))] []))
  refine Go.aloadN (pc' := 193) X115 hx hby d13_192 rfl rfl rfl ?_
  refine Go.getF (pc' := 196) X115 hx hby hZ hown (hw _ (List.mem_of_getElem? (i := 52) rfl)) Via.refl e116 B119.f11 d13_193 rfl ?_
  intro T121 X122 e123
  show Go p e below _ (T121.setTop (mkF m 196 #[.val (.ref a), .val (.int (0 : Int32)), .val (.int (2 : Int32)), .val (.int (3 : Int32)), .val (.int (1 : Int32)), .val (.int (0 : Int32)), .val (.int (0 : Int32)), .val (.int (2 : Int32)), .val (.int (3 : Int32)), .val (.int (0 : Int32)), .val (.int (0 : Int32))] [(.ref (d 11))]))
  refine Go.iload (pc' := 198) X122 hx hby d13_196 rfl rfl ?_
  refine Go.iconst (pc' := 199) X122 hx hby d13_198 rfl (v := (2 : Int32)) (by decide) ?_
  refine Go.iastore (pc' := 200) (i := 0) X122 hx hby hZ e123 B119.a11 d13_199 rfl (by decide) (by decide) (by decide) ?_
  intro T124 h125 X126 e127 W128 A129
  have N131 : Fr n0 _ := Fr.snoc X126 N120 (B119.2.1 11 (by decide))
  have B130 : OwnB Z h125 n0 a q0 q1 d (4 : Int32) vr (own_up (own_up (own_up (own_up (own_up (own_up (own_up (own_up (own_up (own_up f 7 0 (.int (2 : Int32))) 8 0 (.int (3 : Int32))) 11 0 (.int (0 : Int32))) 9 0 (.int (0 : Int32))) 11 0 (.int (1 : Int32))) 7 1 (.int (0 : Int32))) 8 1 (.int (3 : Int32))) 11 1 (.int (0 : Int32))) 10 0 (.int (0 : Int32))) 11 0 (.int (2 : Int32))) := B119.st hw (k := 11) (by decide) W128 A129
  show Go p e below _ (T124.setTop (mkF m 200 #[.val (.ref a), .val (.int (0 : Int32)), .val (.int (2 : Int32)), .val (.int (3 : Int32)), .val (.int (1 : Int32)), .val (.int (0 : Int32)), .val (.int (0 : Int32)), .val (.int (2 : Int32)), .val (.int (3 : Int32)), .val (.int (0 : Int32)), .val (.int (0 : Int32))] []))
  refine Go.aloadN (pc' := 201) X126 hx hby d13_200 rfl rfl rfl ?_
  refine Go.iload (pc' := 203) X126 hx hby d13_201 rfl rfl ?_
  refine Go.aloadN (pc' := 204) X126 hx hby d13_203 rfl rfl rfl ?_
  refine Go.iload (pc' := 206) X126 hx hby d13_204 rfl rfl ?_
  refine Go.iload (pc' := 208) X126 hx hby d13_206 rfl rfl ?_
  refine Go.iconst (pc' := 209) X126 hx hby d13_208 rfl (v := (1 : Int32)) (by decide) ?_
  refine Go.callP (C := "com/example/glacis/glacis/analysis/Bdd") (pc' := 212) (a := a) (W := 2) (argsL := [(.int (2 : Int32)), (.int (0 : Int32)), (.int (1 : Int32))]) (rest := [(.int (1 : Int32)), (.ref a)]) X126 hx hby hZ hown (hw _ (List.mem_of_getElem? (i := 129) rfl)) (hw _ (List.mem_of_getElem? (i := 130) rfl)) (own_sel (w := (⟨"com/example/glacis/glacis/analysis/Bdd", "test", "(I)I"⟩ : MethodName)) (y := (⟨"com/example/glacis/glacis/analysis/Bdd", "cofactor", "(IIZ)I"⟩ : MethodName)) (hw _ (List.mem_of_getElem? (i := 84) rfl)) rfl (hw _ (List.mem_of_getElem? (i := 131) rfl)) (hw _ (List.mem_of_getElem? (i := 130) rfl)) (by decide)) (hw _ (List.mem_of_getElem? (i := 131) rfl)) (hw _ (List.mem_of_getElem? (i := 4) rfl)) (hw _ (List.mem_of_getElem? (i := 132) rfl)) (by decide) (rx26 l Z a0 hw a (2 : Int32) (0 : Int32) (1 : Int32) h125 n0 q0 q1 d (4 : Int32) vr (own_up (own_up (own_up (own_up (own_up (own_up (own_up (own_up (own_up (own_up f 7 0 (.int (2 : Int32))) 8 0 (.int (3 : Int32))) 11 0 (.int (0 : Int32))) 9 0 (.int (0 : Int32))) 11 0 (.int (1 : Int32))) 7 1 (.int (0 : Int32))) 8 1 (.int (3 : Int32))) 11 1 (.int (0 : Int32))) 10 0 (.int (0 : Int32))) 11 0 (.int (2 : Int32))) rfl rfl rfl B130 r_0_2 r_2_2) e127 B130.2.2.2.2.1 (by decide) (by decide) (by rw [hml]; rfl) pd_10 rfl rfl rfl (Nat.le_of_eq rfl) d13_209 rfl (by decide) (by decide) ?_
  rintro r134 T135 L136 X137 ⟨rfl, N132, B133⟩
  show Go p e below _ (T135.setTop (mkF m 212 #[.val (.ref a), .val (.int (0 : Int32)), .val (.int (2 : Int32)), .val (.int (3 : Int32)), .val (.int (1 : Int32)), .val (.int (0 : Int32)), .val (.int (0 : Int32)), .val (.int (2 : Int32)), .val (.int (3 : Int32)), .val (.int (0 : Int32)), .val (.int (0 : Int32))] [(.int (1 : Int32)), (.int (1 : Int32)), (.ref a)]))
  refine Go.aloadN (pc' := 213) X137 hx hby d13_212 rfl rfl rfl ?_
  refine Go.iload (pc' := 215) X137 hx hby d13_213 rfl rfl ?_
  refine Go.iload (pc' := 217) X137 hx hby d13_215 rfl rfl ?_
  refine Go.iconst (pc' := 218) X137 hx hby d13_217 rfl (v := (1 : Int32)) (by decide) ?_
  refine Go.callP (C := "com/example/glacis/glacis/analysis/Bdd") (pc' := 221) (a := a) (W := 3) (argsL := [(.int (3 : Int32)), (.int (0 : Int32)), (.int (1 : Int32))]) (rest := [(.int (1 : Int32)), (.int (1 : Int32)), (.ref a)]) X137 hx hby hZ hown (hw _ (List.mem_of_getElem? (i := 129) rfl)) (hw _ (List.mem_of_getElem? (i := 130) rfl)) (own_sel (w := (⟨"com/example/glacis/glacis/analysis/Bdd", "test", "(I)I"⟩ : MethodName)) (y := (⟨"com/example/glacis/glacis/analysis/Bdd", "cofactor", "(IIZ)I"⟩ : MethodName)) (hw _ (List.mem_of_getElem? (i := 84) rfl)) rfl (hw _ (List.mem_of_getElem? (i := 131) rfl)) (hw _ (List.mem_of_getElem? (i := 130) rfl)) (by decide)) (hw _ (List.mem_of_getElem? (i := 131) rfl)) (hw _ (List.mem_of_getElem? (i := 4) rfl)) (hw _ (List.mem_of_getElem? (i := 132) rfl)) (by decide) (rx27 l Z a0 hw a (3 : Int32) (0 : Int32) (1 : Int32) T135.heap n0 q0 q1 d (4 : Int32) vr (own_up (own_up (own_up (own_up (own_up (own_up (own_up (own_up (own_up (own_up f 7 0 (.int (2 : Int32))) 8 0 (.int (3 : Int32))) 11 0 (.int (0 : Int32))) 9 0 (.int (0 : Int32))) 11 0 (.int (1 : Int32))) 7 1 (.int (0 : Int32))) 8 1 (.int (3 : Int32))) 11 1 (.int (0 : Int32))) 10 0 (.int (0 : Int32))) 11 0 (.int (2 : Int32))) rfl rfl rfl B133 r_0_3) rfl B133.2.2.2.2.1 (by decide) (by decide) (by rw [hml]; rfl) pd_10 rfl rfl rfl (Nat.le_of_eq rfl) d13_218 rfl (by decide) (by decide) ?_
  rintro r140 T141 L142 X143 ⟨rfl, N138, B139⟩
  show Go p e below _ (T141.setTop (mkF m 221 #[.val (.ref a), .val (.int (0 : Int32)), .val (.int (2 : Int32)), .val (.int (3 : Int32)), .val (.int (1 : Int32)), .val (.int (0 : Int32)), .val (.int (0 : Int32)), .val (.int (2 : Int32)), .val (.int (3 : Int32)), .val (.int (0 : Int32)), .val (.int (0 : Int32))] [(.int (3 : Int32)), (.int (1 : Int32)), (.int (1 : Int32)), (.ref a)]))
  refine Go.callP (C := "com/example/glacis/glacis/analysis/Bdd") (pc' := 224) (a := a) (W := 0) (argsL := [(.int (1 : Int32)), (.int (1 : Int32)), (.int (3 : Int32))]) (rest := []) X143 hx hby hZ hown (hw _ (List.mem_of_getElem? (i := 109) rfl)) (hw _ (List.mem_of_getElem? (i := 110) rfl)) (own_sel (w := (⟨"com/example/glacis/glacis/analysis/Bdd", "test", "(I)I"⟩ : MethodName)) (y := (⟨"com/example/glacis/glacis/analysis/Bdd", "push", "(III)I"⟩ : MethodName)) (hw _ (List.mem_of_getElem? (i := 84) rfl)) rfl (hw _ (List.mem_of_getElem? (i := 111) rfl)) (hw _ (List.mem_of_getElem? (i := 110) rfl)) (by decide)) (hw _ (List.mem_of_getElem? (i := 111) rfl)) (hw _ (List.mem_of_getElem? (i := 4) rfl)) (hw _ (List.mem_of_getElem? (i := 112) rfl)) (by decide) (rx28 l Z a0 hw a (1 : Int32) (1 : Int32) (3 : Int32) T141.heap n0 q0 q1 d (4 : Int32) vr (own_up (own_up (own_up (own_up (own_up (own_up (own_up (own_up (own_up (own_up f 7 0 (.int (2 : Int32))) 8 0 (.int (3 : Int32))) 11 0 (.int (0 : Int32))) 9 0 (.int (0 : Int32))) 11 0 (.int (1 : Int32))) 7 1 (.int (0 : Int32))) 8 1 (.int (3 : Int32))) 11 1 (.int (0 : Int32))) 10 0 (.int (0 : Int32))) 11 0 (.int (2 : Int32))) rfl rfl rfl B139 ) rfl B139.2.2.2.2.1 (by decide) (by decide) (by rw [hml]; rfl) pd_8 rfl rfl rfl (Nat.le_of_eq rfl) d13_221 rfl (by decide) (by decide) ?_
  rintro r146 T147 L148 X149 ⟨rfl, N144, B145⟩
  show Go p e below _ (T147.setTop (mkF m 224 #[.val (.ref a), .val (.int (0 : Int32)), .val (.int (2 : Int32)), .val (.int (3 : Int32)), .val (.int (1 : Int32)), .val (.int (0 : Int32)), .val (.int (0 : Int32)), .val (.int (2 : Int32)), .val (.int (3 : Int32)), .val (.int (0 : Int32)), .val (.int (0 : Int32))] [(.int (2 : Int32))]))
  refine Go.istore (Ls' := #[.val (.ref a), .val (.int (0 : Int32)), .val (.int (2 : Int32)), .val (.int (3 : Int32)), .val (.int (2 : Int32)), .val (.int (0 : Int32)), .val (.int (0 : Int32)), .val (.int (2 : Int32)), .val (.int (3 : Int32)), .val (.int (0 : Int32)), .val (.int (0 : Int32))]) (pc' := 226) X149 hx hby d13_224 rfl rfl ?_
  refine Go.goto (pc' := 269) X149 hx hby d13_226 (by decide) (by decide) ?_
  refine Go.goto (pc' := 12) X149 hx hby d13_269 (by decide) (by decide) ?_
  refine Go.iload (pc' := 14) X149 hx hby d13_12 rfl rfl ?_
  refine Go.ifN (pc' := 17) X149 hx hby d13_14 rfl (show ¬ ((2 : Int32) ≤ 0) from by decide) ?_
  refine Go.iload (pc' := 19) X149 hx hby d13_17 rfl rfl ?_
  refine Go.iconst (pc' := 20) X149 hx hby d13_19 rfl (v := (1 : Int32)) (by decide) ?_
  refine Go.isub (pc' := 21) X149 hx hby d13_20 rfl ?_
  change Go p e below _ (T147.setTop (mkF m 21 #[.val (.ref a), .val (.int (0 : Int32)), .val (.int (2 : Int32)), .val (.int (3 : Int32)), .val (.int (2 : Int32)), .val (.int (0 : Int32)), .val (.int (0 : Int32)), .val (.int (2 : Int32)), .val (.int (3 : Int32)), .val (.int (0 : Int32)), .val (.int (0 : Int32))] [(.int (1 : Int32))]))
  refine Go.istore (Ls' := #[.val (.ref a), .val (.int (0 : Int32)), .val (.int (2 : Int32)), .val (.int (3 : Int32)), .val (.int (2 : Int32)), .val (.int (0 : Int32)), .val (.int (1 : Int32)), .val (.int (2 : Int32)), .val (.int (3 : Int32)), .val (.int (0 : Int32)), .val (.int (0 : Int32))]) (pc' := 23) X149 hx hby d13_21 rfl rfl ?_
  refine Go.aloadN (pc' := 24) X149 hx hby d13_23 rfl rfl rfl ?_
  refine Go.getF (pc' := 27) X149 hx hby hZ hown (hw _ (List.mem_of_getElem? (i := 44) rfl)) Via.refl rfl B145.f7 d13_24 rfl ?_
  intro T150 X151 e152
  show Go p e below _ (T150.setTop (mkF m 27 #[.val (.ref a), .val (.int (0 : Int32)), .val (.int (2 : Int32)), .val (.int (3 : Int32)), .val (.int (2 : Int32)), .val (.int (0 : Int32)), .val (.int (1 : Int32)), .val (.int (2 : Int32)), .val (.int (3 : Int32)), .val (.int (0 : Int32)), .val (.int (0 : Int32))] [(.ref (d 7))]))
  refine Go.iload (pc' := 29) X151 hx hby d13_27 rfl rfl ?_
  refine Go.iaload (pc' := 30) (i := 1) (v := (.int (1 : Int32))) X151 hx hby hZ e152 B145.a7 d13_29 rfl (by decide) (by decide) (by decide) rfl ?_
  refine Go.istore (Ls' := #[.val (.ref a), .val (.int (0 : Int32)), .val (.int (2 : Int32)), .val (.int (3 : Int32)), .val (.int (2 : Int32)), .val (.int (0 : Int32)), .val (.int (1 : Int32)), .val (.int (1 : Int32)), .val (.int (3 : Int32)), .val (.int (0 : Int32)), .val (.int (0 : Int32))]) (pc' := 32) X151 hx hby d13_30 rfl rfl ?_
  refine Go.aloadN (pc' := 33) X151 hx hby d13_32 rfl rfl rfl ?_
  refine Go.getF (pc' := 36) X151 hx hby hZ hown (hw _ (List.mem_of_getElem? (i := 46) rfl)) Via.refl e152 B145.f8 d13_33 rfl ?_
  intro T153 X154 e155
  show Go p e below _ (T153.setTop (mkF m 36 #[.val (.ref a), .val (.int (0 : Int32)), .val (.int (2 : Int32)), .val (.int (3 : Int32)), .val (.int (2 : Int32)), .val (.int (0 : Int32)), .val (.int (1 : Int32)), .val (.int (1 : Int32)), .val (.int (3 : Int32)), .val (.int (0 : Int32)), .val (.int (0 : Int32))] [(.ref (d 8))]))
  refine Go.iload (pc' := 38) X154 hx hby d13_36 rfl rfl ?_
  refine Go.iaload (pc' := 39) (i := 1) (v := (.int (3 : Int32))) X154 hx hby hZ e155 B145.a8 d13_38 rfl (by decide) (by decide) (by decide) rfl ?_
  refine Go.istore (Ls' := #[.val (.ref a), .val (.int (0 : Int32)), .val (.int (2 : Int32)), .val (.int (3 : Int32)), .val (.int (2 : Int32)), .val (.int (0 : Int32)), .val (.int (1 : Int32)), .val (.int (1 : Int32)), .val (.int (3 : Int32)), .val (.int (0 : Int32)), .val (.int (0 : Int32))]) (pc' := 41) X154 hx hby d13_39 rfl rfl ?_
  refine Go.aloadN (pc' := 42) X154 hx hby d13_41 rfl rfl rfl ?_
  refine Go.getF (pc' := 45) X154 hx hby hZ hown (hw _ (List.mem_of_getElem? (i := 52) rfl)) Via.refl e155 B145.f11 d13_42 rfl ?_
  intro T156 X157 e158
  show Go p e below _ (T156.setTop (mkF m 45 #[.val (.ref a), .val (.int (0 : Int32)), .val (.int (2 : Int32)), .val (.int (3 : Int32)), .val (.int (2 : Int32)), .val (.int (0 : Int32)), .val (.int (1 : Int32)), .val (.int (1 : Int32)), .val (.int (3 : Int32)), .val (.int (0 : Int32)), .val (.int (0 : Int32))] [(.ref (d 11))]))
  refine Go.iload (pc' := 47) X157 hx hby d13_45 rfl rfl ?_
  refine Go.iaload (pc' := 48) (i := 1) (v := (.int (0 : Int32))) X157 hx hby hZ e158 B145.a11 d13_47 rfl (by decide) (by decide) (by decide) rfl ?_
  refine Go.ifN (pc' := 51) X157 hx hby d13_48 rfl (show ¬ ((0 : Int32) ≠ 0) from by decide) ?_
  refine Go.iloadN (pc' := 52) X157 hx hby d13_51 rfl rfl ?_
  refine Go.iload (pc' := 54) X157 hx hby d13_52 rfl rfl ?_
  refine Go.iload (pc' := 56) X157 hx hby d13_54 rfl rfl ?_
  refine Go.callS (pc' := 59) (W := 0) (argsL := [(.int (0 : Int32)), (.int (1 : Int32)), (.int (3 : Int32))]) (rest := []) X157 hx hby hZ hown (hw _ (List.mem_of_getElem? (i := 120) rfl)) (hw _ (List.mem_of_getElem? (i := 121) rfl)) (hw _ (List.mem_of_getElem? (i := 4) rfl)) (hw _ (List.mem_of_getElem? (i := 122) rfl)) (by decide) (rx31 l Z a0 hw  (0 : Int32) (1 : Int32) (3 : Int32) T147.heap rfl rfl rfl) e158 (by decide) (by decide) (by rw [hml]; rfl) pd_8 rfl rfl rfl (Nat.le_of_eq rfl) d13_56 rfl (by decide) (by decide) ?_
  rintro r160 T161 L162 X163 ⟨rfl, rfl, e159⟩
  rw [List.append_nil] at X163
  show Go p e below _ (T161.setTop (mkF m 59 #[.val (.ref a), .val (.int (0 : Int32)), .val (.int (2 : Int32)), .val (.int (3 : Int32)), .val (.int (2 : Int32)), .val (.int (0 : Int32)), .val (.int (1 : Int32)), .val (.int (1 : Int32)), .val (.int (3 : Int32)), .val (.int (0 : Int32)), .val (.int (0 : Int32))] [(.int (3 : Int32))]))
  refine Go.istore (Ls' := #[.val (.ref a), .val (.int (0 : Int32)), .val (.int (2 : Int32)), .val (.int (3 : Int32)), .val (.int (2 : Int32)), .val (.int (0 : Int32)), .val (.int (1 : Int32)), .val (.int (1 : Int32)), .val (.int (3 : Int32)), .val (.int (3 : Int32)), .val (.int (0 : Int32))]) (pc' := 61) X163 hx hby d13_59 rfl rfl ?_
  refine Go.iload (pc' := 63) X163 hx hby d13_61 rfl rfl ?_
  refine Go.iconst (pc' := 64) X163 hx hby d13_63 rfl (v := (-1 : Int32)) (by decide) ?_
  refine Go.icmpY (pc' := 82) X163 hx hby d13_64 (by decide) (by decide) (show (3 : Int32) ≠ (-1 : Int32) from by decide) ?_
  refine Go.iload (pc' := 84) X163 hx hby d13_82 rfl rfl ?_
  refine Go.iconst (pc' := 85) X163 hx hby d13_84 rfl (v := (-1 : Int32)) (by decide) ?_
  refine Go.icmpY (pc' := 153) X163 hx hby d13_85 (by decide) (by decide) (show (3 : Int32) ≠ (-1 : Int32) from by decide) ?_
  refine Go.iload (pc' := 155) X163 hx hby d13_153 rfl rfl ?_
  refine Go.istore (Ls' := #[.val (.ref a), .val (.int (0 : Int32)), .val (.int (2 : Int32)), .val (.int (3 : Int32)), .val (.int (2 : Int32)), .val (.int (3 : Int32)), .val (.int (1 : Int32)), .val (.int (1 : Int32)), .val (.int (3 : Int32)), .val (.int (3 : Int32)), .val (.int (0 : Int32))]) (pc' := 157) X163 hx hby d13_155 rfl rfl ?_
  refine Go.iinc (w := (2 : Int32) + (-1 : Int32)) (Ls' := #[.val (.ref a), .val (.int (0 : Int32)), .val (.int (2 : Int32)), .val (.int (3 : Int32)), .val (.int ((2 : Int32) + (-1 : Int32))), .val (.int (3 : Int32)), .val (.int (1 : Int32)), .val (.int (1 : Int32)), .val (.int (3 : Int32)), .val (.int (3 : Int32)), .val (.int (0 : Int32))]) (pc' := 160) X163 hx hby d13_157 rfl rfl rfl rfl ?_
  change Go p e below _ (T161.setTop (mkF m 160 #[.val (.ref a), .val (.int (0 : Int32)), .val (.int (2 : Int32)), .val (.int (3 : Int32)), .val (.int (1 : Int32)), .val (.int (3 : Int32)), .val (.int (1 : Int32)), .val (.int (1 : Int32)), .val (.int (3 : Int32)), .val (.int (3 : Int32)), .val (.int (0 : Int32))] []))
  refine Go.goto (pc' := 269) X163 hx hby d13_160 (by decide) (by decide) ?_
  refine Go.goto (pc' := 12) X163 hx hby d13_269 (by decide) (by decide) ?_
  refine Go.iload (pc' := 14) X163 hx hby d13_12 rfl rfl ?_
  refine Go.ifN (pc' := 17) X163 hx hby d13_14 rfl (show ¬ ((1 : Int32) ≤ 0) from by decide) ?_
  refine Go.iload (pc' := 19) X163 hx hby d13_17 rfl rfl ?_
  refine Go.iconst (pc' := 20) X163 hx hby d13_19 rfl (v := (1 : Int32)) (by decide) ?_
  refine Go.isub (pc' := 21) X163 hx hby d13_20 rfl ?_
  change Go p e below _ (T161.setTop (mkF m 21 #[.val (.ref a), .val (.int (0 : Int32)), .val (.int (2 : Int32)), .val (.int (3 : Int32)), .val (.int (1 : Int32)), .val (.int (3 : Int32)), .val (.int (1 : Int32)), .val (.int (1 : Int32)), .val (.int (3 : Int32)), .val (.int (3 : Int32)), .val (.int (0 : Int32))] [(.int (0 : Int32))]))
  refine Go.istore (Ls' := #[.val (.ref a), .val (.int (0 : Int32)), .val (.int (2 : Int32)), .val (.int (3 : Int32)), .val (.int (1 : Int32)), .val (.int (3 : Int32)), .val (.int (0 : Int32)), .val (.int (1 : Int32)), .val (.int (3 : Int32)), .val (.int (3 : Int32)), .val (.int (0 : Int32))]) (pc' := 23) X163 hx hby d13_21 rfl rfl ?_
  refine Go.aloadN (pc' := 24) X163 hx hby d13_23 rfl rfl rfl ?_
  refine Go.getF (pc' := 27) X163 hx hby hZ hown (hw _ (List.mem_of_getElem? (i := 44) rfl)) Via.refl e159 B145.f7 d13_24 rfl ?_
  intro T164 X165 e166
  show Go p e below _ (T164.setTop (mkF m 27 #[.val (.ref a), .val (.int (0 : Int32)), .val (.int (2 : Int32)), .val (.int (3 : Int32)), .val (.int (1 : Int32)), .val (.int (3 : Int32)), .val (.int (0 : Int32)), .val (.int (1 : Int32)), .val (.int (3 : Int32)), .val (.int (3 : Int32)), .val (.int (0 : Int32))] [(.ref (d 7))]))
  refine Go.iload (pc' := 29) X165 hx hby d13_27 rfl rfl ?_
  refine Go.iaload (pc' := 30) (i := 0) (v := (.int (2 : Int32))) X165 hx hby hZ e166 B145.a7 d13_29 rfl (by decide) (by decide) (by decide) rfl ?_
  refine Go.istore (Ls' := #[.val (.ref a), .val (.int (0 : Int32)), .val (.int (2 : Int32)), .val (.int (3 : Int32)), .val (.int (1 : Int32)), .val (.int (3 : Int32)), .val (.int (0 : Int32)), .val (.int (2 : Int32)), .val (.int (3 : Int32)), .val (.int (3 : Int32)), .val (.int (0 : Int32))]) (pc' := 32) X165 hx hby d13_30 rfl rfl ?_
  refine Go.aloadN (pc' := 33) X165 hx hby d13_32 rfl rfl rfl ?_
  refine Go.getF (pc' := 36) X165 hx hby hZ hown (hw _ (List.mem_of_getElem? (i := 46) rfl)) Via.refl e166 B145.f8 d13_33 rfl ?_
  intro T167 X168 e169
  show Go p e below _ (T167.setTop (mkF m 36 #[.val (.ref a), .val (.int (0 : Int32)), .val (.int (2 : Int32)), .val (.int (3 : Int32)), .val (.int (1 : Int32)), .val (.int (3 : Int32)), .val (.int (0 : Int32)), .val (.int (2 : Int32)), .val (.int (3 : Int32)), .val (.int (3 : Int32)), .val (.int (0 : Int32))] [(.ref (d 8))]))
  refine Go.iload (pc' := 38) X168 hx hby d13_36 rfl rfl ?_
  refine Go.iaload (pc' := 39) (i := 0) (v := (.int (3 : Int32))) X168 hx hby hZ e169 B145.a8 d13_38 rfl (by decide) (by decide) (by decide) rfl ?_
  refine Go.istore (Ls' := #[.val (.ref a), .val (.int (0 : Int32)), .val (.int (2 : Int32)), .val (.int (3 : Int32)), .val (.int (1 : Int32)), .val (.int (3 : Int32)), .val (.int (0 : Int32)), .val (.int (2 : Int32)), .val (.int (3 : Int32)), .val (.int (3 : Int32)), .val (.int (0 : Int32))]) (pc' := 41) X168 hx hby d13_39 rfl rfl ?_
  refine Go.aloadN (pc' := 42) X168 hx hby d13_41 rfl rfl rfl ?_
  refine Go.getF (pc' := 45) X168 hx hby hZ hown (hw _ (List.mem_of_getElem? (i := 52) rfl)) Via.refl e169 B145.f11 d13_42 rfl ?_
  intro T170 X171 e172
  show Go p e below _ (T170.setTop (mkF m 45 #[.val (.ref a), .val (.int (0 : Int32)), .val (.int (2 : Int32)), .val (.int (3 : Int32)), .val (.int (1 : Int32)), .val (.int (3 : Int32)), .val (.int (0 : Int32)), .val (.int (2 : Int32)), .val (.int (3 : Int32)), .val (.int (3 : Int32)), .val (.int (0 : Int32))] [(.ref (d 11))]))
  refine Go.iload (pc' := 47) X171 hx hby d13_45 rfl rfl ?_
  refine Go.iaload (pc' := 48) (i := 0) (v := (.int (2 : Int32))) X171 hx hby hZ e172 B145.a11 d13_47 rfl (by decide) (by decide) (by decide) rfl ?_
  refine Go.ifY (pc' := 163) X171 hx hby d13_48 (by decide) (by decide) (show (2 : Int32) ≠ 0 from by decide) ?_
  refine Go.aloadN (pc' := 164) X171 hx hby d13_163 rfl rfl rfl ?_
  refine Go.getF (pc' := 167) X171 hx hby hZ hown (hw _ (List.mem_of_getElem? (i := 52) rfl)) Via.refl e172 B145.f11 d13_164 rfl ?_
  intro T173 X174 e175
  show Go p e below _ (T173.setTop (mkF m 167 #[.val (.ref a), .val (.int (0 : Int32)), .val (.int (2 : Int32)), .val (.int (3 : Int32)), .val (.int (1 : Int32)), .val (.int (3 : Int32)), .val (.int (0 : Int32)), .val (.int (2 : Int32)), .val (.int (3 : Int32)), .val (.int (3 : Int32)), .val (.int (0 : Int32))] [(.ref (d 11))]))
  refine Go.iload (pc' := 169) X174 hx hby d13_167 rfl rfl ?_
  refine Go.iaload (pc' := 170) (i := 0) (v := (.int (2 : Int32))) X174 hx hby hZ e175 B145.a11 d13_169 rfl (by decide) (by decide) (by decide) rfl ?_
  refine Go.iconst (pc' := 171) X174 hx hby d13_170 rfl (v := (1 : Int32)) (by decide) ?_
  refine Go.icmpY (pc' := 229) X174 hx hby d13_171 (by decide) (by decide) (show (2 : Int32) ≠ (1 : Int32) from by decide) ?_
  refine Go.aloadN (pc' := 230) X174 hx hby d13_229 rfl rfl rfl ?_
  refine Go.aloadN (pc' := 231) X174 hx hby d13_230 rfl rfl rfl ?_
  refine Go.getF (pc' := 234) X174 hx hby hZ hown (hw _ (List.mem_of_getElem? (i := 48) rfl)) Via.refl e175 B145.f9 d13_231 rfl ?_
  intro T176 X177 e178
  show Go p e below _ (T176.setTop (mkF m 234 #[.val (.ref a), .val (.int (0 : Int32)), .val (.int (2 : Int32)), .val (.int (3 : Int32)), .val (.int (1 : Int32)), .val (.int (3 : Int32)), .val (.int (0 : Int32)), .val (.int (2 : Int32)), .val (.int (3 : Int32)), .val (.int (3 : Int32)), .val (.int (0 : Int32))] [(.ref (d 9)), (.ref a)]))
  refine Go.iload (pc' := 236) X177 hx hby d13_234 rfl rfl ?_
  refine Go.iaload (pc' := 237) (i := 0) (v := (.int (0 : Int32))) X177 hx hby hZ e178 B145.a9 d13_236 rfl (by decide) (by decide) (by decide) rfl ?_
  refine Go.aloadN (pc' := 238) X177 hx hby d13_237 rfl rfl rfl ?_
  refine Go.getF (pc' := 241) X177 hx hby hZ hown (hw _ (List.mem_of_getElem? (i := 50) rfl)) Via.refl e178 B145.f10 d13_238 rfl ?_
  intro T179 X180 e181
  show Go p e below _ (T179.setTop (mkF m 241 #[.val (.ref a), .val (.int (0 : Int32)), .val (.int (2 : Int32)), .val (.int (3 : Int32)), .val (.int (1 : Int32)), .val (.int (3 : Int32)), .val (.int (0 : Int32)), .val (.int (2 : Int32)), .val (.int (3 : Int32)), .val (.int (3 : Int32)), .val (.int (0 : Int32))] [(.ref (d 10)), (.int (0 : Int32)), (.ref a)]))
  refine Go.iload (pc' := 243) X180 hx hby d13_241 rfl rfl ?_
  refine Go.iaload (pc' := 244) (i := 0) (v := (.int (0 : Int32))) X180 hx hby hZ e181 B145.a10 d13_243 rfl (by decide) (by decide) (by decide) rfl ?_
  refine Go.iload (pc' := 246) X180 hx hby d13_244 rfl rfl ?_
  refine Go.callP (C := "com/example/glacis/glacis/analysis/Bdd") (pc' := 249) (a := a) (W := 0) (argsL := [(.int (0 : Int32)), (.int (0 : Int32)), (.int (3 : Int32))]) (rest := []) X180 hx hby hZ hown (hw _ (List.mem_of_getElem? (i := 86) rfl)) (hw _ (List.mem_of_getElem? (i := 87) rfl)) (own_sel (w := (⟨"com/example/glacis/glacis/analysis/Bdd", "test", "(I)I"⟩ : MethodName)) (y := (⟨"com/example/glacis/glacis/analysis/Bdd", "node", "(III)I"⟩ : MethodName)) (hw _ (List.mem_of_getElem? (i := 84) rfl)) rfl (hw _ (List.mem_of_getElem? (i := 88) rfl)) (hw _ (List.mem_of_getElem? (i := 87) rfl)) (by decide)) (hw _ (List.mem_of_getElem? (i := 88) rfl)) (hw _ (List.mem_of_getElem? (i := 4) rfl)) (hw _ (List.mem_of_getElem? (i := 89) rfl)) (by decide) (rx32 l Z a0 hw a (0 : Int32) (0 : Int32) (3 : Int32) T147.heap n0 q0 q1 d (4 : Int32) vr (own_up (own_up (own_up (own_up (own_up (own_up (own_up (own_up (own_up (own_up (own_up (own_up (own_up f 7 0 (.int (2 : Int32))) 8 0 (.int (3 : Int32))) 11 0 (.int (0 : Int32))) 9 0 (.int (0 : Int32))) 11 0 (.int (1 : Int32))) 7 1 (.int (0 : Int32))) 8 1 (.int (3 : Int32))) 11 1 (.int (0 : Int32))) 10 0 (.int (0 : Int32))) 11 0 (.int (2 : Int32))) 7 1 (.int (1 : Int32))) 8 1 (.int (3 : Int32))) 11 1 (.int (0 : Int32))) rfl rfl rfl B145 rfl r_4_647) e181 B145.2.2.2.2.1 (by decide) (by decide) (by rw [hml]; rfl) pd_8 rfl rfl rfl (Nat.le_of_eq rfl) d13_246 rfl (by decide) (by decide) ?_
  rintro r184 T185 L186 X187 ⟨rfl, N182, B183⟩
  show Go p e below _ (T185.setTop (mkF m 249 #[.val (.ref a), .val (.int (0 : Int32)), .val (.int (2 : Int32)), .val (.int (3 : Int32)), .val (.int (1 : Int32)), .val (.int (3 : Int32)), .val (.int (0 : Int32)), .val (.int (2 : Int32)), .val (.int (3 : Int32)), .val (.int (3 : Int32)), .val (.int (0 : Int32))] [(.int (4 : Int32))]))
  refine Go.istore (Ls' := #[.val (.ref a), .val (.int (0 : Int32)), .val (.int (2 : Int32)), .val (.int (3 : Int32)), .val (.int (1 : Int32)), .val (.int (4 : Int32)), .val (.int (0 : Int32)), .val (.int (2 : Int32)), .val (.int (3 : Int32)), .val (.int (3 : Int32)), .val (.int (0 : Int32))]) (pc' := 251) X187 hx hby d13_249 rfl rfl ?_
  refine Go.aloadN (pc' := 252) X187 hx hby d13_251 rfl rfl rfl ?_
  refine Go.getF (pc' := 255) X187 hx hby hZ hown (hw _ (List.mem_of_getElem? (i := 42) rfl)) Via.refl rfl B183.f6 d13_252 rfl ?_
  intro T188 X189 e190
  show Go p e below _ (T188.setTop (mkF m 255 #[.val (.ref a), .val (.int (0 : Int32)), .val (.int (2 : Int32)), .val (.int (3 : Int32)), .val (.int (1 : Int32)), .val (.int (4 : Int32)), .val (.int (0 : Int32)), .val (.int (2 : Int32)), .val (.int (3 : Int32)), .val (.int (3 : Int32)), .val (.int (0 : Int32))] [(.ref (d 6))]))
  refine Go.iloadN (pc' := 256) X189 hx hby d13_255 rfl rfl ?_
  refine Go.aaload (pc' := 257) (i := 0) (v := (.ref q0)) X189 hx hby hZ e190 B183.a6 rfl d13_256 rfl (by decide) (by decide) (by decide) r_6_0 ?_
  refine Go.iload (pc' := 259) X189 hx hby d13_257 rfl rfl ?_
  refine Go.iload (pc' := 261) X189 hx hby d13_259 rfl rfl ?_
  refine Go.iload (pc' := 263) X189 hx hby d13_261 rfl rfl ?_
  refine Go.callV (C := "com/example/glacis/glacis/analysis/Bdd$Computed") (pc' := 266) (a := q0) (W := 0) (argsL := [(.int (2 : Int32)), (.int (3 : Int32)), (.int (4 : Int32))]) (rest := []) X189 hx hby hZ hown (hw _ (List.mem_of_getElem? (i := 133) rfl)) (hw _ (List.mem_of_getElem? (i := 134) rfl)) (notFace_of_selects (args := #[]) (mvT hZ (hw _ (List.mem_of_getElem? (i := 136) rfl)))) (hw _ (List.mem_of_getElem? (i := 136) rfl)) (hw _ (List.mem_of_getElem? (i := 135) rfl)) (hw _ (List.mem_of_getElem? (i := 30) rfl)) (hw _ (List.mem_of_getElem? (i := 137) rfl)) (by decide) (rx35 l Z a0 hw q0 (2 : Int32) (3 : Int32) (4 : Int32) T185.heap n0 a q1 d (5 : Int32) vr (own_up (own_up (own_up (own_up (own_up (own_up (own_up (own_up (own_up (own_up (own_up (own_up (own_up (own_up (own_up (own_up (own_up (own_up f 7 0 (.int (2 : Int32))) 8 0 (.int (3 : Int32))) 11 0 (.int (0 : Int32))) 9 0 (.int (0 : Int32))) 11 0 (.int (1 : Int32))) 7 1 (.int (0 : Int32))) 8 1 (.int (3 : Int32))) 11 1 (.int (0 : Int32))) 10 0 (.int (0 : Int32))) 11 0 (.int (2 : Int32))) 7 1 (.int (1 : Int32))) 8 1 (.int (3 : Int32))) 11 1 (.int (0 : Int32))) 0 4 (.int (0 : Int32))) 1 4 (.int (0 : Int32))) 2 4 (.int (3 : Int32))) 3 4 (.int (-1 : Int32))) 4 647 (.int (4 : Int32))) rfl rfl rfl B183 ) e190 B183.2.2.2.2.2.1 (by decide) (by decide) (by rw [hml]; rfl) pd_9 rfl rfl rfl (Nat.le_of_eq rfl) d13_263 rfl (by decide) (by decide) ?_
  rintro r193 T194 L195 X196 ⟨rfl, N191, B192⟩
  show Go p e below _ (T194.setTop (mkF m 266 #[.val (.ref a), .val (.int (0 : Int32)), .val (.int (2 : Int32)), .val (.int (3 : Int32)), .val (.int (1 : Int32)), .val (.int (4 : Int32)), .val (.int (0 : Int32)), .val (.int (2 : Int32)), .val (.int (3 : Int32)), .val (.int (3 : Int32)), .val (.int (0 : Int32))] []))
  refine Go.iinc (w := (1 : Int32) + (-1 : Int32)) (Ls' := #[.val (.ref a), .val (.int (0 : Int32)), .val (.int (2 : Int32)), .val (.int (3 : Int32)), .val (.int ((1 : Int32) + (-1 : Int32))), .val (.int (4 : Int32)), .val (.int (0 : Int32)), .val (.int (2 : Int32)), .val (.int (3 : Int32)), .val (.int (3 : Int32)), .val (.int (0 : Int32))]) (pc' := 269) X196 hx hby d13_266 rfl rfl rfl rfl ?_
  change Go p e below _ (T194.setTop (mkF m 269 #[.val (.ref a), .val (.int (0 : Int32)), .val (.int (2 : Int32)), .val (.int (3 : Int32)), .val (.int (0 : Int32)), .val (.int (4 : Int32)), .val (.int (0 : Int32)), .val (.int (2 : Int32)), .val (.int (3 : Int32)), .val (.int (3 : Int32)), .val (.int (0 : Int32))] []))
  refine Go.goto (pc' := 12) X196 hx hby d13_269 (by decide) (by decide) ?_
  refine Go.iload (pc' := 14) X196 hx hby d13_12 rfl rfl ?_
  refine Go.ifY (pc' := 272) X196 hx hby d13_14 (by decide) (by decide) (show (0 : Int32) ≤ 0 from by decide) ?_
  refine Go.iload (pc' := 274) X196 hx hby d13_272 rfl rfl ?_
  exact Go.retI X196 hx hby hlk hret d13_274 (by decide) (by decide) ⟨rfl, (Fr.app (Fr.app (Fr.app (Fr.app (Fr.app N131 N132) N138) N144) N182) N191), B192⟩
theorem d12_0 : decode prog_2_method_4_code 0 = .ok (.aload_n 0, 1) := by decide +kernel
theorem d12_1 : decode prog_2_method_4_code 1 = .ok (.iconst 0, 1) := by decide +kernel
theorem d12_2 : decode prog_2_method_4_code 2 = .ok (.iload_n 1, 1) := by decide +kernel
theorem d12_3 : decode prog_2_method_4_code 3 = .ok (.iload_n 2, 1) := by decide +kernel
theorem d12_4 : decode prog_2_method_4_code 4 = .ok (.invokevirtual 85, 3) := by decide +kernel
theorem d12_7 : decode prog_2_method_4_code 7 = .ok (.ireturn, 1) := by decide +kernel
theorem ef_12 (m : MethodId) (x0 : Addr) (x1 : Int32) (x2 : Int32) : entryFrame m #[(.ref x0), (.int x1), (.int x2)] 3 = mkF m 0 #[.val (.ref x0), .val (.int x1), .val (.int x2)] [] := by first | (simp [entryFrame, mkF, argsToLocals, Value.category]; done) | rfl
set_option maxRecDepth 65536 in
set_option maxHeartbeats 40000000 in
theorem rx11 (l : Launch) (Z : State) (a0 : Array Value) (hw : ∀ d ∈ tables_1, d.before a0 Z = true) (a : Addr) (x0 : Int32) (x1 : Int32) (h0 : Heap) (n0 : Nat) (q0 q1 : Addr) (d : Nat → Addr) (sz vr : Int32) (f : Nat → Int → Value) (e0_ : x0 = 2) (e1_ : x1 = 3) (B : OwnB Z h0 n0 a q0 q1 d sz vr f) (hsz : sz = 4) (r_6_0 : f 6 0 = (.ref q0)) (r_12_675 : f 12 675 = (.int (-1 : Int32))) (r_0_2 : f 0 2 = (.int (0 : Int32))) (r_0_3 : f 0 3 = (.int (1 : Int32))) (r_1_2 : f 1 2 = (.int (0 : Int32))) (r_2_2 : f 2 2 = (.int (1 : Int32))) (r_4_647 : f 4 647 = (.int (-1 : Int32))) :
    Con l Z (⟨"com/example/glacis/glacis/analysis/Bdd", "and", "(II)I"⟩ : MethodName) prog_2_method_4_code 3 (some .int) [] ({ frames := 4, cells := 0, slots := 0, locals := 71 } : Room) #[(.ref a), (.int x0), (.int x1)] h0 (fun v h L => v = some (.int (4 : Int32)) ∧ Fr n0 L ∧ OwnB Z h n0 a q0 q1 d (5 : Int32) vr (own_up (own_up (own_up (own_up (own_up (own_up (own_up (own_up (own_up (own_up (own_up (own_up (own_up (own_up (own_up (own_up (own_up (own_up (own_up (own_up (own_up f 7 0 (.int (2 : Int32))) 8 0 (.int (3 : Int32))) 11 0 (.int (0 : Int32))) 9 0 (.int (0 : Int32))) 11 0 (.int (1 : Int32))) 7 1 (.int (0 : Int32))) 8 1 (.int (3 : Int32))) 11 1 (.int (0 : Int32))) 10 0 (.int (0 : Int32))) 11 0 (.int (2 : Int32))) 7 1 (.int (1 : Int32))) 8 1 (.int (3 : Int32))) 11 1 (.int (0 : Int32))) 0 4 (.int (0 : Int32))) 1 4 (.int (0 : Int32))) 2 4 (.int (3 : Int32))) 3 4 (.int (-1 : Int32))) 4 647 (.int (4 : Int32))) 12 675 (.int (2 : Int32))) 13 675 (.int (3 : Int32))) 14 675 (.int (4 : Int32)))) := by
  refine Con.of (plainFor_of_name pn_Bdd) ?_
  intro p e s m below meth c s₁ hx hby hml hown hnm hret hlk hZ X0 e0
  refine Go.cast (ef_12 m a x0 x1) ?_
  replace hown : s.vm.findClass "com/example/glacis/glacis/analysis/Bdd" = some m.cls := hown
  subst e0_ e1_ hsz
  show Go p e below _ (s₁.setTop (mkF m 0 #[.val (.ref a), .val (.int (2 : Int32)), .val (.int (3 : Int32))] []))
  refine Go.aloadN (pc' := 1) X0 hx hby d12_0 rfl rfl rfl ?_
  refine Go.iconst (pc' := 2) X0 hx hby d12_1 rfl (v := (0 : Int32)) (by decide) ?_
  refine Go.iloadN (pc' := 3) X0 hx hby d12_2 rfl rfl ?_
  refine Go.iloadN (pc' := 4) X0 hx hby d12_3 rfl rfl ?_
  refine Go.callP (C := "com/example/glacis/glacis/analysis/Bdd") (pc' := 7) (a := a) (W := 0) (argsL := [(.int (0 : Int32)), (.int (2 : Int32)), (.int (3 : Int32))]) (rest := []) X0 hx hby hZ hown (hw _ (List.mem_of_getElem? (i := 105) rfl)) (hw _ (List.mem_of_getElem? (i := 106) rfl)) (own_sel (w := (⟨"com/example/glacis/glacis/analysis/Bdd", "test", "(I)I"⟩ : MethodName)) (y := (⟨"com/example/glacis/glacis/analysis/Bdd", "apply", "(III)I"⟩ : MethodName)) (hw _ (List.mem_of_getElem? (i := 84) rfl)) rfl (hw _ (List.mem_of_getElem? (i := 107) rfl)) (hw _ (List.mem_of_getElem? (i := 106) rfl)) (by decide)) (hw _ (List.mem_of_getElem? (i := 107) rfl)) (hw _ (List.mem_of_getElem? (i := 4) rfl)) (hw _ (List.mem_of_getElem? (i := 108) rfl)) (by decide) (rx12 l Z a0 hw a (0 : Int32) (2 : Int32) (3 : Int32) h0 n0 q0 q1 d (4 : Int32) vr f rfl rfl rfl B rfl r_6_0 r_12_675 r_0_2 r_0_3 r_1_2 r_2_2 r_4_647) e0 B.2.2.2.2.1 (by decide) (by decide) (by rw [hml]; rfl) pd_8 rfl rfl rfl (Nat.le_of_eq rfl) d12_4 rfl (by decide) (by decide) ?_
  rintro r3 T4 L5 X6 ⟨rfl, N1, B2⟩
  show Go p e below _ (T4.setTop (mkF m 7 #[.val (.ref a), .val (.int (2 : Int32)), .val (.int (3 : Int32))] [(.int (4 : Int32))]))
  exact Go.retI X6 hx hby hlk hret d12_7 (by decide) (by decide) ⟨rfl, (Fr.app (Fr.nil _) N1), B2⟩
set_option maxRecDepth 65536 in
set_option maxHeartbeats 40000000 in
theorem rx38 (l : Launch) (Z : State) (a0 : Array Value) (hw : ∀ d ∈ tables_1, d.before a0 Z = true) (x0 : Int32) (x1 : Int32) (x2 : Int32) (h0 : Heap) (e0_ : x0 = 1) (e1_ : x1 = 2) (e2_ : x2 = 3) :
    Con l Z (⟨"com/example/glacis/glacis/analysis/Bdd", "terminalCase", "(III)I"⟩ : MethodName) prog_2_method_13_code 4 (some .int) [] ({ frames := 0, cells := 0, slots := 0, locals := 0 } : Room) #[(.int x0), (.int x1), (.int x2)] h0 (PQ (some (.int (-1 : Int32))) h0) := by
  refine Con.of (plainFor_of_name pn_Bdd) ?_
  intro p e s m below meth c s₁ hx hby hml hown hnm hret hlk hZ X0 e0
  refine Go.cast (ef_17 m x0 x1 x2) ?_
  replace hown : s.vm.findClass "com/example/glacis/glacis/analysis/Bdd" = some m.cls := hown
  subst e0_ e1_ e2_
  show Go p e below _ (s₁.setTop (mkF m 0 #[.val (.int (1 : Int32)), .val (.int (2 : Int32)), .val (.int (3 : Int32)), .unset] []))
  refine Go.iloadN (pc' := 1) X0 hx hby d17_0 rfl rfl ?_
  refine Go.iloadN (pc' := 2) X0 hx hby d17_1 rfl rfl ?_
  refine Go.icmpY (pc' := 10) X0 hx hby d17_2 (by decide) (by decide) (show (2 : Int32) ≠ (3 : Int32) from by decide) ?_
  refine Go.iloadN (pc' := 11) X0 hx hby d17_10 rfl rfl ?_
  refine Go.ifY (pc' := 27) X0 hx hby d17_11 (by decide) (by decide) (show (2 : Int32) ≠ 0 from by decide) ?_
  refine Go.iloadN (pc' := 28) X0 hx hby d17_27 rfl rfl ?_
  refine Go.iconst (pc' := 29) X0 hx hby d17_28 rfl (v := (1 : Int32)) (by decide) ?_
  refine Go.icmpY (pc' := 45) X0 hx hby d17_29 (by decide) (by decide) (show (2 : Int32) ≠ (1 : Int32) from by decide) ?_
  refine Go.iconst (pc' := 46) X0 hx hby d17_45 rfl (v := (-1 : Int32)) (by decide) ?_
  refine Go.istoreN (Ls' := #[.val (.int (1 : Int32)), .val (.int (2 : Int32)), .val (.int (3 : Int32)), .val (.int (-1 : Int32))]) (pc' := 47) X0 hx hby d17_46 rfl rfl ?_
  refine Go.iloadN (pc' := 48) X0 hx hby d17_47 rfl rfl ?_
  exact Go.retI X0 hx hby hlk hret d17_48 (by decide) (by decide) ⟨rfl, rfl, e0⟩
set_option maxRecDepth 65536 in
set_option maxHeartbeats 40000000 in
theorem rx39 (l : Launch) (Z : State) (a0 : Array Value) (hw : ∀ d ∈ tables_1, d.before a0 Z = true) (q1 : Addr) (x0 : Int32) (x1 : Int32) (h0 : Heap) (n0 : Nat) (a q0 : Addr) (d : Nat → Addr) (sz vr : Int32) (f : Nat → Int → Value) (e0_ : x0 = 2) (e1_ : x1 = 3) (B : OwnB Z h0 n0 a q0 q1 d sz vr f) (r_15_675 : f 15 675 = (.int (-1 : Int32))) :
    Con l Z (⟨"com/example/glacis/glacis/analysis/Bdd$Computed", "get", "(II)I"⟩ : MethodName) prog_3_method_2_code 5 (some .int) [] ({ frames := 1, cells := 0, slots := 0, locals := 15 } : Room) #[(.ref q1), (.int x0), (.int x1)] h0 (fun v h L => v = some (.int (-1 : Int32)) ∧ Fr n0 L ∧ OwnB Z h n0 a q0 q1 d sz vr f) := by
  refine Con.of (plainFor_of_name pn_Bdd_Computed) ?_
  intro p e s m below meth c s₁ hx hby hml hown hnm hret hlk hZ X0 e0
  refine Go.cast (ef_18 m q1 x0 x1) ?_
  replace hown : s.vm.findClass "com/example/glacis/glacis/analysis/Bdd$Computed" = some m.cls := hown
  subst e0_ e1_
  show Go p e below _ (s₁.setTop (mkF m 0 #[.val (.ref q1), .val (.int (2 : Int32)), .val (.int (3 : Int32)), .unset, .unset] []))
  refine Go.iloadN (pc' := 1) X0 hx hby d18_0 rfl rfl ?_
  refine Go.iloadN (pc' := 2) X0 hx hby d18_1 rfl rfl ?_
  refine Go.iconst (pc' := 3) X0 hx hby d18_2 rfl (v := (0 : Int32)) (by decide) ?_
  refine Go.callSNest (pc' := 6) (W := 0) (argsL := [(.int (2 : Int32)), (.int (3 : Int32)), (.int (0 : Int32))]) (rest := []) X0 hx hby hZ hown (hw _ (List.mem_of_getElem? (i := 128) rfl)) (hw _ (List.mem_of_getElem? (i := 95) rfl)) (hw _ (List.mem_of_getElem? (i := 4) rfl)) (hw _ (List.mem_of_getElem? (i := 96) rfl)) (by decide) (rx18 l Z a0 hw  (2 : Int32) (3 : Int32) (0 : Int32) h0 rfl rfl rfl) e0 (by decide) (by decide) (by rw [hml]; rfl) pd_8 rfl rfl rfl (Nat.le_of_eq rfl) d18_3 rfl (by decide) (by decide) ?_
  rintro r2 T3 L4 X5 ⟨rfl, rfl, e1⟩
  rw [List.append_nil] at X5
  show Go p e below _ (T3.setTop (mkF m 6 #[.val (.ref q1), .val (.int (2 : Int32)), .val (.int (3 : Int32)), .unset, .unset] [(.int (-835465565 : Int32))]))
  refine Go.aloadN (pc' := 7) X5 hx hby d18_6 rfl rfl rfl ?_
  refine Go.getF (pc' := 10) X5 hx hby hZ hown (hw _ (List.mem_of_getElem? (i := 35) rfl)) Via.refl e1 B.f15 d18_7 rfl ?_
  intro T6 X7 e8
  show Go p e below _ (T6.setTop (mkF m 10 #[.val (.ref q1), .val (.int (2 : Int32)), .val (.int (3 : Int32)), .unset, .unset] [(.ref (d 15)), (.int (-835465565 : Int32))]))
  refine Go.alen (pc' := 11) (zv := (1024 : Int32)) X7 hx hby hZ e8 B.a15 d18_10 rfl (by decide) ?_
  refine Go.iconst (pc' := 12) X7 hx hby d18_11 rfl (v := (1 : Int32)) (by decide) ?_
  refine Go.isub (pc' := 13) X7 hx hby d18_12 rfl ?_
  change Go p e below _ (T6.setTop (mkF m 13 #[.val (.ref q1), .val (.int (2 : Int32)), .val (.int (3 : Int32)), .unset, .unset] [(.int (1023 : Int32)), (.int (-835465565 : Int32))]))
  refine Go.iand (pc' := 14) X7 hx hby d18_13 rfl ?_
  change Go p e below _ (T6.setTop (mkF m 14 #[.val (.ref q1), .val (.int (2 : Int32)), .val (.int (3 : Int32)), .unset, .unset] [(.int (675 : Int32))]))
  refine Go.istoreN (Ls' := #[.val (.ref q1), .val (.int (2 : Int32)), .val (.int (3 : Int32)), .val (.int (675 : Int32)), .unset]) (pc' := 15) X7 hx hby d18_14 rfl rfl ?_
  refine Go.iconst (pc' := 16) X7 hx hby d18_15 rfl (v := (-1 : Int32)) (by decide) ?_
  refine Go.istore (Ls' := #[.val (.ref q1), .val (.int (2 : Int32)), .val (.int (3 : Int32)), .val (.int (675 : Int32)), .val (.int (-1 : Int32))]) (pc' := 18) X7 hx hby d18_16 rfl rfl ?_
  refine Go.aloadN (pc' := 19) X7 hx hby d18_18 rfl rfl rfl ?_
  refine Go.getF (pc' := 22) X7 hx hby hZ hown (hw _ (List.mem_of_getElem? (i := 35) rfl)) Via.refl e8 B.f15 d18_19 rfl ?_
  intro T9 X10 e11
  show Go p e below _ (T9.setTop (mkF m 22 #[.val (.ref q1), .val (.int (2 : Int32)), .val (.int (3 : Int32)), .val (.int (675 : Int32)), .val (.int (-1 : Int32))] [(.ref (d 15))]))
  refine Go.iloadN (pc' := 23) X10 hx hby d18_22 rfl rfl ?_
  refine Go.iaload (pc' := 24) (i := 675) (v := (.int (-1 : Int32))) X10 hx hby hZ e11 B.a15 d18_23 rfl (by decide) (by decide) (by decide) r_15_675 ?_
  refine Go.iloadN (pc' := 25) X10 hx hby d18_24 rfl rfl ?_
  refine Go.icmpY (pc' := 46) X10 hx hby d18_25 (by decide) (by decide) (show (-1 : Int32) ≠ (2 : Int32) from by decide) ?_
  refine Go.iload (pc' := 48) X10 hx hby d18_46 rfl rfl ?_
  exact Go.retI X10 hx hby hlk hret d18_48 (by decide) (by decide) ⟨rfl, (Fr.nil _), by rw [e11]; exact B⟩
set_option maxRecDepth 65536 in
set_option maxHeartbeats 40000000 in
theorem rx40 (l : Launch) (Z : State) (a0 : Array Value) (hw : ∀ d ∈ tables_1, d.before a0 Z = true) (x0 : Int32) (x1 : Int32) (x2 : Int32) (h0 : Heap) (e0_ : x0 = 1) (e1_ : x1 = 0) (e2_ : x2 = 3) :
    Con l Z (⟨"com/example/glacis/glacis/analysis/Bdd", "terminalCase", "(III)I"⟩ : MethodName) prog_2_method_13_code 4 (some .int) [] ({ frames := 0, cells := 0, slots := 0, locals := 0 } : Room) #[(.int x0), (.int x1), (.int x2)] h0 (PQ (some (.int (3 : Int32))) h0) := by
  refine Con.of (plainFor_of_name pn_Bdd) ?_
  intro p e s m below meth c s₁ hx hby hml hown hnm hret hlk hZ X0 e0
  refine Go.cast (ef_17 m x0 x1 x2) ?_
  replace hown : s.vm.findClass "com/example/glacis/glacis/analysis/Bdd" = some m.cls := hown
  subst e0_ e1_ e2_
  show Go p e below _ (s₁.setTop (mkF m 0 #[.val (.int (1 : Int32)), .val (.int (0 : Int32)), .val (.int (3 : Int32)), .unset] []))
  refine Go.iloadN (pc' := 1) X0 hx hby d17_0 rfl rfl ?_
  refine Go.iloadN (pc' := 2) X0 hx hby d17_1 rfl rfl ?_
  refine Go.icmpY (pc' := 10) X0 hx hby d17_2 (by decide) (by decide) (show (0 : Int32) ≠ (3 : Int32) from by decide) ?_
  refine Go.iloadN (pc' := 11) X0 hx hby d17_10 rfl rfl ?_
  refine Go.ifN (pc' := 14) X0 hx hby d17_11 rfl (show ¬ ((0 : Int32) ≠ 0) from by decide) ?_
  refine Go.iloadN (pc' := 15) X0 hx hby d17_14 rfl rfl ?_
  refine Go.ifY (pc' := 22) X0 hx hby d17_15 (by decide) (by decide) (show (1 : Int32) ≠ 0 from by decide) ?_
  refine Go.iloadN (pc' := 23) X0 hx hby d17_22 rfl rfl ?_
  refine Go.istoreN (Ls' := #[.val (.int (1 : Int32)), .val (.int (0 : Int32)), .val (.int (3 : Int32)), .val (.int (3 : Int32))]) (pc' := 24) X0 hx hby d17_23 rfl rfl ?_
  refine Go.goto (pc' := 47) X0 hx hby d17_24 (by decide) (by decide) ?_
  refine Go.iloadN (pc' := 48) X0 hx hby d17_47 rfl rfl ?_
  exact Go.retI X0 hx hby hlk hret d17_48 (by decide) (by decide) ⟨rfl, rfl, e0⟩
set_option maxRecDepth 65536 in
set_option maxHeartbeats 40000000 in
theorem rx41 (l : Launch) (Z : State) (a0 : Array Value) (hw : ∀ d ∈ tables_1, d.before a0 Z = true) (x0 : Int32) (x1 : Int32) (x2 : Int32) (h0 : Heap) (e0_ : x0 = 1) (e1_ : x1 = 1) (e2_ : x2 = 3) :
    Con l Z (⟨"com/example/glacis/glacis/analysis/Bdd", "terminalCase", "(III)I"⟩ : MethodName) prog_2_method_13_code 4 (some .int) [] ({ frames := 0, cells := 0, slots := 0, locals := 0 } : Room) #[(.int x0), (.int x1), (.int x2)] h0 (PQ (some (.int (1 : Int32))) h0) := by
  refine Con.of (plainFor_of_name pn_Bdd) ?_
  intro p e s m below meth c s₁ hx hby hml hown hnm hret hlk hZ X0 e0
  refine Go.cast (ef_17 m x0 x1 x2) ?_
  replace hown : s.vm.findClass "com/example/glacis/glacis/analysis/Bdd" = some m.cls := hown
  subst e0_ e1_ e2_
  show Go p e below _ (s₁.setTop (mkF m 0 #[.val (.int (1 : Int32)), .val (.int (1 : Int32)), .val (.int (3 : Int32)), .unset] []))
  refine Go.iloadN (pc' := 1) X0 hx hby d17_0 rfl rfl ?_
  refine Go.iloadN (pc' := 2) X0 hx hby d17_1 rfl rfl ?_
  refine Go.icmpY (pc' := 10) X0 hx hby d17_2 (by decide) (by decide) (show (1 : Int32) ≠ (3 : Int32) from by decide) ?_
  refine Go.iloadN (pc' := 11) X0 hx hby d17_10 rfl rfl ?_
  refine Go.ifY (pc' := 27) X0 hx hby d17_11 (by decide) (by decide) (show (1 : Int32) ≠ 0 from by decide) ?_
  refine Go.iloadN (pc' := 28) X0 hx hby d17_27 rfl rfl ?_
  refine Go.iconst (pc' := 29) X0 hx hby d17_28 rfl (v := (1 : Int32)) (by decide) ?_
  refine Go.icmpN (pc' := 32) X0 hx hby d17_29 rfl (show ¬ ((1 : Int32) ≠ (1 : Int32)) from by decide) ?_
  refine Go.iloadN (pc' := 33) X0 hx hby d17_32 rfl rfl ?_
  refine Go.ifY (pc' := 40) X0 hx hby d17_33 (by decide) (by decide) (show (1 : Int32) ≠ 0 from by decide) ?_
  refine Go.iconst (pc' := 41) X0 hx hby d17_40 rfl (v := (1 : Int32)) (by decide) ?_
  refine Go.istoreN (Ls' := #[.val (.int (1 : Int32)), .val (.int (1 : Int32)), .val (.int (3 : Int32)), .val (.int (1 : Int32))]) (pc' := 42) X0 hx hby d17_41 rfl rfl ?_
  refine Go.goto (pc' := 47) X0 hx hby d17_42 (by decide) (by decide) ?_
  refine Go.iloadN (pc' := 48) X0 hx hby d17_47 rfl rfl ?_
  exact Go.retI X0 hx hby hlk hret d17_48 (by decide) (by decide) ⟨rfl, rfl, e0⟩
set_option maxRecDepth 65536 in
set_option maxHeartbeats 40000000 in
theorem rx44 (l : Launch) (Z : State) (a0 : Array Value) (hw : ∀ d ∈ tables_1, d.before a0 Z = true) (x0 : Int32) (x1 : Int32) (x2 : Int32) (h0 : Heap) (e0_ : x0 = 0) (e1_ : x1 = 3) (e2_ : x2 = 1) :
    Con l Z (⟨"com/example/glacis/glacis/analysis/Bdd", "hash", "(III)I"⟩ : MethodName) prog_2_method_19_code 4 (some .int) [] ({ frames := 0, cells := 0, slots := 0, locals := 0 } : Room) #[(.int x0), (.int x1), (.int x2)] h0 (PQ (some (.int (1417061710 : Int32))) h0) := by
  refine Con.of (plainFor_of_name pn_Bdd) ?_
  intro p e s m below meth c s₁ hx hby hml hown hnm hret hlk hZ X0 e0
  refine Go.cast (ef_11 m x0 x1 x2) ?_
  replace hown : s.vm.findClass "com/example/glacis/glacis/analysis/Bdd" = some m.cls := hown
  subst e0_ e1_ e2_
  show Go p e below _ (s₁.setTop (mkF m 0 #[.val (.int (0 : Int32)), .val (.int (3 : Int32)), .val (.int (1 : Int32)), .unset] []))
  refine Go.iloadN (pc' := 1) X0 hx hby d11_0 rfl rfl ?_
  refine Go.ldcI (pc' := 3) X0 hx hby d11_1 rfl hown (mvT hZ (hw _ (List.mem_of_getElem? (i := 97) rfl))) ?_
  refine Go.imul (pc' := 4) X0 hx hby d11_3 rfl ?_
  refine Go.iloadN (pc' := 5) X0 hx hby d11_4 rfl rfl ?_
  refine Go.ldcI (pc' := 7) X0 hx hby d11_5 rfl hown (mvT hZ (hw _ (List.mem_of_getElem? (i := 98) rfl))) ?_
  refine Go.imul (pc' := 8) X0 hx hby d11_7 rfl ?_
  refine Go.iadd (pc' := 9) X0 hx hby d11_8 rfl ?_
  refine Go.iloadN (pc' := 10) X0 hx hby d11_9 rfl rfl ?_
  refine Go.ldcI (pc' := 12) X0 hx hby d11_10 rfl hown (mvT hZ (hw _ (List.mem_of_getElem? (i := 99) rfl))) ?_
  refine Go.imul (pc' := 13) X0 hx hby d11_12 rfl ?_
  refine Go.iadd (pc' := 14) X0 hx hby d11_13 rfl ?_
  refine Go.istoreN (Ls' := #[.val (.int (0 : Int32)), .val (.int (3 : Int32)), .val (.int (1 : Int32)), .val (.int ((((0 : Int32) * (-1640531535 : Int32)) + ((3 : Int32) * (-2048144777 : Int32))) + ((1 : Int32) * (-1028477379 : Int32))))]) (pc' := 15) X0 hx hby d11_14 rfl rfl ?_
  refine Go.iloadN (pc' := 16) X0 hx hby d11_15 rfl rfl ?_
  refine Go.iloadN (pc' := 17) X0 hx hby d11_16 rfl rfl ?_
  refine Go.bipush (pc' := 19) X0 hx hby d11_17 rfl (v := (15 : Int32)) (by decide) ?_
  refine Go.iushr (pc' := 20) X0 hx hby d11_19 rfl ?_
  refine Go.ixor (pc' := 21) X0 hx hby d11_20 rfl ?_
  exact Go.retI X0 hx hby hlk hret d11_21 (by decide) (by decide) ⟨by rw [show (((((0 : Int32) * (-1640531535 : Int32)) + ((3 : Int32) * (-2048144777 : Int32))) + ((1 : Int32) * (-1028477379 : Int32))) ^^^ ((((((0 : Int32) * (-1640531535 : Int32)) + ((3 : Int32) * (-2048144777 : Int32))) + ((1 : Int32) * (-1028477379 : Int32))).toUInt32 >>> ((15 : Int32) &&& 31).toUInt32).toInt32)) = (1417061710 : Int32) from by decide +kernel], rfl, e0⟩
set_option maxRecDepth 65536 in
set_option maxHeartbeats 40000000 in
theorem rx43 (l : Launch) (Z : State) (a0 : Array Value) (hw : ∀ d ∈ tables_1, d.before a0 Z = true) (a : Addr) (x0 : Int32) (x1 : Int32) (x2 : Int32) (h0 : Heap) (n0 : Nat) (q0 q1 : Addr) (d : Nat → Addr) (sz vr : Int32) (f : Nat → Int → Value) (e0_ : x0 = 0) (e1_ : x1 = 3) (e2_ : x2 = 1) (B : OwnB Z h0 n0 a q0 q1 d sz vr f) (r_4_334 : f 4 334 = (.int (-1 : Int32))) :
    Con l Z (⟨"com/example/glacis/glacis/analysis/Bdd", "find", "(III)I"⟩ : MethodName) prog_2_method_16_code 6 (some .int) [] ({ frames := 1, cells := 0, slots := 0, locals := 15 } : Room) #[(.ref a), (.int x0), (.int x1), (.int x2)] h0 (fun v h L => v = some (.int (-1 : Int32)) ∧ Fr n0 L ∧ OwnB Z h n0 a q0 q1 d sz vr f) := by
  refine Con.of (plainFor_of_name pn_Bdd) ?_
  intro p e s m below meth c s₁ hx hby hml hown hnm hret hlk hZ X0 e0
  refine Go.cast (ef_10 m a x0 x1 x2) ?_
  replace hown : s.vm.findClass "com/example/glacis/glacis/analysis/Bdd" = some m.cls := hown
  subst e0_ e1_ e2_
  show Go p e below _ (s₁.setTop (mkF m 0 #[.val (.ref a), .val (.int (0 : Int32)), .val (.int (3 : Int32)), .val (.int (1 : Int32)), .unset, .unset] []))
  refine Go.iloadN (pc' := 1) X0 hx hby d10_0 rfl rfl ?_
  refine Go.iloadN (pc' := 2) X0 hx hby d10_1 rfl rfl ?_
  refine Go.iloadN (pc' := 3) X0 hx hby d10_2 rfl rfl ?_
  refine Go.callS (pc' := 6) (W := 0) (argsL := [(.int (0 : Int32)), (.int (3 : Int32)), (.int (1 : Int32))]) (rest := []) X0 hx hby hZ hown (hw _ (List.mem_of_getElem? (i := 94) rfl)) (hw _ (List.mem_of_getElem? (i := 95) rfl)) (hw _ (List.mem_of_getElem? (i := 4) rfl)) (hw _ (List.mem_of_getElem? (i := 96) rfl)) (by decide) (rx44 l Z a0 hw  (0 : Int32) (3 : Int32) (1 : Int32) h0 rfl rfl rfl) e0 (by decide) (by decide) (by rw [hml]; rfl) pd_8 rfl rfl rfl (Nat.le_of_eq rfl) d10_3 rfl (by decide) (by decide) ?_
  rintro r2 T3 L4 X5 ⟨rfl, rfl, e1⟩
  rw [List.append_nil] at X5
  show Go p e below _ (T3.setTop (mkF m 6 #[.val (.ref a), .val (.int (0 : Int32)), .val (.int (3 : Int32)), .val (.int (1 : Int32)), .unset, .unset] [(.int (1417061710 : Int32))]))
  refine Go.aloadN (pc' := 7) X5 hx hby d10_6 rfl rfl rfl ?_
  refine Go.getF (pc' := 10) X5 hx hby hZ hown (hw _ (List.mem_of_getElem? (i := 20) rfl)) Via.refl e1 B.f4 d10_7 rfl ?_
  intro T6 X7 e8
  show Go p e below _ (T6.setTop (mkF m 10 #[.val (.ref a), .val (.int (0 : Int32)), .val (.int (3 : Int32)), .val (.int (1 : Int32)), .unset, .unset] [(.ref (d 4)), (.int (1417061710 : Int32))]))
  refine Go.alen (pc' := 11) (zv := (1024 : Int32)) X7 hx hby hZ e8 B.a4 d10_10 rfl (by decide) ?_
  refine Go.iconst (pc' := 12) X7 hx hby d10_11 rfl (v := (1 : Int32)) (by decide) ?_
  refine Go.isub (pc' := 13) X7 hx hby d10_12 rfl ?_
  change Go p e below _ (T6.setTop (mkF m 13 #[.val (.ref a), .val (.int (0 : Int32)), .val (.int (3 : Int32)), .val (.int (1 : Int32)), .unset, .unset] [(.int (1023 : Int32)), (.int (1417061710 : Int32))]))
  refine Go.iand (pc' := 14) X7 hx hby d10_13 rfl ?_
  change Go p e below _ (T6.setTop (mkF m 14 #[.val (.ref a), .val (.int (0 : Int32)), .val (.int (3 : Int32)), .val (.int (1 : Int32)), .unset, .unset] [(.int (334 : Int32))]))
  refine Go.istore (Ls' := #[.val (.ref a), .val (.int (0 : Int32)), .val (.int (3 : Int32)), .val (.int (1 : Int32)), .val (.int (334 : Int32)), .unset]) (pc' := 16) X7 hx hby d10_14 rfl rfl ?_
  refine Go.aloadN (pc' := 17) X7 hx hby d10_16 rfl rfl rfl ?_
  refine Go.getF (pc' := 20) X7 hx hby hZ hown (hw _ (List.mem_of_getElem? (i := 20) rfl)) Via.refl e8 B.f4 d10_17 rfl ?_
  intro T9 X10 e11
  show Go p e below _ (T9.setTop (mkF m 20 #[.val (.ref a), .val (.int (0 : Int32)), .val (.int (3 : Int32)), .val (.int (1 : Int32)), .val (.int (334 : Int32)), .unset] [(.ref (d 4))]))
  refine Go.iload (pc' := 22) X10 hx hby d10_20 rfl rfl ?_
  refine Go.iaload (pc' := 23) (i := 334) (v := (.int (-1 : Int32))) X10 hx hby hZ e11 B.a4 d10_22 rfl (by decide) (by decide) (by decide) r_4_334 ?_
  refine Go.istore (Ls' := #[.val (.ref a), .val (.int (0 : Int32)), .val (.int (3 : Int32)), .val (.int (1 : Int32)), .val (.int (334 : Int32)), .val (.int (-1 : Int32))]) (pc' := 25) X10 hx hby d10_23 rfl rfl ?_
  refine Go.iload (pc' := 27) X10 hx hby d10_25 rfl rfl ?_
  refine Go.iconst (pc' := 28) X10 hx hby d10_27 rfl (v := (-1 : Int32)) (by decide) ?_
  refine Go.icmpY (pc' := 79) X10 hx hby d10_28 (by decide) (by decide) (show (-1 : Int32) = (-1 : Int32) from by decide) ?_
  refine Go.iconst (pc' := 80) X10 hx hby d10_79 rfl (v := (-1 : Int32)) (by decide) ?_
  exact Go.retI X10 hx hby hlk hret d10_80 (by decide) (by decide) ⟨rfl, (Fr.nil _), by rw [e11]; exact B⟩
set_option maxRecDepth 65536 in
set_option maxHeartbeats 40000000 in
theorem rx42 (l : Launch) (Z : State) (a0 : Array Value) (hw : ∀ d ∈ tables_1, d.before a0 Z = true) (a : Addr) (x0 : Int32) (x1 : Int32) (x2 : Int32) (h0 : Heap) (n0 : Nat) (q0 q1 : Addr) (d : Nat → Addr) (sz vr : Int32) (f : Nat → Int → Value) (e0_ : x0 = 0) (e1_ : x1 = 3) (e2_ : x2 = 1) (B : OwnB Z h0 n0 a q0 q1 d sz vr f) (hsz : sz = 5) (r_4_334 : f 4 334 = (.int (-1 : Int32))) :
    Con l Z (⟨"com/example/glacis/glacis/analysis/Bdd", "node", "(III)I"⟩ : MethodName) prog_2_method_15_code 6 (some .int) [] ({ frames := 2, cells := 0, slots := 0, locals := 32 } : Room) #[(.ref a), (.int x0), (.int x1), (.int x2)] h0 (fun v h L => v = some (.int (5 : Int32)) ∧ Fr n0 L ∧ OwnB Z h n0 a q0 q1 d (6 : Int32) vr (own_up (own_up (own_up (own_up (own_up f 0 5 (.int (0 : Int32))) 1 5 (.int (3 : Int32))) 2 5 (.int (1 : Int32))) 3 5 (.int (-1 : Int32))) 4 334 (.int (5 : Int32)))) := by
  refine Con.of (plainFor_of_name pn_Bdd) ?_
  intro p e s m below meth c s₁ hx hby hml hown hnm hret hlk hZ X0 e0
  refine Go.cast (ef_9 m a x0 x1 x2) ?_
  replace hown : s.vm.findClass "com/example/glacis/glacis/analysis/Bdd" = some m.cls := hown
  subst e0_ e1_ e2_ hsz
  show Go p e below _ (s₁.setTop (mkF m 0 #[.val (.ref a), .val (.int (0 : Int32)), .val (.int (3 : Int32)), .val (.int (1 : Int32)), .unset, .unset] []))
  refine Go.iloadN (pc' := 1) X0 hx hby d9_0 rfl rfl ?_
  refine Go.istore (Ls' := #[.val (.ref a), .val (.int (0 : Int32)), .val (.int (3 : Int32)), .val (.int (1 : Int32)), .val (.int (3 : Int32)), .unset]) (pc' := 3) X0 hx hby d9_1 rfl rfl ?_
  refine Go.iloadN (pc' := 4) X0 hx hby d9_3 rfl rfl ?_
  refine Go.iloadN (pc' := 5) X0 hx hby d9_4 rfl rfl ?_
  refine Go.icmpN (pc' := 8) X0 hx hby d9_5 rfl (show ¬ ((3 : Int32) = (1 : Int32)) from by decide) ?_
  refine Go.aloadN (pc' := 9) X0 hx hby d9_8 rfl rfl rfl ?_
  refine Go.iloadN (pc' := 10) X0 hx hby d9_9 rfl rfl ?_
  refine Go.iloadN (pc' := 11) X0 hx hby d9_10 rfl rfl ?_
  refine Go.iloadN (pc' := 12) X0 hx hby d9_11 rfl rfl ?_
  refine Go.callP (C := "com/example/glacis/glacis/analysis/Bdd") (pc' := 15) (a := a) (W := 0) (argsL := [(.int (0 : Int32)), (.int (3 : Int32)), (.int (1 : Int32))]) (rest := []) X0 hx hby hZ hown (hw _ (List.mem_of_getElem? (i := 90) rfl)) (hw _ (List.mem_of_getElem? (i := 91) rfl)) (own_sel (w := (⟨"com/example/glacis/glacis/analysis/Bdd", "test", "(I)I"⟩ : MethodName)) (y := (⟨"com/example/glacis/glacis/analysis/Bdd", "find", "(III)I"⟩ : MethodName)) (hw _ (List.mem_of_getElem? (i := 84) rfl)) rfl (hw _ (List.mem_of_getElem? (i := 92) rfl)) (hw _ (List.mem_of_getElem? (i := 91) rfl)) (by decide)) (hw _ (List.mem_of_getElem? (i := 92) rfl)) (hw _ (List.mem_of_getElem? (i := 4) rfl)) (hw _ (List.mem_of_getElem? (i := 93) rfl)) (by decide) (rx43 l Z a0 hw a (0 : Int32) (3 : Int32) (1 : Int32) h0 n0 q0 q1 d (5 : Int32) vr f rfl rfl rfl B r_4_334) e0 B.2.2.2.2.1 (by decide) (by decide) (by rw [hml]; rfl) pd_8 rfl rfl rfl (Nat.le_of_eq rfl) d9_12 rfl (by decide) (by decide) ?_
  rintro r3 T4 L5 X6 ⟨rfl, N1, B2⟩
  show Go p e below _ (T4.setTop (mkF m 15 #[.val (.ref a), .val (.int (0 : Int32)), .val (.int (3 : Int32)), .val (.int (1 : Int32)), .val (.int (3 : Int32)), .unset] [(.int (-1 : Int32))]))
  refine Go.istore (Ls' := #[.val (.ref a), .val (.int (0 : Int32)), .val (.int (3 : Int32)), .val (.int (1 : Int32)), .val (.int (-1 : Int32)), .unset]) (pc' := 17) X6 hx hby d9_15 rfl rfl ?_
  refine Go.iload (pc' := 19) X6 hx hby d9_17 rfl rfl ?_
  refine Go.iconst (pc' := 20) X6 hx hby d9_19 rfl (v := (-1 : Int32)) (by decide) ?_
  refine Go.icmpN (pc' := 23) X6 hx hby d9_20 rfl (show ¬ ((-1 : Int32) ≠ (-1 : Int32)) from by decide) ?_
  refine Go.aloadN (pc' := 24) X6 hx hby d9_23 rfl rfl rfl ?_
  refine Go.getF (pc' := 27) X6 hx hby hZ hown (hw _ (List.mem_of_getElem? (i := 22) rfl)) Via.refl rfl B2.2.2.2.2.2.2.2.2.1 d9_24 rfl ?_
  intro T7 X8 e9
  show Go p e below _ (T7.setTop (mkF m 27 #[.val (.ref a), .val (.int (0 : Int32)), .val (.int (3 : Int32)), .val (.int (1 : Int32)), .val (.int (-1 : Int32)), .unset] [(.int (5 : Int32))]))
  refine Go.aloadN (pc' := 28) X8 hx hby d9_27 rfl rfl rfl ?_
  refine Go.getF (pc' := 31) X8 hx hby hZ hown (hw _ (List.mem_of_getElem? (i := 12) rfl)) Via.refl e9 B2.f0 d9_28 rfl ?_
  intro T10 X11 e12
  show Go p e below _ (T10.setTop (mkF m 31 #[.val (.ref a), .val (.int (0 : Int32)), .val (.int (3 : Int32)), .val (.int (1 : Int32)), .val (.int (-1 : Int32)), .unset] [(.ref (d 0)), (.int (5 : Int32))]))
  refine Go.alen (pc' := 32) (zv := (1024 : Int32)) X11 hx hby hZ e12 B2.a0 d9_31 rfl (by decide) ?_
  refine Go.icmpY (pc' := 39) X11 hx hby d9_32 (by decide) (by decide) (show (5 : Int32) ≠ (1024 : Int32) from by decide) ?_
  refine Go.aloadN (pc' := 40) X11 hx hby d9_39 rfl rfl rfl ?_
  refine Go.getF (pc' := 43) X11 hx hby hZ hown (hw _ (List.mem_of_getElem? (i := 22) rfl)) Via.refl e12 B2.2.2.2.2.2.2.2.2.1 d9_40 rfl ?_
  intro T13 X14 e15
  show Go p e below _ (T13.setTop (mkF m 43 #[.val (.ref a), .val (.int (0 : Int32)), .val (.int (3 : Int32)), .val (.int (1 : Int32)), .val (.int (-1 : Int32)), .unset] [(.int (5 : Int32))]))
  refine Go.istore (Ls' := #[.val (.ref a), .val (.int (0 : Int32)), .val (.int (3 : Int32)), .val (.int (1 : Int32)), .val (.int (5 : Int32)), .unset]) (pc' := 45) X14 hx hby d9_43 rfl rfl ?_
  refine Go.aloadN (pc' := 46) X14 hx hby d9_45 rfl rfl rfl ?_
  refine Go.dup (pc' := 47) X14 hx hby d9_46 rfl rfl ?_
  refine Go.getF (pc' := 50) X14 hx hby hZ hown (hw _ (List.mem_of_getElem? (i := 22) rfl)) Via.refl e15 B2.2.2.2.2.2.2.2.2.1 d9_47 rfl ?_
  intro T16 X17 e18
  show Go p e below _ (T16.setTop (mkF m 50 #[.val (.ref a), .val (.int (0 : Int32)), .val (.int (3 : Int32)), .val (.int (1 : Int32)), .val (.int (5 : Int32)), .unset] [(.int (5 : Int32)), (.ref a)]))
  refine Go.iconst (pc' := 51) X17 hx hby d9_50 rfl (v := (1 : Int32)) (by decide) ?_
  refine Go.iadd (pc' := 52) X17 hx hby d9_51 rfl ?_
  change Go p e below _ (T16.setTop (mkF m 52 #[.val (.ref a), .val (.int (0 : Int32)), .val (.int (3 : Int32)), .val (.int (1 : Int32)), .val (.int (5 : Int32)), .unset] [(.int (6 : Int32)), (.ref a)]))
  refine Go.putF (pc' := 55) (ty := .int) X17 hx hby hZ hown (hw _ (List.mem_of_getElem? (i := 22) rfl)) Via.refl e18 B2.2.2.2.2.2.2.2.2.1 B2.2.2.2.2.1 (Or.inl (hw _ (List.mem_of_getElem? (i := 23) rfl))) (hw _ (List.mem_of_getElem? (i := 3) rfl)) (by decide) rfl rfl d9_52 rfl ?_
  intro T19 h20 X21 e22 W23
  have z24 : n0 ≤ h20.size := by rw [Wr.size W23]; exact (Nat.le_trans B2.2.2.2.1 (Nat.le_of_lt B2.2.2.2.2.1.lt))
  have f25 : Fld Z h20 a "com/example/glacis/glacis/analysis/Bdd" "size" "I" (.int (6 : Int32)) := Fld.same W23 B2.2.2.2.2.2.2.2.2.1
  have N26 : Fr n0 _ := Fr.snoc X21 (Fr.app (Fr.nil _) N1) B2.2.2.2.1
  show Go p e below _ (T19.setTop (mkF m 55 #[.val (.ref a), .val (.int (0 : Int32)), .val (.int (3 : Int32)), .val (.int (1 : Int32)), .val (.int (5 : Int32)), .unset] []))
  have B27 : OwnB Z h20 n0 a q0 q1 d (6 : Int32) vr f := B2.set_size hw W23
  refine Go.aloadN (pc' := 56) X21 hx hby d9_55 rfl rfl rfl ?_
  refine Go.getF (pc' := 59) X21 hx hby hZ hown (hw _ (List.mem_of_getElem? (i := 12) rfl)) Via.refl e22 B27.f0 d9_56 rfl ?_
  intro T28 X29 e30
  show Go p e below _ (T28.setTop (mkF m 59 #[.val (.ref a), .val (.int (0 : Int32)), .val (.int (3 : Int32)), .val (.int (1 : Int32)), .val (.int (5 : Int32)), .unset] [(.ref (d 0))]))
  refine Go.iload (pc' := 61) X29 hx hby d9_59 rfl rfl ?_
  refine Go.iloadN (pc' := 62) X29 hx hby d9_61 rfl rfl ?_
  refine Go.iastore (pc' := 63) (i := 5) X29 hx hby hZ e30 B27.a0 d9_62 rfl (by decide) (by decide) (by decide) ?_
  intro T31 h32 X33 e34 W35 A36
  have N38 : Fr n0 _ := Fr.snoc X33 N26 (B27.2.1 0 (by decide))
  have B37 : OwnB Z h32 n0 a q0 q1 d (6 : Int32) vr (own_up f 0 5 (.int (0 : Int32))) := B27.st hw (k := 0) (by decide) W35 A36
  show Go p e below _ (T31.setTop (mkF m 63 #[.val (.ref a), .val (.int (0 : Int32)), .val (.int (3 : Int32)), .val (.int (1 : Int32)), .val (.int (5 : Int32)), .unset] []))
  refine Go.aloadN (pc' := 64) X33 hx hby d9_63 rfl rfl rfl ?_
  refine Go.getF (pc' := 67) X33 hx hby hZ hown (hw _ (List.mem_of_getElem? (i := 14) rfl)) Via.refl e34 B37.f1 d9_64 rfl ?_
  intro T39 X40 e41
  show Go p e below _ (T39.setTop (mkF m 67 #[.val (.ref a), .val (.int (0 : Int32)), .val (.int (3 : Int32)), .val (.int (1 : Int32)), .val (.int (5 : Int32)), .unset] [(.ref (d 1))]))
  refine Go.iload (pc' := 69) X40 hx hby d9_67 rfl rfl ?_
  refine Go.iloadN (pc' := 70) X40 hx hby d9_69 rfl rfl ?_
  refine Go.iastore (pc' := 71) (i := 5) X40 hx hby hZ e41 B37.a1 d9_70 rfl (by decide) (by decide) (by decide) ?_
  intro T42 h43 X44 e45 W46 A47
  have N49 : Fr n0 _ := Fr.snoc X44 N38 (B37.2.1 1 (by decide))
  have B48 : OwnB Z h43 n0 a q0 q1 d (6 : Int32) vr (own_up (own_up f 0 5 (.int (0 : Int32))) 1 5 (.int (3 : Int32))) := B37.st hw (k := 1) (by decide) W46 A47
  show Go p e below _ (T42.setTop (mkF m 71 #[.val (.ref a), .val (.int (0 : Int32)), .val (.int (3 : Int32)), .val (.int (1 : Int32)), .val (.int (5 : Int32)), .unset] []))
  refine Go.aloadN (pc' := 72) X44 hx hby d9_71 rfl rfl rfl ?_
  refine Go.getF (pc' := 75) X44 hx hby hZ hown (hw _ (List.mem_of_getElem? (i := 16) rfl)) Via.refl e45 B48.f2 d9_72 rfl ?_
  intro T50 X51 e52
  show Go p e below _ (T50.setTop (mkF m 75 #[.val (.ref a), .val (.int (0 : Int32)), .val (.int (3 : Int32)), .val (.int (1 : Int32)), .val (.int (5 : Int32)), .unset] [(.ref (d 2))]))
  refine Go.iload (pc' := 77) X51 hx hby d9_75 rfl rfl ?_
  refine Go.iloadN (pc' := 78) X51 hx hby d9_77 rfl rfl ?_
  refine Go.iastore (pc' := 79) (i := 5) X51 hx hby hZ e52 B48.a2 d9_78 rfl (by decide) (by decide) (by decide) ?_
  intro T53 h54 X55 e56 W57 A58
  have N60 : Fr n0 _ := Fr.snoc X55 N49 (B48.2.1 2 (by decide))
  have B59 : OwnB Z h54 n0 a q0 q1 d (6 : Int32) vr (own_up (own_up (own_up f 0 5 (.int (0 : Int32))) 1 5 (.int (3 : Int32))) 2 5 (.int (1 : Int32))) := B48.st hw (k := 2) (by decide) W57 A58
  show Go p e below _ (T53.setTop (mkF m 79 #[.val (.ref a), .val (.int (0 : Int32)), .val (.int (3 : Int32)), .val (.int (1 : Int32)), .val (.int (5 : Int32)), .unset] []))
  refine Go.iloadN (pc' := 80) X55 hx hby d9_79 rfl rfl ?_
  refine Go.iloadN (pc' := 81) X55 hx hby d9_80 rfl rfl ?_
  refine Go.iloadN (pc' := 82) X55 hx hby d9_81 rfl rfl ?_
  refine Go.callS (pc' := 85) (W := 0) (argsL := [(.int (0 : Int32)), (.int (3 : Int32)), (.int (1 : Int32))]) (rest := []) X55 hx hby hZ hown (hw _ (List.mem_of_getElem? (i := 94) rfl)) (hw _ (List.mem_of_getElem? (i := 95) rfl)) (hw _ (List.mem_of_getElem? (i := 4) rfl)) (hw _ (List.mem_of_getElem? (i := 96) rfl)) (by decide) (rx44 l Z a0 hw  (0 : Int32) (3 : Int32) (1 : Int32) h54 rfl rfl rfl) e56 (by decide) (by decide) (by rw [hml]; rfl) pd_8 rfl rfl rfl (Nat.le_of_eq rfl) d9_82 rfl (by decide) (by decide) ?_
  rintro r62 T63 L64 X65 ⟨rfl, rfl, e61⟩
  rw [List.append_nil] at X65
  show Go p e below _ (T63.setTop (mkF m 85 #[.val (.ref a), .val (.int (0 : Int32)), .val (.int (3 : Int32)), .val (.int (1 : Int32)), .val (.int (5 : Int32)), .unset] [(.int (1417061710 : Int32))]))
  refine Go.aloadN (pc' := 86) X65 hx hby d9_85 rfl rfl rfl ?_
  refine Go.getF (pc' := 89) X65 hx hby hZ hown (hw _ (List.mem_of_getElem? (i := 20) rfl)) Via.refl e61 B59.f4 d9_86 rfl ?_
  intro T66 X67 e68
  show Go p e below _ (T66.setTop (mkF m 89 #[.val (.ref a), .val (.int (0 : Int32)), .val (.int (3 : Int32)), .val (.int (1 : Int32)), .val (.int (5 : Int32)), .unset] [(.ref (d 4)), (.int (1417061710 : Int32))]))
  refine Go.alen (pc' := 90) (zv := (1024 : Int32)) X67 hx hby hZ e68 B59.a4 d9_89 rfl (by decide) ?_
  refine Go.iconst (pc' := 91) X67 hx hby d9_90 rfl (v := (1 : Int32)) (by decide) ?_
  refine Go.isub (pc' := 92) X67 hx hby d9_91 rfl ?_
  change Go p e below _ (T66.setTop (mkF m 92 #[.val (.ref a), .val (.int (0 : Int32)), .val (.int (3 : Int32)), .val (.int (1 : Int32)), .val (.int (5 : Int32)), .unset] [(.int (1023 : Int32)), (.int (1417061710 : Int32))]))
  refine Go.iand (pc' := 93) X67 hx hby d9_92 rfl ?_
  change Go p e below _ (T66.setTop (mkF m 93 #[.val (.ref a), .val (.int (0 : Int32)), .val (.int (3 : Int32)), .val (.int (1 : Int32)), .val (.int (5 : Int32)), .unset] [(.int (334 : Int32))]))
  refine Go.istore (Ls' := #[.val (.ref a), .val (.int (0 : Int32)), .val (.int (3 : Int32)), .val (.int (1 : Int32)), .val (.int (5 : Int32)), .val (.int (334 : Int32))]) (pc' := 95) X67 hx hby d9_93 rfl rfl ?_
  refine Go.aloadN (pc' := 96) X67 hx hby d9_95 rfl rfl rfl ?_
  refine Go.getF (pc' := 99) X67 hx hby hZ hown (hw _ (List.mem_of_getElem? (i := 18) rfl)) Via.refl e68 B59.f3 d9_96 rfl ?_
  intro T69 X70 e71
  show Go p e below _ (T69.setTop (mkF m 99 #[.val (.ref a), .val (.int (0 : Int32)), .val (.int (3 : Int32)), .val (.int (1 : Int32)), .val (.int (5 : Int32)), .val (.int (334 : Int32))] [(.ref (d 3))]))
  refine Go.iload (pc' := 101) X70 hx hby d9_99 rfl rfl ?_
  refine Go.aloadN (pc' := 102) X70 hx hby d9_101 rfl rfl rfl ?_
  refine Go.getF (pc' := 105) X70 hx hby hZ hown (hw _ (List.mem_of_getElem? (i := 20) rfl)) Via.refl e71 B59.f4 d9_102 rfl ?_
  intro T72 X73 e74
  show Go p e below _ (T72.setTop (mkF m 105 #[.val (.ref a), .val (.int (0 : Int32)), .val (.int (3 : Int32)), .val (.int (1 : Int32)), .val (.int (5 : Int32)), .val (.int (334 : Int32))] [(.ref (d 4)), (.int (5 : Int32)), (.ref (d 3))]))
  refine Go.iload (pc' := 107) X73 hx hby d9_105 rfl rfl ?_
  refine Go.iaload (pc' := 108) (i := 334) (v := (.int (-1 : Int32))) X73 hx hby hZ e74 B59.a4 d9_107 rfl (by decide) (by decide) (by decide) r_4_334 ?_
  refine Go.iastore (pc' := 109) (i := 5) X73 hx hby hZ e74 B59.a3 d9_108 rfl (by decide) (by decide) (by decide) ?_
  intro T75 h76 X77 e78 W79 A80
  have N82 : Fr n0 _ := Fr.snoc X77 N60 (B59.2.1 3 (by decide))
  have B81 : OwnB Z h76 n0 a q0 q1 d (6 : Int32) vr (own_up (own_up (own_up (own_up f 0 5 (.int (0 : Int32))) 1 5 (.int (3 : Int32))) 2 5 (.int (1 : Int32))) 3 5 (.int (-1 : Int32))) := B59.st hw (k := 3) (by decide) W79 A80
  show Go p e below _ (T75.setTop (mkF m 109 #[.val (.ref a), .val (.int (0 : Int32)), .val (.int (3 : Int32)), .val (.int (1 : Int32)), .val (.int (5 : Int32)), .val (.int (334 : Int32))] []))
  refine Go.aloadN (pc' := 110) X77 hx hby d9_109 rfl rfl rfl ?_
  refine Go.getF (pc' := 113) X77 hx hby hZ hown (hw _ (List.mem_of_getElem? (i := 20) rfl)) Via.refl e78 B81.f4 d9_110 rfl ?_
  intro T83 X84 e85
  show Go p e below _ (T83.setTop (mkF m 113 #[.val (.ref a), .val (.int (0 : Int32)), .val (.int (3 : Int32)), .val (.int (1 : Int32)), .val (.int (5 : Int32)), .val (.int (334 : Int32))] [(.ref (d 4))]))
  refine Go.iload (pc' := 115) X84 hx hby d9_113 rfl rfl ?_
  refine Go.iload (pc' := 117) X84 hx hby d9_115 rfl rfl ?_
  refine Go.iastore (pc' := 118) (i := 334) X84 hx hby hZ e85 B81.a4 d9_117 rfl (by decide) (by decide) (by decide) ?_
  intro T86 h87 X88 e89 W90 A91
  have N93 : Fr n0 _ := Fr.snoc X88 N82 (B81.2.1 4 (by decide))
  have B92 : OwnB Z h87 n0 a q0 q1 d (6 : Int32) vr (own_up (own_up (own_up (own_up (own_up f 0 5 (.int (0 : Int32))) 1 5 (.int (3 : Int32))) 2 5 (.int (1 : Int32))) 3 5 (.int (-1 : Int32))) 4 334 (.int (5 : Int32))) := B81.st hw (k := 4) (by decide) W90 A91
  show Go p e below _ (T86.setTop (mkF m 118 #[.val (.ref a), .val (.int (0 : Int32)), .val (.int (3 : Int32)), .val (.int (1 : Int32)), .val (.int (5 : Int32)), .val (.int (334 : Int32))] []))
  refine Go.iload (pc' := 120) X88 hx hby d9_118 rfl rfl ?_
  exact Go.retI X88 hx hby hlk hret d9_120 (by decide) (by decide) ⟨rfl, N93, by rw [e89]; exact B92⟩
set_option maxRecDepth 65536 in
set_option maxHeartbeats 40000000 in
theorem rx45 (l : Launch) (Z : State) (a0 : Array Value) (hw : ∀ d ∈ tables_1, d.before a0 Z = true) (q1 : Addr) (x0 : Int32) (x1 : Int32) (x2 : Int32) (h0 : Heap) (n0 : Nat) (a q0 : Addr) (d : Nat → Addr) (sz vr : Int32) (f : Nat → Int → Value) (e0_ : x0 = 2) (e1_ : x1 = 3) (e2_ : x2 = 5) (B : OwnB Z h0 n0 a q0 q1 d sz vr f) :
    Con l Z (⟨"com/example/glacis/glacis/analysis/Bdd$Computed", "put", "(III)V"⟩ : MethodName) prog_3_method_3_code 5 none [] ({ frames := 1, cells := 0, slots := 0, locals := 15 } : Room) #[(.ref q1), (.int x0), (.int x1), (.int x2)] h0 (fun v h L => v = none ∧ Fr n0 L ∧ OwnB Z h n0 a q0 q1 d sz vr (own_up (own_up (own_up f 15 675 (.int (2 : Int32))) 16 675 (.int (3 : Int32))) 17 675 (.int (5 : Int32)))) := by
  refine Con.of (plainFor_of_name pn_Bdd_Computed) ?_
  intro p e s m below meth c s₁ hx hby hml hown hnm hret hlk hZ X0 e0
  refine Go.cast (ef_20 m q1 x0 x1 x2) ?_
  replace hown : s.vm.findClass "com/example/glacis/glacis/analysis/Bdd$Computed" = some m.cls := hown
  subst e0_ e1_ e2_
  show Go p e below _ (s₁.setTop (mkF m 0 #[.val (.ref q1), .val (.int (2 : Int32)), .val (.int (3 : Int32)), .val (.int (5 : Int32)), .unset] []))
  refine Go.iloadN (pc' := 1) X0 hx hby d20_0 rfl rfl ?_
  refine Go.iloadN (pc' := 2) X0 hx hby d20_1 rfl rfl ?_
  refine Go.iconst (pc' := 3) X0 hx hby d20_2 rfl (v := (0 : Int32)) (by decide) ?_
  refine Go.callSNest (pc' := 6) (W := 0) (argsL := [(.int (2 : Int32)), (.int (3 : Int32)), (.int (0 : Int32))]) (rest := []) X0 hx hby hZ hown (hw _ (List.mem_of_getElem? (i := 128) rfl)) (hw _ (List.mem_of_getElem? (i := 95) rfl)) (hw _ (List.mem_of_getElem? (i := 4) rfl)) (hw _ (List.mem_of_getElem? (i := 96) rfl)) (by decide) (rx18 l Z a0 hw  (2 : Int32) (3 : Int32) (0 : Int32) h0 rfl rfl rfl) e0 (by decide) (by decide) (by rw [hml]; rfl) pd_8 rfl rfl rfl (Nat.le_of_eq rfl) d20_3 rfl (by decide) (by decide) ?_
  rintro r2 T3 L4 X5 ⟨rfl, rfl, e1⟩
  rw [List.append_nil] at X5
  show Go p e below _ (T3.setTop (mkF m 6 #[.val (.ref q1), .val (.int (2 : Int32)), .val (.int (3 : Int32)), .val (.int (5 : Int32)), .unset] [(.int (-835465565 : Int32))]))
  refine Go.aloadN (pc' := 7) X5 hx hby d20_6 rfl rfl rfl ?_
  refine Go.getF (pc' := 10) X5 hx hby hZ hown (hw _ (List.mem_of_getElem? (i := 35) rfl)) Via.refl e1 B.f15 d20_7 rfl ?_
  intro T6 X7 e8
  show Go p e below _ (T6.setTop (mkF m 10 #[.val (.ref q1), .val (.int (2 : Int32)), .val (.int (3 : Int32)), .val (.int (5 : Int32)), .unset] [(.ref (d 15)), (.int (-835465565 : Int32))]))
  refine Go.alen (pc' := 11) (zv := (1024 : Int32)) X7 hx hby hZ e8 B.a15 d20_10 rfl (by decide) ?_
  refine Go.iconst (pc' := 12) X7 hx hby d20_11 rfl (v := (1 : Int32)) (by decide) ?_
  refine Go.isub (pc' := 13) X7 hx hby d20_12 rfl ?_
  change Go p e below _ (T6.setTop (mkF m 13 #[.val (.ref q1), .val (.int (2 : Int32)), .val (.int (3 : Int32)), .val (.int (5 : Int32)), .unset] [(.int (1023 : Int32)), (.int (-835465565 : Int32))]))
  refine Go.iand (pc' := 14) X7 hx hby d20_13 rfl ?_
  change Go p e below _ (T6.setTop (mkF m 14 #[.val (.ref q1), .val (.int (2 : Int32)), .val (.int (3 : Int32)), .val (.int (5 : Int32)), .unset] [(.int (675 : Int32))]))
  refine Go.istore (Ls' := #[.val (.ref q1), .val (.int (2 : Int32)), .val (.int (3 : Int32)), .val (.int (5 : Int32)), .val (.int (675 : Int32))]) (pc' := 16) X7 hx hby d20_14 rfl rfl ?_
  refine Go.aloadN (pc' := 17) X7 hx hby d20_16 rfl rfl rfl ?_
  refine Go.getF (pc' := 20) X7 hx hby hZ hown (hw _ (List.mem_of_getElem? (i := 35) rfl)) Via.refl e8 B.f15 d20_17 rfl ?_
  intro T9 X10 e11
  show Go p e below _ (T9.setTop (mkF m 20 #[.val (.ref q1), .val (.int (2 : Int32)), .val (.int (3 : Int32)), .val (.int (5 : Int32)), .val (.int (675 : Int32))] [(.ref (d 15))]))
  refine Go.iload (pc' := 22) X10 hx hby d20_20 rfl rfl ?_
  refine Go.iloadN (pc' := 23) X10 hx hby d20_22 rfl rfl ?_
  refine Go.iastore (pc' := 24) (i := 675) X10 hx hby hZ e11 B.a15 d20_23 rfl (by decide) (by decide) (by decide) ?_
  intro T12 h13 X14 e15 W16 A17
  have N19 : Fr n0 _ := Fr.snoc X14 (Fr.nil _) (B.2.1 15 (by decide))
  have B18 : OwnB Z h13 n0 a q0 q1 d sz vr (own_up f 15 675 (.int (2 : Int32))) := B.st hw (k := 15) (by decide) W16 A17
  show Go p e below _ (T12.setTop (mkF m 24 #[.val (.ref q1), .val (.int (2 : Int32)), .val (.int (3 : Int32)), .val (.int (5 : Int32)), .val (.int (675 : Int32))] []))
  refine Go.aloadN (pc' := 25) X14 hx hby d20_24 rfl rfl rfl ?_
  refine Go.getF (pc' := 28) X14 hx hby hZ hown (hw _ (List.mem_of_getElem? (i := 37) rfl)) Via.refl e15 B18.f16 d20_25 rfl ?_
  intro T20 X21 e22
  show Go p e below _ (T20.setTop (mkF m 28 #[.val (.ref q1), .val (.int (2 : Int32)), .val (.int (3 : Int32)), .val (.int (5 : Int32)), .val (.int (675 : Int32))] [(.ref (d 16))]))
  refine Go.iload (pc' := 30) X21 hx hby d20_28 rfl rfl ?_
  refine Go.iloadN (pc' := 31) X21 hx hby d20_30 rfl rfl ?_
  refine Go.iastore (pc' := 32) (i := 675) X21 hx hby hZ e22 B18.a16 d20_31 rfl (by decide) (by decide) (by decide) ?_
  intro T23 h24 X25 e26 W27 A28
  have N30 : Fr n0 _ := Fr.snoc X25 N19 (B18.2.1 16 (by decide))
  have B29 : OwnB Z h24 n0 a q0 q1 d sz vr (own_up (own_up f 15 675 (.int (2 : Int32))) 16 675 (.int (3 : Int32))) := B18.st hw (k := 16) (by decide) W27 A28
  show Go p e below _ (T23.setTop (mkF m 32 #[.val (.ref q1), .val (.int (2 : Int32)), .val (.int (3 : Int32)), .val (.int (5 : Int32)), .val (.int (675 : Int32))] []))
  refine Go.aloadN (pc' := 33) X25 hx hby d20_32 rfl rfl rfl ?_
  refine Go.getF (pc' := 36) X25 hx hby hZ hown (hw _ (List.mem_of_getElem? (i := 39) rfl)) Via.refl e26 B29.f17 d20_33 rfl ?_
  intro T31 X32 e33
  show Go p e below _ (T31.setTop (mkF m 36 #[.val (.ref q1), .val (.int (2 : Int32)), .val (.int (3 : Int32)), .val (.int (5 : Int32)), .val (.int (675 : Int32))] [(.ref (d 17))]))
  refine Go.iload (pc' := 38) X32 hx hby d20_36 rfl rfl ?_
  refine Go.iloadN (pc' := 39) X32 hx hby d20_38 rfl rfl ?_
  refine Go.iastore (pc' := 40) (i := 675) X32 hx hby hZ e33 B29.a17 d20_39 rfl (by decide) (by decide) (by decide) ?_
  intro T34 h35 X36 e37 W38 A39
  have N41 : Fr n0 _ := Fr.snoc X36 N30 (B29.2.1 17 (by decide))
  have B40 : OwnB Z h35 n0 a q0 q1 d sz vr (own_up (own_up (own_up f 15 675 (.int (2 : Int32))) 16 675 (.int (3 : Int32))) 17 675 (.int (5 : Int32))) := B29.st hw (k := 17) (by decide) W38 A39
  show Go p e below _ (T34.setTop (mkF m 40 #[.val (.ref q1), .val (.int (2 : Int32)), .val (.int (3 : Int32)), .val (.int (5 : Int32)), .val (.int (675 : Int32))] []))
  exact Go.ret0 X36 hx hby hlk hret d20_40 (by decide) (by decide) ⟨rfl, N41, by rw [e37]; exact B40⟩
set_option maxRecDepth 65536 in
set_option maxHeartbeats 40000000 in
theorem rx37 (l : Launch) (Z : State) (a0 : Array Value) (hw : ∀ d ∈ tables_1, d.before a0 Z = true) (a : Addr) (x0 : Int32) (x1 : Int32) (x2 : Int32) (h0 : Heap) (n0 : Nat) (q0 q1 : Addr) (d : Nat → Addr) (sz vr : Int32) (f : Nat → Int → Value) (e0_ : x0 = 1) (e1_ : x1 = 2) (e2_ : x2 = 3) (B : OwnB Z h0 n0 a q0 q1 d sz vr f) (hsz : sz = 5) (r_6_1 : f 6 1 = (.ref q1)) (r_15_675 : f 15 675 = (.int (-1 : Int32))) (r_0_2 : f 0 2 = (.int (0 : Int32))) (r_0_3 : f 0 3 = (.int (1 : Int32))) (r_1_2 : f 1 2 = (.int (0 : Int32))) (r_2_2 : f 2 2 = (.int (1 : Int32))) (r_4_334 : f 4 334 = (.int (-1 : Int32))) :
    Con l Z (⟨"com/example/glacis/glacis/analysis/Bdd", "apply", "(III)I"⟩ : MethodName) prog_2_method_11_code 11 (some .int) [] ({ frames := 3, cells := 0, slots := 0, locals := 49 } : Room) #[(.ref a), (.int x0), (.int x1), (.int x2)] h0 (fun v h L => v = some (.int (5 : Int32)) ∧ Fr n0 L ∧ OwnB Z h n0 a q0 q1 d (6 : Int32) vr (own_up (own_up (own_up (own_up (own_up (own_up (own_up (own_up (own_up (own_up (own_up (own_up (own_up (own_up (own_up (own_up (own_up (own_up (own_up (own_up (own_up f 7 0 (.int (2 : Int32))) 8 0 (.int (3 : Int32))) 11 0 (.int (0 : Int32))) 9 0 (.int (0 : Int32))) 11 0 (.int (1 : Int32))) 7 1 (.int (0 : Int32))) 8 1 (.int (3 : Int32))) 11 1 (.int (0 : Int32))) 10 0 (.int (3 : Int32))) 11 0 (.int (2 : Int32))) 7 1 (.int (1 : Int32))) 8 1 (.int (3 : Int32))) 11 1 (.int (0 : Int32))) 0 5 (.int (0 : Int32))) 1 5 (.int (3 : Int32))) 2 5 (.int (1 : Int32))) 3 5 (.int (-1 : Int32))) 4 334 (.int (5 : Int32))) 15 675 (.int (2 : Int32))) 16 675 (.int (3 : Int32))) 17 675 (.int (5 : Int32)))) := by
  refine Con.of (plainFor_of_name pn_Bdd) ?_
  intro p e s m below meth c s₁ hx hby hml hown hnm hret hlk hZ X0 e0
  refine Go.cast (ef_13 m a x0 x1 x2) ?_
  replace hown : s.vm.findClass "com/example/glacis/glacis/analysis/Bdd" = some m.cls := hown
  subst e0_ e1_ e2_ hsz
  show Go p e below _ (s₁.setTop (mkF m 0 #[.val (.ref a), .val (.int (1 : Int32)), .val (.int (2 : Int32)), .val (.int (3 : Int32)), .unset, .unset, .unset, .unset, .unset, .unset, .unset] []))
  refine Go.aloadN (pc' := 1) X0 hx hby d13_0 rfl rfl rfl ?_
  refine Go.iconst (pc' := 2) X0 hx hby d13_1 rfl (v := (0 : Int32)) (by decide) ?_
  refine Go.iloadN (pc' := 3) X0 hx hby d13_2 rfl rfl ?_
  refine Go.iloadN (pc' := 4) X0 hx hby d13_3 rfl rfl ?_
  refine Go.callP (C := "com/example/glacis/glacis/analysis/Bdd") (pc' := 7) (a := a) (W := 0) (argsL := [(.int (0 : Int32)), (.int (2 : Int32)), (.int (3 : Int32))]) (rest := []) X0 hx hby hZ hown (hw _ (List.mem_of_getElem? (i := 109) rfl)) (hw _ (List.mem_of_getElem? (i := 110) rfl)) (own_sel (w := (⟨"com/example/glacis/glacis/analysis/Bdd", "test", "(I)I"⟩ : MethodName)) (y := (⟨"com/example/glacis/glacis/analysis/Bdd", "push", "(III)I"⟩ : MethodName)) (hw _ (List.mem_of_getElem? (i := 84) rfl)) rfl (hw _ (List.mem_of_getElem? (i := 111) rfl)) (hw _ (List.mem_of_getElem? (i := 110) rfl)) (by decide)) (hw _ (List.mem_of_getElem? (i := 111) rfl)) (hw _ (List.mem_of_getElem? (i := 4) rfl)) (hw _ (List.mem_of_getElem? (i := 112) rfl)) (by decide) (rx13 l Z a0 hw a (0 : Int32) (2 : Int32) (3 : Int32) h0 n0 q0 q1 d (5 : Int32) vr f rfl rfl rfl B ) e0 B.2.2.2.2.1 (by decide) (by decide) (by rw [hml]; rfl) pd_8 rfl rfl rfl (Nat.le_of_eq rfl) d13_4 rfl (by decide) (by decide) ?_
  rintro r3 T4 L5 X6 ⟨rfl, N1, B2⟩
  show Go p e below _ (T4.setTop (mkF m 7 #[.val (.ref a), .val (.int (1 : Int32)), .val (.int (2 : Int32)), .val (.int (3 : Int32)), .unset, .unset, .unset, .unset, .unset, .unset, .unset] [(.int (1 : Int32))]))
  refine Go.istore (Ls' := #[.val (.ref a), .val (.int (1 : Int32)), .val (.int (2 : Int32)), .val (.int (3 : Int32)), .val (.int (1 : Int32)), .unset, .unset, .unset, .unset, .unset, .unset]) (pc' := 9) X6 hx hby d13_7 rfl rfl ?_
  refine Go.iconst (pc' := 10) X6 hx hby d13_9 rfl (v := (-1 : Int32)) (by decide) ?_
  refine Go.istore (Ls' := #[.val (.ref a), .val (.int (1 : Int32)), .val (.int (2 : Int32)), .val (.int (3 : Int32)), .val (.int (1 : Int32)), .val (.int (-1 : Int32)), .unset, .unset, .unset, .unset, .unset]) (pc' := 12) X6 hx hby d13_10 rfl rfl ?_
  refine Go.iload (pc' := 14) X6 hx hby d13_12 rfl rfl ?_
  refine Go.ifN (pc' := 17) X6 hx hby d13_14 rfl (show ¬ ((1 : Int32) ≤ 0) from by decide) ?_
  refine Go.iload (pc' := 19) X6 hx hby d13_17 rfl rfl ?_
  refine Go.iconst (pc' := 20) X6 hx hby d13_19 rfl (v := (1 : Int32)) (by decide) ?_
  refine Go.isub (pc' := 21) X6 hx hby d13_20 rfl ?_
  change Go p e below _ (T4.setTop (mkF m 21 #[.val (.ref a), .val (.int (1 : Int32)), .val (.int (2 : Int32)), .val (.int (3 : Int32)), .val (.int (1 : Int32)), .val (.int (-1 : Int32)), .unset, .unset, .unset, .unset, .unset] [(.int (0 : Int32))]))
  refine Go.istore (Ls' := #[.val (.ref a), .val (.int (1 : Int32)), .val (.int (2 : Int32)), .val (.int (3 : Int32)), .val (.int (1 : Int32)), .val (.int (-1 : Int32)), .val (.int (0 : Int32)), .unset, .unset, .unset, .unset]) (pc' := 23) X6 hx hby d13_21 rfl rfl ?_
  refine Go.aloadN (pc' := 24) X6 hx hby d13_23 rfl rfl rfl ?_
  refine Go.getF (pc' := 27) X6 hx hby hZ hown (hw _ (List.mem_of_getElem? (i := 44) rfl)) Via.refl rfl B2.f7 d13_24 rfl ?_
  intro T7 X8 e9
  show Go p e below _ (T7.setTop (mkF m 27 #[.val (.ref a), .val (.int (1 : Int32)), .val (.int (2 : Int32)), .val (.int (3 : Int32)), .val (.int (1 : Int32)), .val (.int (-1 : Int32)), .val (.int (0 : Int32)), .unset, .unset, .unset, .unset] [(.ref (d 7))]))
  refine Go.iload (pc' := 29) X8 hx hby d13_27 rfl rfl ?_
  refine Go.iaload (pc' := 30) (i := 0) (v := (.int (2 : Int32))) X8 hx hby hZ e9 B2.a7 d13_29 rfl (by decide) (by decide) (by decide) rfl ?_
  refine Go.istore (Ls' := #[.val (.ref a), .val (.int (1 : Int32)), .val (.int (2 : Int32)), .val (.int (3 : Int32)), .val (.int (1 : Int32)), .val (.int (-1 : Int32)), .val (.int (0 : Int32)), .val (.int (2 : Int32)), .unset, .unset, .unset]) (pc' := 32) X8 hx hby d13_30 rfl rfl ?_
  refine Go.aloadN (pc' := 33) X8 hx hby d13_32 rfl rfl rfl ?_
  refine Go.getF (pc' := 36) X8 hx hby hZ hown (hw _ (List.mem_of_getElem? (i := 46) rfl)) Via.refl e9 B2.f8 d13_33 rfl ?_
  intro T10 X11 e12
  show Go p e below _ (T10.setTop (mkF m 36 #[.val (.ref a), .val (.int (1 : Int32)), .val (.int (2 : Int32)), .val (.int (3 : Int32)), .val (.int (1 : Int32)), .val (.int (-1 : Int32)), .val (.int (0 : Int32)), .val (.int (2 : Int32)), .unset, .unset, .unset] [(.ref (d 8))]))
  refine Go.iload (pc' := 38) X11 hx hby d13_36 rfl rfl ?_
  refine Go.iaload (pc' := 39) (i := 0) (v := (.int (3 : Int32))) X11 hx hby hZ e12 B2.a8 d13_38 rfl (by decide) (by decide) (by decide) rfl ?_
  refine Go.istore (Ls' := #[.val (.ref a), .val (.int (1 : Int32)), .val (.int (2 : Int32)), .val (.int (3 : Int32)), .val (.int (1 : Int32)), .val (.int (-1 : Int32)), .val (.int (0 : Int32)), .val (.int (2 : Int32)), .val (.int (3 : Int32)), .unset, .unset]) (pc' := 41) X11 hx hby d13_39 rfl rfl ?_
  refine Go.aloadN (pc' := 42) X11 hx hby d13_41 rfl rfl rfl ?_
  refine Go.getF (pc' := 45) X11 hx hby hZ hown (hw _ (List.mem_of_getElem? (i := 52) rfl)) Via.refl e12 B2.f11 d13_42 rfl ?_
  intro T13 X14 e15
  show Go p e below _ (T13.setTop (mkF m 45 #[.val (.ref a), .val (.int (1 : Int32)), .val (.int (2 : Int32)), .val (.int (3 : Int32)), .val (.int (1 : Int32)), .val (.int (-1 : Int32)), .val (.int (0 : Int32)), .val (.int (2 : Int32)), .val (.int (3 : Int32)), .unset, .unset] [(.ref (d 11))]))
  refine Go.iload (pc' := 47) X14 hx hby d13_45 rfl rfl ?_
  refine Go.iaload (pc' := 48) (i := 0) (v := (.int (0 : Int32))) X14 hx hby hZ e15 B2.a11 d13_47 rfl (by decide) (by decide) (by decide) rfl ?_
  refine Go.ifN (pc' := 51) X14 hx hby d13_48 rfl (show ¬ ((0 : Int32) ≠ 0) from by decide) ?_
  refine Go.iloadN (pc' := 52) X14 hx hby d13_51 rfl rfl ?_
  refine Go.iload (pc' := 54) X14 hx hby d13_52 rfl rfl ?_
  refine Go.iload (pc' := 56) X14 hx hby d13_54 rfl rfl ?_
  refine Go.callS (pc' := 59) (W := 0) (argsL := [(.int (1 : Int32)), (.int (2 : Int32)), (.int (3 : Int32))]) (rest := []) X14 hx hby hZ hown (hw _ (List.mem_of_getElem? (i := 120) rfl)) (hw _ (List.mem_of_getElem? (i := 121) rfl)) (hw _ (List.mem_of_getElem? (i := 4) rfl)) (hw _ (List.mem_of_getElem? (i := 122) rfl)) (by decide) (rx38 l Z a0 hw  (1 : Int32) (2 : Int32) (3 : Int32) T4.heap rfl rfl rfl) e15 (by decide) (by decide) (by rw [hml]; rfl) pd_8 rfl rfl rfl (Nat.le_of_eq rfl) d13_56 rfl (by decide) (by decide) ?_
  rintro r17 T18 L19 X20 ⟨rfl, rfl, e16⟩
  rw [List.append_nil] at X20
  show Go p e below _ (T18.setTop (mkF m 59 #[.val (.ref a), .val (.int (1 : Int32)), .val (.int (2 : Int32)), .val (.int (3 : Int32)), .val (.int (1 : Int32)), .val (.int (-1 : Int32)), .val (.int (0 : Int32)), .val (.int (2 : Int32)), .val (.int (3 : Int32)), .unset, .unset] [(.int (-1 : Int32))]))
  refine Go.istore (Ls' := #[.val (.ref a), .val (.int (1 : Int32)), .val (.int (2 : Int32)), .val (.int (3 : Int32)), .val (.int (1 : Int32)), .val (.int (-1 : Int32)), .val (.int (0 : Int32)), .val (.int (2 : Int32)), .val (.int (3 : Int32)), .val (.int (-1 : Int32)), .unset]) (pc' := 61) X20 hx hby d13_59 rfl rfl ?_
  refine Go.iload (pc' := 63) X20 hx hby d13_61 rfl rfl ?_
  refine Go.iconst (pc' := 64) X20 hx hby d13_63 rfl (v := (-1 : Int32)) (by decide) ?_
  refine Go.icmpN (pc' := 67) X20 hx hby d13_64 rfl (show ¬ ((-1 : Int32) ≠ (-1 : Int32)) from by decide) ?_
  refine Go.aloadN (pc' := 68) X20 hx hby d13_67 rfl rfl rfl ?_
  refine Go.getF (pc' := 71) X20 hx hby hZ hown (hw _ (List.mem_of_getElem? (i := 42) rfl)) Via.refl e16 B2.f6 d13_68 rfl ?_
  intro T21 X22 e23
  show Go p e below _ (T21.setTop (mkF m 71 #[.val (.ref a), .val (.int (1 : Int32)), .val (.int (2 : Int32)), .val (.int (3 : Int32)), .val (.int (1 : Int32)), .val (.int (-1 : Int32)), .val (.int (0 : Int32)), .val (.int (2 : Int32)), .val (.int (3 : Int32)), .val (.int (-1 : Int32)), .unset] [(.ref (d 6))]))
  refine Go.iloadN (pc' := 72) X22 hx hby d13_71 rfl rfl ?_
  refine Go.aaload (pc' := 73) (i := 1) (v := (.ref q1)) X22 hx hby hZ e23 B2.a6 rfl d13_72 rfl (by decide) (by decide) (by decide) r_6_1 ?_
  refine Go.iload (pc' := 75) X22 hx hby d13_73 rfl rfl ?_
  refine Go.iload (pc' := 77) X22 hx hby d13_75 rfl rfl ?_
  refine Go.callV (C := "com/example/glacis/glacis/analysis/Bdd$Computed") (pc' := 80) (a := q1) (W := 0) (argsL := [(.int (2 : Int32)), (.int (3 : Int32))]) (rest := []) X22 hx hby hZ hown (hw _ (List.mem_of_getElem? (i := 123) rfl)) (hw _ (List.mem_of_getElem? (i := 124) rfl)) (notFace_of_selects (args := #[]) (mvT hZ (hw _ (List.mem_of_getElem? (i := 126) rfl)))) (hw _ (List.mem_of_getElem? (i := 126) rfl)) (hw _ (List.mem_of_getElem? (i := 125) rfl)) (hw _ (List.mem_of_getElem? (i := 30) rfl)) (hw _ (List.mem_of_getElem? (i := 127) rfl)) (by decide) (rx39 l Z a0 hw q1 (2 : Int32) (3 : Int32) T4.heap n0 a q0 d (5 : Int32) vr (own_up (own_up (own_up f 7 0 (.int (2 : Int32))) 8 0 (.int (3 : Int32))) 11 0 (.int (0 : Int32))) rfl rfl B2 r_15_675) e23 B2.2.2.2.2.2.2.1 (by decide) (by decide) (by rw [hml]; rfl) pd_6 rfl rfl rfl (Nat.le_of_eq rfl) d13_77 rfl (by decide) (by decide) ?_
  rintro r26 T27 L28 X29 ⟨rfl, N24, B25⟩
  show Go p e below _ (T27.setTop (mkF m 80 #[.val (.ref a), .val (.int (1 : Int32)), .val (.int (2 : Int32)), .val (.int (3 : Int32)), .val (.int (1 : Int32)), .val (.int (-1 : Int32)), .val (.int (0 : Int32)), .val (.int (2 : Int32)), .val (.int (3 : Int32)), .val (.int (-1 : Int32)), .unset] [(.int (-1 : Int32))]))
  refine Go.istore (Ls' := #[.val (.ref a), .val (.int (1 : Int32)), .val (.int (2 : Int32)), .val (.int (3 : Int32)), .val (.int (1 : Int32)), .val (.int (-1 : Int32)), .val (.int (0 : Int32)), .val (.int (2 : Int32)), .val (.int (3 : Int32)), .val (.int (-1 : Int32)), .unset]) (pc' := 82) X29 hx hby d13_80 rfl rfl ?_
  refine Go.iload (pc' := 84) X29 hx hby d13_82 rfl rfl ?_
  refine Go.iconst (pc' := 85) X29 hx hby d13_84 rfl (v := (-1 : Int32)) (by decide) ?_
  refine Go.icmpN (pc' := 88) X29 hx hby d13_85 rfl (show ¬ ((-1 : Int32) ≠ (-1 : Int32)) from by decide) ?_
  refine Go.aloadN (pc' := 89) X29 hx hby d13_88 rfl rfl rfl ?_
  refine Go.getF (pc' := 92) X29 hx hby hZ hown (hw _ (List.mem_of_getElem? (i := 12) rfl)) Via.refl rfl B25.f0 d13_89 rfl ?_
  intro T30 X31 e32
  show Go p e below _ (T30.setTop (mkF m 92 #[.val (.ref a), .val (.int (1 : Int32)), .val (.int (2 : Int32)), .val (.int (3 : Int32)), .val (.int (1 : Int32)), .val (.int (-1 : Int32)), .val (.int (0 : Int32)), .val (.int (2 : Int32)), .val (.int (3 : Int32)), .val (.int (-1 : Int32)), .unset] [(.ref (d 0))]))
  refine Go.iload (pc' := 94) X31 hx hby d13_92 rfl rfl ?_
  refine Go.iaload (pc' := 95) (i := 2) (v := (.int (0 : Int32))) X31 hx hby hZ e32 B25.a0 d13_94 rfl (by decide) (by decide) (by decide) r_0_2 ?_
  refine Go.aloadN (pc' := 96) X31 hx hby d13_95 rfl rfl rfl ?_
  refine Go.getF (pc' := 99) X31 hx hby hZ hown (hw _ (List.mem_of_getElem? (i := 12) rfl)) Via.refl e32 B25.f0 d13_96 rfl ?_
  intro T33 X34 e35
  show Go p e below _ (T33.setTop (mkF m 99 #[.val (.ref a), .val (.int (1 : Int32)), .val (.int (2 : Int32)), .val (.int (3 : Int32)), .val (.int (1 : Int32)), .val (.int (-1 : Int32)), .val (.int (0 : Int32)), .val (.int (2 : Int32)), .val (.int (3 : Int32)), .val (.int (-1 : Int32)), .unset] [(.ref (d 0)), (.int (0 : Int32))]))
  refine Go.iload (pc' := 101) X34 hx hby d13_99 rfl rfl ?_
  refine Go.iaload (pc' := 102) (i := 3) (v := (.int (1 : Int32))) X34 hx hby hZ e35 B25.a0 d13_101 rfl (by decide) (by decide) (by decide) r_0_3 ?_
  refine Go.callS (pc' := 105) (W := 0) (argsL := [(.int (0 : Int32)), (.int (1 : Int32))]) (rest := []) X34 hx hby hZ hown (hw _ (List.mem_of_getElem? (i := 113) rfl)) (hw _ (List.mem_of_getElem? (i := 114) rfl)) (hw _ (List.mem_of_getElem? (i := 115) rfl)) (hw _ (List.mem_of_getElem? (i := 116) rfl)) (by decide) (rx19 l Z a0 hw  (0 : Int32) (1 : Int32) T27.heap rfl rfl) e35 (by decide) (by decide) (by rw [hml]; rfl) pd_6 rfl rfl rfl (Nat.le_of_eq rfl) d13_102 rfl (by decide) (by decide) ?_
  rintro r37 T38 L39 X40 ⟨rfl, rfl, e36⟩
  rw [List.append_nil] at X40
  show Go p e below _ (T38.setTop (mkF m 105 #[.val (.ref a), .val (.int (1 : Int32)), .val (.int (2 : Int32)), .val (.int (3 : Int32)), .val (.int (1 : Int32)), .val (.int (-1 : Int32)), .val (.int (0 : Int32)), .val (.int (2 : Int32)), .val (.int (3 : Int32)), .val (.int (-1 : Int32)), .unset] [(.int (0 : Int32))]))
  refine Go.istore (Ls' := #[.val (.ref a), .val (.int (1 : Int32)), .val (.int (2 : Int32)), .val (.int (3 : Int32)), .val (.int (1 : Int32)), .val (.int (-1 : Int32)), .val (.int (0 : Int32)), .val (.int (2 : Int32)), .val (.int (3 : Int32)), .val (.int (-1 : Int32)), .val (.int (0 : Int32))]) (pc' := 107) X40 hx hby d13_105 rfl rfl ?_
  refine Go.aloadN (pc' := 108) X40 hx hby d13_107 rfl rfl rfl ?_
  refine Go.getF (pc' := 111) X40 hx hby hZ hown (hw _ (List.mem_of_getElem? (i := 48) rfl)) Via.refl e36 B25.f9 d13_108 rfl ?_
  intro T41 X42 e43
  show Go p e below _ (T41.setTop (mkF m 111 #[.val (.ref a), .val (.int (1 : Int32)), .val (.int (2 : Int32)), .val (.int (3 : Int32)), .val (.int (1 : Int32)), .val (.int (-1 : Int32)), .val (.int (0 : Int32)), .val (.int (2 : Int32)), .val (.int (3 : Int32)), .val (.int (-1 : Int32)), .val (.int (0 : Int32))] [(.ref (d 9))]))
  refine Go.iload (pc' := 113) X42 hx hby d13_111 rfl rfl ?_
  refine Go.iload (pc' := 115) X42 hx hby d13_113 rfl rfl ?_
  refine Go.iastore (pc' := 116) (i := 0) X42 hx hby hZ e43 B25.a9 d13_115 rfl (by decide) (by decide) (by decide) ?_
  intro T44 h45 X46 e47 W48 A49
  have N51 : Fr n0 _ := Fr.snoc X46 (Fr.app (Fr.app (Fr.nil _) N1) N24) (B25.2.1 9 (by decide))
  have B50 : OwnB Z h45 n0 a q0 q1 d (5 : Int32) vr (own_up (own_up (own_up (own_up f 7 0 (.int (2 : Int32))) 8 0 (.int (3 : Int32))) 11 0 (.int (0 : Int32))) 9 0 (.int (0 : Int32))) := B25.st hw (k := 9) (by decide) W48 A49
  show Go p e below _ (T44.setTop (mkF m 116 #[.val (.ref a), .val (.int (1 : Int32)), .val (.int (2 : Int32)), .val (.int (3 : Int32)), .val (.int (1 : Int32)), .val (.int (-1 : Int32)), .val (.int (0 : Int32)), .val (.int (2 : Int32)), .val (.int (3 : Int32)), .val (.int (-1 : Int32)), .val (.int (0 : Int32))] []))
  refine Go.aloadN (pc' := 117) X46 hx hby d13_116 rfl rfl rfl ?_
  refine Go.getF (pc' := 120) X46 hx hby hZ hown (hw _ (List.mem_of_getElem? (i := 52) rfl)) Via.refl e47 B50.f11 d13_117 rfl ?_
  intro T52 X53 e54
  show Go p e below _ (T52.setTop (mkF m 120 #[.val (.ref a), .val (.int (1 : Int32)), .val (.int (2 : Int32)), .val (.int (3 : Int32)), .val (.int (1 : Int32)), .val (.int (-1 : Int32)), .val (.int (0 : Int32)), .val (.int (2 : Int32)), .val (.int (3 : Int32)), .val (.int (-1 : Int32)), .val (.int (0 : Int32))] [(.ref (d 11))]))
  refine Go.iload (pc' := 122) X53 hx hby d13_120 rfl rfl ?_
  refine Go.iconst (pc' := 123) X53 hx hby d13_122 rfl (v := (1 : Int32)) (by decide) ?_
  refine Go.iastore (pc' := 124) (i := 0) X53 hx hby hZ e54 B50.a11 d13_123 rfl (by decide) (by decide) (by decide) ?_
  intro T55 h56 X57 e58 W59 A60
  have N62 : Fr n0 _ := Fr.snoc X57 N51 (B50.2.1 11 (by decide))
  have B61 : OwnB Z h56 n0 a q0 q1 d (5 : Int32) vr (own_up (own_up (own_up (own_up (own_up f 7 0 (.int (2 : Int32))) 8 0 (.int (3 : Int32))) 11 0 (.int (0 : Int32))) 9 0 (.int (0 : Int32))) 11 0 (.int (1 : Int32))) := B50.st hw (k := 11) (by decide) W59 A60
  show Go p e below _ (T55.setTop (mkF m 124 #[.val (.ref a), .val (.int (1 : Int32)), .val (.int (2 : Int32)), .val (.int (3 : Int32)), .val (.int (1 : Int32)), .val (.int (-1 : Int32)), .val (.int (0 : Int32)), .val (.int (2 : Int32)), .val (.int (3 : Int32)), .val (.int (-1 : Int32)), .val (.int (0 : Int32))] []))
  refine Go.aloadN (pc' := 125) X57 hx hby d13_124 rfl rfl rfl ?_
  refine Go.iload (pc' := 127) X57 hx hby d13_125 rfl rfl ?_
  refine Go.aloadN (pc' := 128) X57 hx hby d13_127 rfl rfl rfl ?_
  refine Go.iload (pc' := 130) X57 hx hby d13_128 rfl rfl ?_
  refine Go.iload (pc' := 132) X57 hx hby d13_130 rfl rfl ?_
  refine Go.iconst (pc' := 133) X57 hx hby d13_132 rfl (v := (0 : Int32)) (by decide) ?_
  refine Go.callP (C := "com/example/glacis/glacis/analysis/Bdd") (pc' := 136) (a := a) (W := 2) (argsL := [(.int (2 : Int32)), (.int (0 : Int32)), (.int (0 : Int32))]) (rest := [(.int (1 : Int32)), (.ref a)]) X57 hx hby hZ hown (hw _ (List.mem_of_getElem? (i := 129) rfl)) (hw _ (List.mem_of_getElem? (i := 130) rfl)) (own_sel (w := (⟨"com/example/glacis/glacis/analysis/Bdd", "test", "(I)I"⟩ : MethodName)) (y := (⟨"com/example/glacis/glacis/analysis/Bdd", "cofactor", "(IIZ)I"⟩ : MethodName)) (hw _ (List.mem_of_getElem? (i := 84) rfl)) rfl (hw _ (List.mem_of_getElem? (i := 131) rfl)) (hw _ (List.mem_of_getElem? (i := 130) rfl)) (by decide)) (hw _ (List.mem_of_getElem? (i := 131) rfl)) (hw _ (List.mem_of_getElem? (i := 4) rfl)) (hw _ (List.mem_of_getElem? (i := 132) rfl)) (by decide) (rx20 l Z a0 hw a (2 : Int32) (0 : Int32) (0 : Int32) h56 n0 q0 q1 d (5 : Int32) vr (own_up (own_up (own_up (own_up (own_up f 7 0 (.int (2 : Int32))) 8 0 (.int (3 : Int32))) 11 0 (.int (0 : Int32))) 9 0 (.int (0 : Int32))) 11 0 (.int (1 : Int32))) rfl rfl rfl B61 r_0_2 r_1_2) e58 B61.2.2.2.2.1 (by decide) (by decide) (by rw [hml]; rfl) pd_10 rfl rfl rfl (Nat.le_of_eq rfl) d13_133 rfl (by decide) (by decide) ?_
  rintro r65 T66 L67 X68 ⟨rfl, N63, B64⟩
  show Go p e below _ (T66.setTop (mkF m 136 #[.val (.ref a), .val (.int (1 : Int32)), .val (.int (2 : Int32)), .val (.int (3 : Int32)), .val (.int (1 : Int32)), .val (.int (-1 : Int32)), .val (.int (0 : Int32)), .val (.int (2 : Int32)), .val (.int (3 : Int32)), .val (.int (-1 : Int32)), .val (.int (0 : Int32))] [(.int (0 : Int32)), (.int (1 : Int32)), (.ref a)]))
  refine Go.aloadN (pc' := 137) X68 hx hby d13_136 rfl rfl rfl ?_
  refine Go.iload (pc' := 139) X68 hx hby d13_137 rfl rfl ?_
  refine Go.iload (pc' := 141) X68 hx hby d13_139 rfl rfl ?_
  refine Go.iconst (pc' := 142) X68 hx hby d13_141 rfl (v := (0 : Int32)) (by decide) ?_
  refine Go.callP (C := "com/example/glacis/glacis/analysis/Bdd") (pc' := 145) (a := a) (W := 3) (argsL := [(.int (3 : Int32)), (.int (0 : Int32)), (.int (0 : Int32))]) (rest := [(.int (0 : Int32)), (.int (1 : Int32)), (.ref a)]) X68 hx hby hZ hown (hw _ (List.mem_of_getElem? (i := 129) rfl)) (hw _ (List.mem_of_getElem? (i := 130) rfl)) (own_sel (w := (⟨"com/example/glacis/glacis/analysis/Bdd", "test", "(I)I"⟩ : MethodName)) (y := (⟨"com/example/glacis/glacis/analysis/Bdd", "cofactor", "(IIZ)I"⟩ : MethodName)) (hw _ (List.mem_of_getElem? (i := 84) rfl)) rfl (hw _ (List.mem_of_getElem? (i := 131) rfl)) (hw _ (List.mem_of_getElem? (i := 130) rfl)) (by decide)) (hw _ (List.mem_of_getElem? (i := 131) rfl)) (hw _ (List.mem_of_getElem? (i := 4) rfl)) (hw _ (List.mem_of_getElem? (i := 132) rfl)) (by decide) (rx21 l Z a0 hw a (3 : Int32) (0 : Int32) (0 : Int32) T66.heap n0 q0 q1 d (5 : Int32) vr (own_up (own_up (own_up (own_up (own_up f 7 0 (.int (2 : Int32))) 8 0 (.int (3 : Int32))) 11 0 (.int (0 : Int32))) 9 0 (.int (0 : Int32))) 11 0 (.int (1 : Int32))) rfl rfl rfl B64 r_0_3) rfl B64.2.2.2.2.1 (by decide) (by decide) (by rw [hml]; rfl) pd_10 rfl rfl rfl (Nat.le_of_eq rfl) d13_142 rfl (by decide) (by decide) ?_
  rintro r71 T72 L73 X74 ⟨rfl, N69, B70⟩
  show Go p e below _ (T72.setTop (mkF m 145 #[.val (.ref a), .val (.int (1 : Int32)), .val (.int (2 : Int32)), .val (.int (3 : Int32)), .val (.int (1 : Int32)), .val (.int (-1 : Int32)), .val (.int (0 : Int32)), .val (.int (2 : Int32)), .val (.int (3 : Int32)), .val (.int (-1 : Int32)), .val (.int (0 : Int32))] [(.int (3 : Int32)), (.int (0 : Int32)), (.int (1 : Int32)), (.ref a)]))
  refine Go.callP (C := "com/example/glacis/glacis/analysis/Bdd") (pc' := 148) (a := a) (W := 0) (argsL := [(.int (1 : Int32)), (.int (0 : Int32)), (.int (3 : Int32))]) (rest := []) X74 hx hby hZ hown (hw _ (List.mem_of_getElem? (i := 109) rfl)) (hw _ (List.mem_of_getElem? (i := 110) rfl)) (own_sel (w := (⟨"com/example/glacis/glacis/analysis/Bdd", "test", "(I)I"⟩ : MethodName)) (y := (⟨"com/example/glacis/glacis/analysis/Bdd", "push", "(III)I"⟩ : MethodName)) (hw _ (List.mem_of_getElem? (i := 84) rfl)) rfl (hw _ (List.mem_of_getElem? (i := 111) rfl)) (hw _ (List.mem_of_getElem? (i := 110) rfl)) (by decide)) (hw _ (List.mem_of_getElem? (i := 111) rfl)) (hw _ (List.mem_of_getElem? (i := 4) rfl)) (hw _ (List.mem_of_getElem? (i := 112) rfl)) (by decide) (rx22 l Z a0 hw a (1 : Int32) (0 : Int32) (3 : Int32) T72.heap n0 q0 q1 d (5 : Int32) vr (own_up (own_up (own_up (own_up (own_up f 7 0 (.int (2 : Int32))) 8 0 (.int (3 : Int32))) 11 0 (.int (0 : Int32))) 9 0 (.int (0 : Int32))) 11 0 (.int (1 : Int32))) rfl rfl rfl B70 ) rfl B70.2.2.2.2.1 (by decide) (by decide) (by rw [hml]; rfl) pd_8 rfl rfl rfl (Nat.le_of_eq rfl) d13_145 rfl (by decide) (by decide) ?_
  rintro r77 T78 L79 X80 ⟨rfl, N75, B76⟩
  show Go p e below _ (T78.setTop (mkF m 148 #[.val (.ref a), .val (.int (1 : Int32)), .val (.int (2 : Int32)), .val (.int (3 : Int32)), .val (.int (1 : Int32)), .val (.int (-1 : Int32)), .val (.int (0 : Int32)), .val (.int (2 : Int32)), .val (.int (3 : Int32)), .val (.int (-1 : Int32)), .val (.int (0 : Int32))] [(.int (2 : Int32))]))
  refine Go.istore (Ls' := #[.val (.ref a), .val (.int (1 : Int32)), .val (.int (2 : Int32)), .val (.int (3 : Int32)), .val (.int (2 : Int32)), .val (.int (-1 : Int32)), .val (.int (0 : Int32)), .val (.int (2 : Int32)), .val (.int (3 : Int32)), .val (.int (-1 : Int32)), .val (.int (0 : Int32))]) (pc' := 150) X80 hx hby d13_148 rfl rfl ?_
  refine Go.goto (pc' := 160) X80 hx hby d13_150 (by decide) (by decide) ?_
  refine Go.goto (pc' := 269) X80 hx hby d13_160 (by decide) (by decide) ?_
  refine Go.goto (pc' := 12) X80 hx hby d13_269 (by decide) (by decide) ?_
  refine Go.iload (pc' := 14) X80 hx hby d13_12 rfl rfl ?_
  refine Go.ifN (pc' := 17) X80 hx hby d13_14 rfl (show ¬ ((2 : Int32) ≤ 0) from by decide) ?_
  refine Go.iload (pc' := 19) X80 hx hby d13_17 rfl rfl ?_
  refine Go.iconst (pc' := 20) X80 hx hby d13_19 rfl (v := (1 : Int32)) (by decide) ?_
  refine Go.isub (pc' := 21) X80 hx hby d13_20 rfl ?_
  change Go p e below _ (T78.setTop (mkF m 21 #[.val (.ref a), .val (.int (1 : Int32)), .val (.int (2 : Int32)), .val (.int (3 : Int32)), .val (.int (2 : Int32)), .val (.int (-1 : Int32)), .val (.int (0 : Int32)), .val (.int (2 : Int32)), .val (.int (3 : Int32)), .val (.int (-1 : Int32)), .val (.int (0 : Int32))] [(.int (1 : Int32))]))
  refine Go.istore (Ls' := #[.val (.ref a), .val (.int (1 : Int32)), .val (.int (2 : Int32)), .val (.int (3 : Int32)), .val (.int (2 : Int32)), .val (.int (-1 : Int32)), .val (.int (1 : Int32)), .val (.int (2 : Int32)), .val (.int (3 : Int32)), .val (.int (-1 : Int32)), .val (.int (0 : Int32))]) (pc' := 23) X80 hx hby d13_21 rfl rfl ?_
  refine Go.aloadN (pc' := 24) X80 hx hby d13_23 rfl rfl rfl ?_
  refine Go.getF (pc' := 27) X80 hx hby hZ hown (hw _ (List.mem_of_getElem? (i := 44) rfl)) Via.refl rfl B76.f7 d13_24 rfl ?_
  intro T81 X82 e83
  show Go p e below _ (T81.setTop (mkF m 27 #[.val (.ref a), .val (.int (1 : Int32)), .val (.int (2 : Int32)), .val (.int (3 : Int32)), .val (.int (2 : Int32)), .val (.int (-1 : Int32)), .val (.int (1 : Int32)), .val (.int (2 : Int32)), .val (.int (3 : Int32)), .val (.int (-1 : Int32)), .val (.int (0 : Int32))] [(.ref (d 7))]))
  refine Go.iload (pc' := 29) X82 hx hby d13_27 rfl rfl ?_
  refine Go.iaload (pc' := 30) (i := 1) (v := (.int (0 : Int32))) X82 hx hby hZ e83 B76.a7 d13_29 rfl (by decide) (by decide) (by decide) rfl ?_
  refine Go.istore (Ls' := #[.val (.ref a), .val (.int (1 : Int32)), .val (.int (2 : Int32)), .val (.int (3 : Int32)), .val (.int (2 : Int32)), .val (.int (-1 : Int32)), .val (.int (1 : Int32)), .val (.int (0 : Int32)), .val (.int (3 : Int32)), .val (.int (-1 : Int32)), .val (.int (0 : Int32))]) (pc' := 32) X82 hx hby d13_30 rfl rfl ?_
  refine Go.aloadN (pc' := 33) X82 hx hby d13_32 rfl rfl rfl ?_
  refine Go.getF (pc' := 36) X82 hx hby hZ hown (hw _ (List.mem_of_getElem? (i := 46) rfl)) Via.refl e83 B76.f8 d13_33 rfl ?_
  intro T84 X85 e86
  show Go p e below _ (T84.setTop (mkF m 36 #[.val (.ref a), .val (.int (1 : Int32)), .val (.int (2 : Int32)), .val (.int (3 : Int32)), .val (.int (2 : Int32)), .val (.int (-1 : Int32)), .val (.int (1 : Int32)), .val (.int (0 : Int32)), .val (.int (3 : Int32)), .val (.int (-1 : Int32)), .val (.int (0 : Int32))] [(.ref (d 8))]))
  refine Go.iload (pc' := 38) X85 hx hby d13_36 rfl rfl ?_
  refine Go.iaload (pc' := 39) (i := 1) (v := (.int (3 : Int32))) X85 hx hby hZ e86 B76.a8 d13_38 rfl (by decide) (by decide) (by decide) rfl ?_
  refine Go.istore (Ls' := #[.val (.ref a), .val (.int (1 : Int32)), .val (.int (2 : Int32)), .val (.int (3 : Int32)), .val (.int (2 : Int32)), .val (.int (-1 : Int32)), .val (.int (1 : Int32)), .val (.int (0 : Int32)), .val (.int (3 : Int32)), .val (.int (-1 : Int32)), .val (.int (0 : Int32))]) (pc' := 41) X85 hx hby d13_39 rfl rfl ?_
  refine Go.aloadN (pc' := 42) X85 hx hby d13_41 rfl rfl rfl ?_
  refine Go.getF (pc' := 45) X85 hx hby hZ hown (hw _ (List.mem_of_getElem? (i := 52) rfl)) Via.refl e86 B76.f11 d13_42 rfl ?_
  intro T87 X88 e89
  show Go p e below _ (T87.setTop (mkF m 45 #[.val (.ref a), .val (.int (1 : Int32)), .val (.int (2 : Int32)), .val (.int (3 : Int32)), .val (.int (2 : Int32)), .val (.int (-1 : Int32)), .val (.int (1 : Int32)), .val (.int (0 : Int32)), .val (.int (3 : Int32)), .val (.int (-1 : Int32)), .val (.int (0 : Int32))] [(.ref (d 11))]))
  refine Go.iload (pc' := 47) X88 hx hby d13_45 rfl rfl ?_
  refine Go.iaload (pc' := 48) (i := 1) (v := (.int (0 : Int32))) X88 hx hby hZ e89 B76.a11 d13_47 rfl (by decide) (by decide) (by decide) rfl ?_
  refine Go.ifN (pc' := 51) X88 hx hby d13_48 rfl (show ¬ ((0 : Int32) ≠ 0) from by decide) ?_
  refine Go.iloadN (pc' := 52) X88 hx hby d13_51 rfl rfl ?_
  refine Go.iload (pc' := 54) X88 hx hby d13_52 rfl rfl ?_
  refine Go.iload (pc' := 56) X88 hx hby d13_54 rfl rfl ?_
  refine Go.callS (pc' := 59) (W := 0) (argsL := [(.int (1 : Int32)), (.int (0 : Int32)), (.int (3 : Int32))]) (rest := []) X88 hx hby hZ hown (hw _ (List.mem_of_getElem? (i := 120) rfl)) (hw _ (List.mem_of_getElem? (i := 121) rfl)) (hw _ (List.mem_of_getElem? (i := 4) rfl)) (hw _ (List.mem_of_getElem? (i := 122) rfl)) (by decide) (rx40 l Z a0 hw  (1 : Int32) (0 : Int32) (3 : Int32) T78.heap rfl rfl rfl) e89 (by decide) (by decide) (by rw [hml]; rfl) pd_8 rfl rfl rfl (Nat.le_of_eq rfl) d13_56 rfl (by decide) (by decide) ?_
  rintro r91 T92 L93 X94 ⟨rfl, rfl, e90⟩
  rw [List.append_nil] at X94
  show Go p e below _ (T92.setTop (mkF m 59 #[.val (.ref a), .val (.int (1 : Int32)), .val (.int (2 : Int32)), .val (.int (3 : Int32)), .val (.int (2 : Int32)), .val (.int (-1 : Int32)), .val (.int (1 : Int32)), .val (.int (0 : Int32)), .val (.int (3 : Int32)), .val (.int (-1 : Int32)), .val (.int (0 : Int32))] [(.int (3 : Int32))]))
  refine Go.istore (Ls' := #[.val (.ref a), .val (.int (1 : Int32)), .val (.int (2 : Int32)), .val (.int (3 : Int32)), .val (.int (2 : Int32)), .val (.int (-1 : Int32)), .val (.int (1 : Int32)), .val (.int (0 : Int32)), .val (.int (3 : Int32)), .val (.int (3 : Int32)), .val (.int (0 : Int32))]) (pc' := 61) X94 hx hby d13_59 rfl rfl ?_
  refine Go.iload (pc' := 63) X94 hx hby d13_61 rfl rfl ?_
  refine Go.iconst (pc' := 64) X94 hx hby d13_63 rfl (v := (-1 : Int32)) (by decide) ?_
  refine Go.icmpY (pc' := 82) X94 hx hby d13_64 (by decide) (by decide) (show (3 : Int32) ≠ (-1 : Int32) from by decide) ?_
  refine Go.iload (pc' := 84) X94 hx hby d13_82 rfl rfl ?_
  refine Go.iconst (pc' := 85) X94 hx hby d13_84 rfl (v := (-1 : Int32)) (by decide) ?_
  refine Go.icmpY (pc' := 153) X94 hx hby d13_85 (by decide) (by decide) (show (3 : Int32) ≠ (-1 : Int32) from by decide) ?_
  refine Go.iload (pc' := 155) X94 hx hby d13_153 rfl rfl ?_
  refine Go.istore (Ls' := #[.val (.ref a), .val (.int (1 : Int32)), .val (.int (2 : Int32)), .val (.int (3 : Int32)), .val (.int (2 : Int32)), .val (.int (3 : Int32)), .val (.int (1 : Int32)), .val (.int (0 : Int32)), .val (.int (3 : Int32)), .val (.int (3 : Int32)), .val (.int (0 : Int32))]) (pc' := 157) X94 hx hby d13_155 rfl rfl ?_
  refine Go.iinc (w := (2 : Int32) + (-1 : Int32)) (Ls' := #[.val (.ref a), .val (.int (1 : Int32)), .val (.int (2 : Int32)), .val (.int (3 : Int32)), .val (.int ((2 : Int32) + (-1 : Int32))), .val (.int (3 : Int32)), .val (.int (1 : Int32)), .val (.int (0 : Int32)), .val (.int (3 : Int32)), .val (.int (3 : Int32)), .val (.int (0 : Int32))]) (pc' := 160) X94 hx hby d13_157 rfl rfl rfl rfl ?_
  change Go p e below _ (T92.setTop (mkF m 160 #[.val (.ref a), .val (.int (1 : Int32)), .val (.int (2 : Int32)), .val (.int (3 : Int32)), .val (.int (1 : Int32)), .val (.int (3 : Int32)), .val (.int (1 : Int32)), .val (.int (0 : Int32)), .val (.int (3 : Int32)), .val (.int (3 : Int32)), .val (.int (0 : Int32))] []))
  refine Go.goto (pc' := 269) X94 hx hby d13_160 (by decide) (by decide) ?_
  refine Go.goto (pc' := 12) X94 hx hby d13_269 (by decide) (by decide) ?_
  refine Go.iload (pc' := 14) X94 hx hby d13_12 rfl rfl ?_
  refine Go.ifN (pc' := 17) X94 hx hby d13_14 rfl (show ¬ ((1 : Int32) ≤ 0) from by decide) ?_
  refine Go.iload (pc' := 19) X94 hx hby d13_17 rfl rfl ?_
  refine Go.iconst (pc' := 20) X94 hx hby d13_19 rfl (v := (1 : Int32)) (by decide) ?_
  refine Go.isub (pc' := 21) X94 hx hby d13_20 rfl ?_
  change Go p e below _ (T92.setTop (mkF m 21 #[.val (.ref a), .val (.int (1 : Int32)), .val (.int (2 : Int32)), .val (.int (3 : Int32)), .val (.int (1 : Int32)), .val (.int (3 : Int32)), .val (.int (1 : Int32)), .val (.int (0 : Int32)), .val (.int (3 : Int32)), .val (.int (3 : Int32)), .val (.int (0 : Int32))] [(.int (0 : Int32))]))
  refine Go.istore (Ls' := #[.val (.ref a), .val (.int (1 : Int32)), .val (.int (2 : Int32)), .val (.int (3 : Int32)), .val (.int (1 : Int32)), .val (.int (3 : Int32)), .val (.int (0 : Int32)), .val (.int (0 : Int32)), .val (.int (3 : Int32)), .val (.int (3 : Int32)), .val (.int (0 : Int32))]) (pc' := 23) X94 hx hby d13_21 rfl rfl ?_
  refine Go.aloadN (pc' := 24) X94 hx hby d13_23 rfl rfl rfl ?_
  refine Go.getF (pc' := 27) X94 hx hby hZ hown (hw _ (List.mem_of_getElem? (i := 44) rfl)) Via.refl e90 B76.f7 d13_24 rfl ?_
  intro T95 X96 e97
  show Go p e below _ (T95.setTop (mkF m 27 #[.val (.ref a), .val (.int (1 : Int32)), .val (.int (2 : Int32)), .val (.int (3 : Int32)), .val (.int (1 : Int32)), .val (.int (3 : Int32)), .val (.int (0 : Int32)), .val (.int (0 : Int32)), .val (.int (3 : Int32)), .val (.int (3 : Int32)), .val (.int (0 : Int32))] [(.ref (d 7))]))
  refine Go.iload (pc' := 29) X96 hx hby d13_27 rfl rfl ?_
  refine Go.iaload (pc' := 30) (i := 0) (v := (.int (2 : Int32))) X96 hx hby hZ e97 B76.a7 d13_29 rfl (by decide) (by decide) (by decide) rfl ?_
  refine Go.istore (Ls' := #[.val (.ref a), .val (.int (1 : Int32)), .val (.int (2 : Int32)), .val (.int (3 : Int32)), .val (.int (1 : Int32)), .val (.int (3 : Int32)), .val (.int (0 : Int32)), .val (.int (2 : Int32)), .val (.int (3 : Int32)), .val (.int (3 : Int32)), .val (.int (0 : Int32))]) (pc' := 32) X96 hx hby d13_30 rfl rfl ?_
  refine Go.aloadN (pc' := 33) X96 hx hby d13_32 rfl rfl rfl ?_
  refine Go.getF (pc' := 36) X96 hx hby hZ hown (hw _ (List.mem_of_getElem? (i := 46) rfl)) Via.refl e97 B76.f8 d13_33 rfl ?_
  intro T98 X99 e100
  show Go p e below _ (T98.setTop (mkF m 36 #[.val (.ref a), .val (.int (1 : Int32)), .val (.int (2 : Int32)), .val (.int (3 : Int32)), .val (.int (1 : Int32)), .val (.int (3 : Int32)), .val (.int (0 : Int32)), .val (.int (2 : Int32)), .val (.int (3 : Int32)), .val (.int (3 : Int32)), .val (.int (0 : Int32))] [(.ref (d 8))]))
  refine Go.iload (pc' := 38) X99 hx hby d13_36 rfl rfl ?_
  refine Go.iaload (pc' := 39) (i := 0) (v := (.int (3 : Int32))) X99 hx hby hZ e100 B76.a8 d13_38 rfl (by decide) (by decide) (by decide) rfl ?_
  refine Go.istore (Ls' := #[.val (.ref a), .val (.int (1 : Int32)), .val (.int (2 : Int32)), .val (.int (3 : Int32)), .val (.int (1 : Int32)), .val (.int (3 : Int32)), .val (.int (0 : Int32)), .val (.int (2 : Int32)), .val (.int (3 : Int32)), .val (.int (3 : Int32)), .val (.int (0 : Int32))]) (pc' := 41) X99 hx hby d13_39 rfl rfl ?_
  refine Go.aloadN (pc' := 42) X99 hx hby d13_41 rfl rfl rfl ?_
  refine Go.getF (pc' := 45) X99 hx hby hZ hown (hw _ (List.mem_of_getElem? (i := 52) rfl)) Via.refl e100 B76.f11 d13_42 rfl ?_
  intro T101 X102 e103
  show Go p e below _ (T101.setTop (mkF m 45 #[.val (.ref a), .val (.int (1 : Int32)), .val (.int (2 : Int32)), .val (.int (3 : Int32)), .val (.int (1 : Int32)), .val (.int (3 : Int32)), .val (.int (0 : Int32)), .val (.int (2 : Int32)), .val (.int (3 : Int32)), .val (.int (3 : Int32)), .val (.int (0 : Int32))] [(.ref (d 11))]))
  refine Go.iload (pc' := 47) X102 hx hby d13_45 rfl rfl ?_
  refine Go.iaload (pc' := 48) (i := 0) (v := (.int (1 : Int32))) X102 hx hby hZ e103 B76.a11 d13_47 rfl (by decide) (by decide) (by decide) rfl ?_
  refine Go.ifY (pc' := 163) X102 hx hby d13_48 (by decide) (by decide) (show (1 : Int32) ≠ 0 from by decide) ?_
  refine Go.aloadN (pc' := 164) X102 hx hby d13_163 rfl rfl rfl ?_
  refine Go.getF (pc' := 167) X102 hx hby hZ hown (hw _ (List.mem_of_getElem? (i := 52) rfl)) Via.refl e103 B76.f11 d13_164 rfl ?_
  intro T104 X105 e106
  show Go p e below _ (T104.setTop (mkF m 167 #[.val (.ref a), .val (.int (1 : Int32)), .val (.int (2 : Int32)), .val (.int (3 : Int32)), .val (.int (1 : Int32)), .val (.int (3 : Int32)), .val (.int (0 : Int32)), .val (.int (2 : Int32)), .val (.int (3 : Int32)), .val (.int (3 : Int32)), .val (.int (0 : Int32))] [(.ref (d 11))]))
  refine Go.iload (pc' := 169) X105 hx hby d13_167 rfl rfl ?_
  refine Go.iaload (pc' := 170) (i := 0) (v := (.int (1 : Int32))) X105 hx hby hZ e106 B76.a11 d13_169 rfl (by decide) (by decide) (by decide) rfl ?_
  refine Go.iconst (pc' := 171) X105 hx hby d13_170 rfl (v := (1 : Int32)) (by decide) ?_
  refine Go.icmpN (pc' := 174) X105 hx hby d13_171 rfl (show ¬ ((1 : Int32) ≠ (1 : Int32)) from by decide) ?_
  refine Go.aloadN (pc' := 175) X105 hx hby d13_174 rfl rfl rfl ?_
  refine Go.getF (pc' := 178) X105 hx hby hZ hown (hw _ (List.mem_of_getElem? (i := 48) rfl)) Via.refl e106 B76.f9 d13_175 rfl ?_
  intro T107 X108 e109
  show Go p e below _ (T107.setTop (mkF m 178 #[.val (.ref a), .val (.int (1 : Int32)), .val (.int (2 : Int32)), .val (.int (3 : Int32)), .val (.int (1 : Int32)), .val (.int (3 : Int32)), .val (.int (0 : Int32)), .val (.int (2 : Int32)), .val (.int (3 : Int32)), .val (.int (3 : Int32)), .val (.int (0 : Int32))] [(.ref (d 9))]))
  refine Go.iload (pc' := 180) X108 hx hby d13_178 rfl rfl ?_
  refine Go.iaload (pc' := 181) (i := 0) (v := (.int (0 : Int32))) X108 hx hby hZ e109 B76.a9 d13_180 rfl (by decide) (by decide) (by decide) rfl ?_
  refine Go.istore (Ls' := #[.val (.ref a), .val (.int (1 : Int32)), .val (.int (2 : Int32)), .val (.int (3 : Int32)), .val (.int (1 : Int32)), .val (.int (3 : Int32)), .val (.int (0 : Int32)), .val (.int (2 : Int32)), .val (.int (3 : Int32)), .val (.int (0 : Int32)), .val (.int (0 : Int32))]) (pc' := 183) X108 hx hby d13_181 rfl rfl ?_
  refine Go.aloadN (pc' := 184) X108 hx hby d13_183 rfl rfl rfl ?_
  refine Go.getF (pc' := 187) X108 hx hby hZ hown (hw _ (List.mem_of_getElem? (i := 50) rfl)) Via.refl e109 B76.f10 d13_184 rfl ?_
  intro T110 X111 e112
  show Go p e below _ (T110.setTop (mkF m 187 #[.val (.ref a), .val (.int (1 : Int32)), .val (.int (2 : Int32)), .val (.int (3 : Int32)), .val (.int (1 : Int32)), .val (.int (3 : Int32)), .val (.int (0 : Int32)), .val (.int (2 : Int32)), .val (.int (3 : Int32)), .val (.int (0 : Int32)), .val (.int (0 : Int32))] [(.ref (d 10))]))
  refine Go.iload (pc' := 189) X111 hx hby d13_187 rfl rfl ?_
  refine Go.iload (pc' := 191) X111 hx hby d13_189 rfl rfl ?_
  refine Go.iastore (pc' := 192) (i := 0) X111 hx hby hZ e112 B76.a10 d13_191 rfl (by decide) (by decide) (by decide) ?_
  intro T113 h114 X115 e116 W117 A118
  have N120 : Fr n0 _ := Fr.snoc X115 (Fr.app (Fr.app (Fr.app N62 N63) N69) N75) (B76.2.1 10 (by decide))
  have B119 : OwnB Z h114 n0 a q0 q1 d (5 : Int32) vr (own_up (own_up (own_up (own_up (own_up (own_up (own_up (own_up (own_up f 7 0 (.int (2 : Int32))) 8 0 (.int (3 : Int32))) 11 0 (.int (0 : Int32))) 9 0 (.int (0 : Int32))) 11 0 (.int (1 : Int32))) 7 1 (.int (0 : Int32))) 8 1 (.int (3 : Int32))) 11 1 (.int (0 : Int32))) 10 0 (.int (3 : Int32))) := B76.st hw (k := 10) (by decide) W117 A118
  show Go p e below _ (T113.setTop (mkF m 192 #[.val (.ref a), .val (.int (1 : Int32)), .val (.int (2 : Int32)), .val (.int (3 : Int32)), .val (.int (1 : Int32)), .val (.int (3 : Int32)), .val (.int (0 : Int32)), .val (.int (2 : Int32)), .val (.int (3 : Int32)), .val (.int (0 : Int32)), .val (.int (0 : Int32))] []))
  refine Go.aloadN (pc' := 193) X115 hx hby d13_192 rfl rfl rfl ?_
  refine Go.getF (pc' := 196) X115 hx hby hZ hown (hw _ (List.mem_of_getElem? (i := 52) rfl)) Via.refl e116 B119.f11 d13_193 rfl ?_
  intro T121 X122 e123
  show Go p e below _ (T121.setTop (mkF m 196 #[.val (.ref a), .val (.int (1 : Int32)), .val (.int (2 : Int32)), .val (.int (3 : Int32)), .val (.int (1 : Int32)), .val (.int (3 : Int32)), .val (.int (0 : Int32)), .val (.int (2 : Int32)), .val (.int (3 : Int32)), .val (.int (0 : Int32)), .val (.int (0 : Int32))] [(.ref (d 11))]))
  refine Go.iload (pc' := 198) X122 hx hby d13_196 rfl rfl ?_
  refine Go.iconst (pc' := 199) X122 hx hby d13_198 rfl (v := (2 : Int32)) (by decide) ?_
  refine Go.iastore (pc' := 200) (i := 0) X122 hx hby hZ e123 B119.a11 d13_199 rfl (by decide) (by decide) (by decide) ?_
  intro T124 h125 X126 e127 W128 A129
  have N131 : Fr n0 _ := Fr.snoc X126 N120 (B119.2.1 11 (by decide))
  have B130 : OwnB Z h125 n0 a q0 q1 d (5 : Int32) vr (own_up (own_up (own_up (own_up (own_up (own_up (own_up (own_up (own_up (own_up f 7 0 (.int (2 : Int32))) 8 0 (.int (3 : Int32))) 11 0 (.int (0 : Int32))) 9 0 (.int (0 : Int32))) 11 0 (.int (1 : Int32))) 7 1 (.int (0 : Int32))) 8 1 (.int (3 : Int32))) 11 1 (.int (0 : Int32))) 10 0 (.int (3 : Int32))) 11 0 (.int (2 : Int32))) := B119.st hw (k := 11) (by decide) W128 A129
  show Go p e below _ (T124.setTop (mkF m 200 #[.val (.ref a), .val (.int (1 : Int32)), .val (.int (2 : Int32)), .val (.int (3 : Int32)), .val (.int (1 : Int32)), .val (.int (3 : Int32)), .val (.int (0 : Int32)), .val (.int (2 : Int32)), .val (.int (3 : Int32)), .val (.int (0 : Int32)), .val (.int (0 : Int32))] []))
  refine Go.aloadN (pc' := 201) X126 hx hby d13_200 rfl rfl rfl ?_
  refine Go.iload (pc' := 203) X126 hx hby d13_201 rfl rfl ?_
  refine Go.aloadN (pc' := 204) X126 hx hby d13_203 rfl rfl rfl ?_
  refine Go.iload (pc' := 206) X126 hx hby d13_204 rfl rfl ?_
  refine Go.iload (pc' := 208) X126 hx hby d13_206 rfl rfl ?_
  refine Go.iconst (pc' := 209) X126 hx hby d13_208 rfl (v := (1 : Int32)) (by decide) ?_
  refine Go.callP (C := "com/example/glacis/glacis/analysis/Bdd") (pc' := 212) (a := a) (W := 2) (argsL := [(.int (2 : Int32)), (.int (0 : Int32)), (.int (1 : Int32))]) (rest := [(.int (1 : Int32)), (.ref a)]) X126 hx hby hZ hown (hw _ (List.mem_of_getElem? (i := 129) rfl)) (hw _ (List.mem_of_getElem? (i := 130) rfl)) (own_sel (w := (⟨"com/example/glacis/glacis/analysis/Bdd", "test", "(I)I"⟩ : MethodName)) (y := (⟨"com/example/glacis/glacis/analysis/Bdd", "cofactor", "(IIZ)I"⟩ : MethodName)) (hw _ (List.mem_of_getElem? (i := 84) rfl)) rfl (hw _ (List.mem_of_getElem? (i := 131) rfl)) (hw _ (List.mem_of_getElem? (i := 130) rfl)) (by decide)) (hw _ (List.mem_of_getElem? (i := 131) rfl)) (hw _ (List.mem_of_getElem? (i := 4) rfl)) (hw _ (List.mem_of_getElem? (i := 132) rfl)) (by decide) (rx26 l Z a0 hw a (2 : Int32) (0 : Int32) (1 : Int32) h125 n0 q0 q1 d (5 : Int32) vr (own_up (own_up (own_up (own_up (own_up (own_up (own_up (own_up (own_up (own_up f 7 0 (.int (2 : Int32))) 8 0 (.int (3 : Int32))) 11 0 (.int (0 : Int32))) 9 0 (.int (0 : Int32))) 11 0 (.int (1 : Int32))) 7 1 (.int (0 : Int32))) 8 1 (.int (3 : Int32))) 11 1 (.int (0 : Int32))) 10 0 (.int (3 : Int32))) 11 0 (.int (2 : Int32))) rfl rfl rfl B130 r_0_2 r_2_2) e127 B130.2.2.2.2.1 (by decide) (by decide) (by rw [hml]; rfl) pd_10 rfl rfl rfl (Nat.le_of_eq rfl) d13_209 rfl (by decide) (by decide) ?_
  rintro r134 T135 L136 X137 ⟨rfl, N132, B133⟩
  show Go p e below _ (T135.setTop (mkF m 212 #[.val (.ref a), .val (.int (1 : Int32)), .val (.int (2 : Int32)), .val (.int (3 : Int32)), .val (.int (1 : Int32)), .val (.int (3 : Int32)), .val (.int (0 : Int32)), .val (.int (2 : Int32)), .val (.int (3 : Int32)), .val (.int (0 : Int32)), .val (.int (0 : Int32))] [(.int (1 : Int32)), (.int (1 : Int32)), (.ref a)]))
  refine Go.aloadN (pc' := 213) X137 hx hby d13_212 rfl rfl rfl ?_
  refine Go.iload (pc' := 215) X137 hx hby d13_213 rfl rfl ?_
  refine Go.iload (pc' := 217) X137 hx hby d13_215 rfl rfl ?_
  refine Go.iconst (pc' := 218) X137 hx hby d13_217 rfl (v := (1 : Int32)) (by decide) ?_
  refine Go.callP (C := "com/example/glacis/glacis/analysis/Bdd") (pc' := 221) (a := a) (W := 3) (argsL := [(.int (3 : Int32)), (.int (0 : Int32)), (.int (1 : Int32))]) (rest := [(.int (1 : Int32)), (.int (1 : Int32)), (.ref a)]) X137 hx hby hZ hown (hw _ (List.mem_of_getElem? (i := 129) rfl)) (hw _ (List.mem_of_getElem? (i := 130) rfl)) (own_sel (w := (⟨"com/example/glacis/glacis/analysis/Bdd", "test", "(I)I"⟩ : MethodName)) (y := (⟨"com/example/glacis/glacis/analysis/Bdd", "cofactor", "(IIZ)I"⟩ : MethodName)) (hw _ (List.mem_of_getElem? (i := 84) rfl)) rfl (hw _ (List.mem_of_getElem? (i := 131) rfl)) (hw _ (List.mem_of_getElem? (i := 130) rfl)) (by decide)) (hw _ (List.mem_of_getElem? (i := 131) rfl)) (hw _ (List.mem_of_getElem? (i := 4) rfl)) (hw _ (List.mem_of_getElem? (i := 132) rfl)) (by decide) (rx27 l Z a0 hw a (3 : Int32) (0 : Int32) (1 : Int32) T135.heap n0 q0 q1 d (5 : Int32) vr (own_up (own_up (own_up (own_up (own_up (own_up (own_up (own_up (own_up (own_up f 7 0 (.int (2 : Int32))) 8 0 (.int (3 : Int32))) 11 0 (.int (0 : Int32))) 9 0 (.int (0 : Int32))) 11 0 (.int (1 : Int32))) 7 1 (.int (0 : Int32))) 8 1 (.int (3 : Int32))) 11 1 (.int (0 : Int32))) 10 0 (.int (3 : Int32))) 11 0 (.int (2 : Int32))) rfl rfl rfl B133 r_0_3) rfl B133.2.2.2.2.1 (by decide) (by decide) (by rw [hml]; rfl) pd_10 rfl rfl rfl (Nat.le_of_eq rfl) d13_218 rfl (by decide) (by decide) ?_
  rintro r140 T141 L142 X143 ⟨rfl, N138, B139⟩
  show Go p e below _ (T141.setTop (mkF m 221 #[.val (.ref a), .val (.int (1 : Int32)), .val (.int (2 : Int32)), .val (.int (3 : Int32)), .val (.int (1 : Int32)), .val (.int (3 : Int32)), .val (.int (0 : Int32)), .val (.int (2 : Int32)), .val (.int (3 : Int32)), .val (.int (0 : Int32)), .val (.int (0 : Int32))] [(.int (3 : Int32)), (.int (1 : Int32)), (.int (1 : Int32)), (.ref a)]))
  refine Go.callP (C := "com/example/glacis/glacis/analysis/Bdd") (pc' := 224) (a := a) (W := 0) (argsL := [(.int (1 : Int32)), (.int (1 : Int32)), (.int (3 : Int32))]) (rest := []) X143 hx hby hZ hown (hw _ (List.mem_of_getElem? (i := 109) rfl)) (hw _ (List.mem_of_getElem? (i := 110) rfl)) (own_sel (w := (⟨"com/example/glacis/glacis/analysis/Bdd", "test", "(I)I"⟩ : MethodName)) (y := (⟨"com/example/glacis/glacis/analysis/Bdd", "push", "(III)I"⟩ : MethodName)) (hw _ (List.mem_of_getElem? (i := 84) rfl)) rfl (hw _ (List.mem_of_getElem? (i := 111) rfl)) (hw _ (List.mem_of_getElem? (i := 110) rfl)) (by decide)) (hw _ (List.mem_of_getElem? (i := 111) rfl)) (hw _ (List.mem_of_getElem? (i := 4) rfl)) (hw _ (List.mem_of_getElem? (i := 112) rfl)) (by decide) (rx28 l Z a0 hw a (1 : Int32) (1 : Int32) (3 : Int32) T141.heap n0 q0 q1 d (5 : Int32) vr (own_up (own_up (own_up (own_up (own_up (own_up (own_up (own_up (own_up (own_up f 7 0 (.int (2 : Int32))) 8 0 (.int (3 : Int32))) 11 0 (.int (0 : Int32))) 9 0 (.int (0 : Int32))) 11 0 (.int (1 : Int32))) 7 1 (.int (0 : Int32))) 8 1 (.int (3 : Int32))) 11 1 (.int (0 : Int32))) 10 0 (.int (3 : Int32))) 11 0 (.int (2 : Int32))) rfl rfl rfl B139 ) rfl B139.2.2.2.2.1 (by decide) (by decide) (by rw [hml]; rfl) pd_8 rfl rfl rfl (Nat.le_of_eq rfl) d13_221 rfl (by decide) (by decide) ?_
  rintro r146 T147 L148 X149 ⟨rfl, N144, B145⟩
  show Go p e below _ (T147.setTop (mkF m 224 #[.val (.ref a), .val (.int (1 : Int32)), .val (.int (2 : Int32)), .val (.int (3 : Int32)), .val (.int (1 : Int32)), .val (.int (3 : Int32)), .val (.int (0 : Int32)), .val (.int (2 : Int32)), .val (.int (3 : Int32)), .val (.int (0 : Int32)), .val (.int (0 : Int32))] [(.int (2 : Int32))]))
  refine Go.istore (Ls' := #[.val (.ref a), .val (.int (1 : Int32)), .val (.int (2 : Int32)), .val (.int (3 : Int32)), .val (.int (2 : Int32)), .val (.int (3 : Int32)), .val (.int (0 : Int32)), .val (.int (2 : Int32)), .val (.int (3 : Int32)), .val (.int (0 : Int32)), .val (.int (0 : Int32))]) (pc' := 226) X149 hx hby d13_224 rfl rfl ?_
  refine Go.goto (pc' := 269) X149 hx hby d13_226 (by decide) (by decide) ?_
  refine Go.goto (pc' := 12) X149 hx hby d13_269 (by decide) (by decide) ?_
  refine Go.iload (pc' := 14) X149 hx hby d13_12 rfl rfl ?_
  refine Go.ifN (pc' := 17) X149 hx hby d13_14 rfl (show ¬ ((2 : Int32) ≤ 0) from by decide) ?_
  refine Go.iload (pc' := 19) X149 hx hby d13_17 rfl rfl ?_
  refine Go.iconst (pc' := 20) X149 hx hby d13_19 rfl (v := (1 : Int32)) (by decide) ?_
  refine Go.isub (pc' := 21) X149 hx hby d13_20 rfl ?_
  change Go p e below _ (T147.setTop (mkF m 21 #[.val (.ref a), .val (.int (1 : Int32)), .val (.int (2 : Int32)), .val (.int (3 : Int32)), .val (.int (2 : Int32)), .val (.int (3 : Int32)), .val (.int (0 : Int32)), .val (.int (2 : Int32)), .val (.int (3 : Int32)), .val (.int (0 : Int32)), .val (.int (0 : Int32))] [(.int (1 : Int32))]))
  refine Go.istore (Ls' := #[.val (.ref a), .val (.int (1 : Int32)), .val (.int (2 : Int32)), .val (.int (3 : Int32)), .val (.int (2 : Int32)), .val (.int (3 : Int32)), .val (.int (1 : Int32)), .val (.int (2 : Int32)), .val (.int (3 : Int32)), .val (.int (0 : Int32)), .val (.int (0 : Int32))]) (pc' := 23) X149 hx hby d13_21 rfl rfl ?_
  refine Go.aloadN (pc' := 24) X149 hx hby d13_23 rfl rfl rfl ?_
  refine Go.getF (pc' := 27) X149 hx hby hZ hown (hw _ (List.mem_of_getElem? (i := 44) rfl)) Via.refl rfl B145.f7 d13_24 rfl ?_
  intro T150 X151 e152
  show Go p e below _ (T150.setTop (mkF m 27 #[.val (.ref a), .val (.int (1 : Int32)), .val (.int (2 : Int32)), .val (.int (3 : Int32)), .val (.int (2 : Int32)), .val (.int (3 : Int32)), .val (.int (1 : Int32)), .val (.int (2 : Int32)), .val (.int (3 : Int32)), .val (.int (0 : Int32)), .val (.int (0 : Int32))] [(.ref (d 7))]))
  refine Go.iload (pc' := 29) X151 hx hby d13_27 rfl rfl ?_
  refine Go.iaload (pc' := 30) (i := 1) (v := (.int (1 : Int32))) X151 hx hby hZ e152 B145.a7 d13_29 rfl (by decide) (by decide) (by decide) rfl ?_
  refine Go.istore (Ls' := #[.val (.ref a), .val (.int (1 : Int32)), .val (.int (2 : Int32)), .val (.int (3 : Int32)), .val (.int (2 : Int32)), .val (.int (3 : Int32)), .val (.int (1 : Int32)), .val (.int (1 : Int32)), .val (.int (3 : Int32)), .val (.int (0 : Int32)), .val (.int (0 : Int32))]) (pc' := 32) X151 hx hby d13_30 rfl rfl ?_
  refine Go.aloadN (pc' := 33) X151 hx hby d13_32 rfl rfl rfl ?_
  refine Go.getF (pc' := 36) X151 hx hby hZ hown (hw _ (List.mem_of_getElem? (i := 46) rfl)) Via.refl e152 B145.f8 d13_33 rfl ?_
  intro T153 X154 e155
  show Go p e below _ (T153.setTop (mkF m 36 #[.val (.ref a), .val (.int (1 : Int32)), .val (.int (2 : Int32)), .val (.int (3 : Int32)), .val (.int (2 : Int32)), .val (.int (3 : Int32)), .val (.int (1 : Int32)), .val (.int (1 : Int32)), .val (.int (3 : Int32)), .val (.int (0 : Int32)), .val (.int (0 : Int32))] [(.ref (d 8))]))
  refine Go.iload (pc' := 38) X154 hx hby d13_36 rfl rfl ?_
  refine Go.iaload (pc' := 39) (i := 1) (v := (.int (3 : Int32))) X154 hx hby hZ e155 B145.a8 d13_38 rfl (by decide) (by decide) (by decide) rfl ?_
  refine Go.istore (Ls' := #[.val (.ref a), .val (.int (1 : Int32)), .val (.int (2 : Int32)), .val (.int (3 : Int32)), .val (.int (2 : Int32)), .val (.int (3 : Int32)), .val (.int (1 : Int32)), .val (.int (1 : Int32)), .val (.int (3 : Int32)), .val (.int (0 : Int32)), .val (.int (0 : Int32))]) (pc' := 41) X154 hx hby d13_39 rfl rfl ?_
  refine Go.aloadN (pc' := 42) X154 hx hby d13_41 rfl rfl rfl ?_
  refine Go.getF (pc' := 45) X154 hx hby hZ hown (hw _ (List.mem_of_getElem? (i := 52) rfl)) Via.refl e155 B145.f11 d13_42 rfl ?_
  intro T156 X157 e158
  show Go p e below _ (T156.setTop (mkF m 45 #[.val (.ref a), .val (.int (1 : Int32)), .val (.int (2 : Int32)), .val (.int (3 : Int32)), .val (.int (2 : Int32)), .val (.int (3 : Int32)), .val (.int (1 : Int32)), .val (.int (1 : Int32)), .val (.int (3 : Int32)), .val (.int (0 : Int32)), .val (.int (0 : Int32))] [(.ref (d 11))]))
  refine Go.iload (pc' := 47) X157 hx hby d13_45 rfl rfl ?_
  refine Go.iaload (pc' := 48) (i := 1) (v := (.int (0 : Int32))) X157 hx hby hZ e158 B145.a11 d13_47 rfl (by decide) (by decide) (by decide) rfl ?_
  refine Go.ifN (pc' := 51) X157 hx hby d13_48 rfl (show ¬ ((0 : Int32) ≠ 0) from by decide) ?_
  refine Go.iloadN (pc' := 52) X157 hx hby d13_51 rfl rfl ?_
  refine Go.iload (pc' := 54) X157 hx hby d13_52 rfl rfl ?_
  refine Go.iload (pc' := 56) X157 hx hby d13_54 rfl rfl ?_
  refine Go.callS (pc' := 59) (W := 0) (argsL := [(.int (1 : Int32)), (.int (1 : Int32)), (.int (3 : Int32))]) (rest := []) X157 hx hby hZ hown (hw _ (List.mem_of_getElem? (i := 120) rfl)) (hw _ (List.mem_of_getElem? (i := 121) rfl)) (hw _ (List.mem_of_getElem? (i := 4) rfl)) (hw _ (List.mem_of_getElem? (i := 122) rfl)) (by decide) (rx41 l Z a0 hw  (1 : Int32) (1 : Int32) (3 : Int32) T147.heap rfl rfl rfl) e158 (by decide) (by decide) (by rw [hml]; rfl) pd_8 rfl rfl rfl (Nat.le_of_eq rfl) d13_56 rfl (by decide) (by decide) ?_
  rintro r160 T161 L162 X163 ⟨rfl, rfl, e159⟩
  rw [List.append_nil] at X163
  show Go p e below _ (T161.setTop (mkF m 59 #[.val (.ref a), .val (.int (1 : Int32)), .val (.int (2 : Int32)), .val (.int (3 : Int32)), .val (.int (2 : Int32)), .val (.int (3 : Int32)), .val (.int (1 : Int32)), .val (.int (1 : Int32)), .val (.int (3 : Int32)), .val (.int (0 : Int32)), .val (.int (0 : Int32))] [(.int (1 : Int32))]))
  refine Go.istore (Ls' := #[.val (.ref a), .val (.int (1 : Int32)), .val (.int (2 : Int32)), .val (.int (3 : Int32)), .val (.int (2 : Int32)), .val (.int (3 : Int32)), .val (.int (1 : Int32)), .val (.int (1 : Int32)), .val (.int (3 : Int32)), .val (.int (1 : Int32)), .val (.int (0 : Int32))]) (pc' := 61) X163 hx hby d13_59 rfl rfl ?_
  refine Go.iload (pc' := 63) X163 hx hby d13_61 rfl rfl ?_
  refine Go.iconst (pc' := 64) X163 hx hby d13_63 rfl (v := (-1 : Int32)) (by decide) ?_
  refine Go.icmpY (pc' := 82) X163 hx hby d13_64 (by decide) (by decide) (show (1 : Int32) ≠ (-1 : Int32) from by decide) ?_
  refine Go.iload (pc' := 84) X163 hx hby d13_82 rfl rfl ?_
  refine Go.iconst (pc' := 85) X163 hx hby d13_84 rfl (v := (-1 : Int32)) (by decide) ?_
  refine Go.icmpY (pc' := 153) X163 hx hby d13_85 (by decide) (by decide) (show (1 : Int32) ≠ (-1 : Int32) from by decide) ?_
  refine Go.iload (pc' := 155) X163 hx hby d13_153 rfl rfl ?_
  refine Go.istore (Ls' := #[.val (.ref a), .val (.int (1 : Int32)), .val (.int (2 : Int32)), .val (.int (3 : Int32)), .val (.int (2 : Int32)), .val (.int (1 : Int32)), .val (.int (1 : Int32)), .val (.int (1 : Int32)), .val (.int (3 : Int32)), .val (.int (1 : Int32)), .val (.int (0 : Int32))]) (pc' := 157) X163 hx hby d13_155 rfl rfl ?_
  refine Go.iinc (w := (2 : Int32) + (-1 : Int32)) (Ls' := #[.val (.ref a), .val (.int (1 : Int32)), .val (.int (2 : Int32)), .val (.int (3 : Int32)), .val (.int ((2 : Int32) + (-1 : Int32))), .val (.int (1 : Int32)), .val (.int (1 : Int32)), .val (.int (1 : Int32)), .val (.int (3 : Int32)), .val (.int (1 : Int32)), .val (.int (0 : Int32))]) (pc' := 160) X163 hx hby d13_157 rfl rfl rfl rfl ?_
  change Go p e below _ (T161.setTop (mkF m 160 #[.val (.ref a), .val (.int (1 : Int32)), .val (.int (2 : Int32)), .val (.int (3 : Int32)), .val (.int (1 : Int32)), .val (.int (1 : Int32)), .val (.int (1 : Int32)), .val (.int (1 : Int32)), .val (.int (3 : Int32)), .val (.int (1 : Int32)), .val (.int (0 : Int32))] []))
  refine Go.goto (pc' := 269) X163 hx hby d13_160 (by decide) (by decide) ?_
  refine Go.goto (pc' := 12) X163 hx hby d13_269 (by decide) (by decide) ?_
  refine Go.iload (pc' := 14) X163 hx hby d13_12 rfl rfl ?_
  refine Go.ifN (pc' := 17) X163 hx hby d13_14 rfl (show ¬ ((1 : Int32) ≤ 0) from by decide) ?_
  refine Go.iload (pc' := 19) X163 hx hby d13_17 rfl rfl ?_
  refine Go.iconst (pc' := 20) X163 hx hby d13_19 rfl (v := (1 : Int32)) (by decide) ?_
  refine Go.isub (pc' := 21) X163 hx hby d13_20 rfl ?_
  change Go p e below _ (T161.setTop (mkF m 21 #[.val (.ref a), .val (.int (1 : Int32)), .val (.int (2 : Int32)), .val (.int (3 : Int32)), .val (.int (1 : Int32)), .val (.int (1 : Int32)), .val (.int (1 : Int32)), .val (.int (1 : Int32)), .val (.int (3 : Int32)), .val (.int (1 : Int32)), .val (.int (0 : Int32))] [(.int (0 : Int32))]))
  refine Go.istore (Ls' := #[.val (.ref a), .val (.int (1 : Int32)), .val (.int (2 : Int32)), .val (.int (3 : Int32)), .val (.int (1 : Int32)), .val (.int (1 : Int32)), .val (.int (0 : Int32)), .val (.int (1 : Int32)), .val (.int (3 : Int32)), .val (.int (1 : Int32)), .val (.int (0 : Int32))]) (pc' := 23) X163 hx hby d13_21 rfl rfl ?_
  refine Go.aloadN (pc' := 24) X163 hx hby d13_23 rfl rfl rfl ?_
  refine Go.getF (pc' := 27) X163 hx hby hZ hown (hw _ (List.mem_of_getElem? (i := 44) rfl)) Via.refl e159 B145.f7 d13_24 rfl ?_
  intro T164 X165 e166
  show Go p e below _ (T164.setTop (mkF m 27 #[.val (.ref a), .val (.int (1 : Int32)), .val (.int (2 : Int32)), .val (.int (3 : Int32)), .val (.int (1 : Int32)), .val (.int (1 : Int32)), .val (.int (0 : Int32)), .val (.int (1 : Int32)), .val (.int (3 : Int32)), .val (.int (1 : Int32)), .val (.int (0 : Int32))] [(.ref (d 7))]))
  refine Go.iload (pc' := 29) X165 hx hby d13_27 rfl rfl ?_
  refine Go.iaload (pc' := 30) (i := 0) (v := (.int (2 : Int32))) X165 hx hby hZ e166 B145.a7 d13_29 rfl (by decide) (by decide) (by decide) rfl ?_
  refine Go.istore (Ls' := #[.val (.ref a), .val (.int (1 : Int32)), .val (.int (2 : Int32)), .val (.int (3 : Int32)), .val (.int (1 : Int32)), .val (.int (1 : Int32)), .val (.int (0 : Int32)), .val (.int (2 : Int32)), .val (.int (3 : Int32)), .val (.int (1 : Int32)), .val (.int (0 : Int32))]) (pc' := 32) X165 hx hby d13_30 rfl rfl ?_
  refine Go.aloadN (pc' := 33) X165 hx hby d13_32 rfl rfl rfl ?_
  refine Go.getF (pc' := 36) X165 hx hby hZ hown (hw _ (List.mem_of_getElem? (i := 46) rfl)) Via.refl e166 B145.f8 d13_33 rfl ?_
  intro T167 X168 e169
  show Go p e below _ (T167.setTop (mkF m 36 #[.val (.ref a), .val (.int (1 : Int32)), .val (.int (2 : Int32)), .val (.int (3 : Int32)), .val (.int (1 : Int32)), .val (.int (1 : Int32)), .val (.int (0 : Int32)), .val (.int (2 : Int32)), .val (.int (3 : Int32)), .val (.int (1 : Int32)), .val (.int (0 : Int32))] [(.ref (d 8))]))
  refine Go.iload (pc' := 38) X168 hx hby d13_36 rfl rfl ?_
  refine Go.iaload (pc' := 39) (i := 0) (v := (.int (3 : Int32))) X168 hx hby hZ e169 B145.a8 d13_38 rfl (by decide) (by decide) (by decide) rfl ?_
  refine Go.istore (Ls' := #[.val (.ref a), .val (.int (1 : Int32)), .val (.int (2 : Int32)), .val (.int (3 : Int32)), .val (.int (1 : Int32)), .val (.int (1 : Int32)), .val (.int (0 : Int32)), .val (.int (2 : Int32)), .val (.int (3 : Int32)), .val (.int (1 : Int32)), .val (.int (0 : Int32))]) (pc' := 41) X168 hx hby d13_39 rfl rfl ?_
  refine Go.aloadN (pc' := 42) X168 hx hby d13_41 rfl rfl rfl ?_
  refine Go.getF (pc' := 45) X168 hx hby hZ hown (hw _ (List.mem_of_getElem? (i := 52) rfl)) Via.refl e169 B145.f11 d13_42 rfl ?_
  intro T170 X171 e172
  show Go p e below _ (T170.setTop (mkF m 45 #[.val (.ref a), .val (.int (1 : Int32)), .val (.int (2 : Int32)), .val (.int (3 : Int32)), .val (.int (1 : Int32)), .val (.int (1 : Int32)), .val (.int (0 : Int32)), .val (.int (2 : Int32)), .val (.int (3 : Int32)), .val (.int (1 : Int32)), .val (.int (0 : Int32))] [(.ref (d 11))]))
  refine Go.iload (pc' := 47) X171 hx hby d13_45 rfl rfl ?_
  refine Go.iaload (pc' := 48) (i := 0) (v := (.int (2 : Int32))) X171 hx hby hZ e172 B145.a11 d13_47 rfl (by decide) (by decide) (by decide) rfl ?_
  refine Go.ifY (pc' := 163) X171 hx hby d13_48 (by decide) (by decide) (show (2 : Int32) ≠ 0 from by decide) ?_
  refine Go.aloadN (pc' := 164) X171 hx hby d13_163 rfl rfl rfl ?_
  refine Go.getF (pc' := 167) X171 hx hby hZ hown (hw _ (List.mem_of_getElem? (i := 52) rfl)) Via.refl e172 B145.f11 d13_164 rfl ?_
  intro T173 X174 e175
  show Go p e below _ (T173.setTop (mkF m 167 #[.val (.ref a), .val (.int (1 : Int32)), .val (.int (2 : Int32)), .val (.int (3 : Int32)), .val (.int (1 : Int32)), .val (.int (1 : Int32)), .val (.int (0 : Int32)), .val (.int (2 : Int32)), .val (.int (3 : Int32)), .val (.int (1 : Int32)), .val (.int (0 : Int32))] [(.ref (d 11))]))
  refine Go.iload (pc' := 169) X174 hx hby d13_167 rfl rfl ?_
  refine Go.iaload (pc' := 170) (i := 0) (v := (.int (2 : Int32))) X174 hx hby hZ e175 B145.a11 d13_169 rfl (by decide) (by decide) (by decide) rfl ?_
  refine Go.iconst (pc' := 171) X174 hx hby d13_170 rfl (v := (1 : Int32)) (by decide) ?_
  refine Go.icmpY (pc' := 229) X174 hx hby d13_171 (by decide) (by decide) (show (2 : Int32) ≠ (1 : Int32) from by decide) ?_
  refine Go.aloadN (pc' := 230) X174 hx hby d13_229 rfl rfl rfl ?_
  refine Go.aloadN (pc' := 231) X174 hx hby d13_230 rfl rfl rfl ?_
  refine Go.getF (pc' := 234) X174 hx hby hZ hown (hw _ (List.mem_of_getElem? (i := 48) rfl)) Via.refl e175 B145.f9 d13_231 rfl ?_
  intro T176 X177 e178
  show Go p e below _ (T176.setTop (mkF m 234 #[.val (.ref a), .val (.int (1 : Int32)), .val (.int (2 : Int32)), .val (.int (3 : Int32)), .val (.int (1 : Int32)), .val (.int (1 : Int32)), .val (.int (0 : Int32)), .val (.int (2 : Int32)), .val (.int (3 : Int32)), .val (.int (1 : Int32)), .val (.int (0 : Int32))] [(.ref (d 9)), (.ref a)]))
  refine Go.iload (pc' := 236) X177 hx hby d13_234 rfl rfl ?_
  refine Go.iaload (pc' := 237) (i := 0) (v := (.int (0 : Int32))) X177 hx hby hZ e178 B145.a9 d13_236 rfl (by decide) (by decide) (by decide) rfl ?_
  refine Go.aloadN (pc' := 238) X177 hx hby d13_237 rfl rfl rfl ?_
  refine Go.getF (pc' := 241) X177 hx hby hZ hown (hw _ (List.mem_of_getElem? (i := 50) rfl)) Via.refl e178 B145.f10 d13_238 rfl ?_
  intro T179 X180 e181
  show Go p e below _ (T179.setTop (mkF m 241 #[.val (.ref a), .val (.int (1 : Int32)), .val (.int (2 : Int32)), .val (.int (3 : Int32)), .val (.int (1 : Int32)), .val (.int (1 : Int32)), .val (.int (0 : Int32)), .val (.int (2 : Int32)), .val (.int (3 : Int32)), .val (.int (1 : Int32)), .val (.int (0 : Int32))] [(.ref (d 10)), (.int (0 : Int32)), (.ref a)]))
  refine Go.iload (pc' := 243) X180 hx hby d13_241 rfl rfl ?_
  refine Go.iaload (pc' := 244) (i := 0) (v := (.int (3 : Int32))) X180 hx hby hZ e181 B145.a10 d13_243 rfl (by decide) (by decide) (by decide) rfl ?_
  refine Go.iload (pc' := 246) X180 hx hby d13_244 rfl rfl ?_
  refine Go.callP (C := "com/example/glacis/glacis/analysis/Bdd") (pc' := 249) (a := a) (W := 0) (argsL := [(.int (0 : Int32)), (.int (3 : Int32)), (.int (1 : Int32))]) (rest := []) X180 hx hby hZ hown (hw _ (List.mem_of_getElem? (i := 86) rfl)) (hw _ (List.mem_of_getElem? (i := 87) rfl)) (own_sel (w := (⟨"com/example/glacis/glacis/analysis/Bdd", "test", "(I)I"⟩ : MethodName)) (y := (⟨"com/example/glacis/glacis/analysis/Bdd", "node", "(III)I"⟩ : MethodName)) (hw _ (List.mem_of_getElem? (i := 84) rfl)) rfl (hw _ (List.mem_of_getElem? (i := 88) rfl)) (hw _ (List.mem_of_getElem? (i := 87) rfl)) (by decide)) (hw _ (List.mem_of_getElem? (i := 88) rfl)) (hw _ (List.mem_of_getElem? (i := 4) rfl)) (hw _ (List.mem_of_getElem? (i := 89) rfl)) (by decide) (rx42 l Z a0 hw a (0 : Int32) (3 : Int32) (1 : Int32) T147.heap n0 q0 q1 d (5 : Int32) vr (own_up (own_up (own_up (own_up (own_up (own_up (own_up (own_up (own_up (own_up (own_up (own_up (own_up f 7 0 (.int (2 : Int32))) 8 0 (.int (3 : Int32))) 11 0 (.int (0 : Int32))) 9 0 (.int (0 : Int32))) 11 0 (.int (1 : Int32))) 7 1 (.int (0 : Int32))) 8 1 (.int (3 : Int32))) 11 1 (.int (0 : Int32))) 10 0 (.int (3 : Int32))) 11 0 (.int (2 : Int32))) 7 1 (.int (1 : Int32))) 8 1 (.int (3 : Int32))) 11 1 (.int (0 : Int32))) rfl rfl rfl B145 rfl r_4_334) e181 B145.2.2.2.2.1 (by decide) (by decide) (by rw [hml]; rfl) pd_8 rfl rfl rfl (Nat.le_of_eq rfl) d13_246 rfl (by decide) (by decide) ?_
  rintro r184 T185 L186 X187 ⟨rfl, N182, B183⟩
  show Go p e below _ (T185.setTop (mkF m 249 #[.val (.ref a), .val (.int (1 : Int32)), .val (.int (2 : Int32)), .val (.int (3 : Int32)), .val (.int (1 : Int32)), .val (.int (1 : Int32)), .val (.int (0 : Int32)), .val (.int (2 : Int32)), .val (.int (3 : Int32)), .val (.int (1 : Int32)), .val (.int (0 : Int32))] [(.int (5 : Int32))]))
  refine Go.istore (Ls' := #[.val (.ref a), .val (.int (1 : Int32)), .val (.int (2 : Int32)), .val (.int (3 : Int32)), .val (.int (1 : Int32)), .val (.int (5 : Int32)), .val (.int (0 : Int32)), .val (.int (2 : Int32)), .val (.int (3 : Int32)), .val (.int (1 : Int32)), .val (.int (0 : Int32))]) (pc' := 251) X187 hx hby d13_249 rfl rfl ?_
  refine Go.aloadN (pc' := 252) X187 hx hby d13_251 rfl rfl rfl ?_
  refine Go.getF (pc' := 255) X187 hx hby hZ hown (hw _ (List.mem_of_getElem? (i := 42) rfl)) Via.refl rfl B183.f6 d13_252 rfl ?_
  intro T188 X189 e190
  show Go p e below _ (T188.setTop (mkF m 255 #[.val (.ref a), .val (.int (1 : Int32)), .val (.int (2 : Int32)), .val (.int (3 : Int32)), .val (.int (1 : Int32)), .val (.int (5 : Int32)), .val (.int (0 : Int32)), .val (.int (2 : Int32)), .val (.int (3 : Int32)), .val (.int (1 : Int32)), .val (.int (0 : Int32))] [(.ref (d 6))]))
  refine Go.iloadN (pc' := 256) X189 hx hby d13_255 rfl rfl ?_
  refine Go.aaload (pc' := 257) (i := 1) (v := (.ref q1)) X189 hx hby hZ e190 B183.a6 rfl d13_256 rfl (by decide) (by decide) (by decide) r_6_1 ?_
  refine Go.iload (pc' := 259) X189 hx hby d13_257 rfl rfl ?_
  refine Go.iload (pc' := 261) X189 hx hby d13_259 rfl rfl ?_
  refine Go.iload (pc' := 263) X189 hx hby d13_261 rfl rfl ?_
  refine Go.callV (C := "com/example/glacis/glacis/analysis/Bdd$Computed") (pc' := 266) (a := q1) (W := 0) (argsL := [(.int (2 : Int32)), (.int (3 : Int32)), (.int (5 : Int32))]) (rest := []) X189 hx hby hZ hown (hw _ (List.mem_of_getElem? (i := 133) rfl)) (hw _ (List.mem_of_getElem? (i := 134) rfl)) (notFace_of_selects (args := #[]) (mvT hZ (hw _ (List.mem_of_getElem? (i := 136) rfl)))) (hw _ (List.mem_of_getElem? (i := 136) rfl)) (hw _ (List.mem_of_getElem? (i := 135) rfl)) (hw _ (List.mem_of_getElem? (i := 30) rfl)) (hw _ (List.mem_of_getElem? (i := 137) rfl)) (by decide) (rx45 l Z a0 hw q1 (2 : Int32) (3 : Int32) (5 : Int32) T185.heap n0 a q0 d (6 : Int32) vr (own_up (own_up (own_up (own_up (own_up (own_up (own_up (own_up (own_up (own_up (own_up (own_up (own_up (own_up (own_up (own_up (own_up (own_up f 7 0 (.int (2 : Int32))) 8 0 (.int (3 : Int32))) 11 0 (.int (0 : Int32))) 9 0 (.int (0 : Int32))) 11 0 (.int (1 : Int32))) 7 1 (.int (0 : Int32))) 8 1 (.int (3 : Int32))) 11 1 (.int (0 : Int32))) 10 0 (.int (3 : Int32))) 11 0 (.int (2 : Int32))) 7 1 (.int (1 : Int32))) 8 1 (.int (3 : Int32))) 11 1 (.int (0 : Int32))) 0 5 (.int (0 : Int32))) 1 5 (.int (3 : Int32))) 2 5 (.int (1 : Int32))) 3 5 (.int (-1 : Int32))) 4 334 (.int (5 : Int32))) rfl rfl rfl B183 ) e190 B183.2.2.2.2.2.2.1 (by decide) (by decide) (by rw [hml]; rfl) pd_9 rfl rfl rfl (Nat.le_of_eq rfl) d13_263 rfl (by decide) (by decide) ?_
  rintro r193 T194 L195 X196 ⟨rfl, N191, B192⟩
  show Go p e below _ (T194.setTop (mkF m 266 #[.val (.ref a), .val (.int (1 : Int32)), .val (.int (2 : Int32)), .val (.int (3 : Int32)), .val (.int (1 : Int32)), .val (.int (5 : Int32)), .val (.int (0 : Int32)), .val (.int (2 : Int32)), .val (.int (3 : Int32)), .val (.int (1 : Int32)), .val (.int (0 : Int32))] []))
  refine Go.iinc (w := (1 : Int32) + (-1 : Int32)) (Ls' := #[.val (.ref a), .val (.int (1 : Int32)), .val (.int (2 : Int32)), .val (.int (3 : Int32)), .val (.int ((1 : Int32) + (-1 : Int32))), .val (.int (5 : Int32)), .val (.int (0 : Int32)), .val (.int (2 : Int32)), .val (.int (3 : Int32)), .val (.int (1 : Int32)), .val (.int (0 : Int32))]) (pc' := 269) X196 hx hby d13_266 rfl rfl rfl rfl ?_
  change Go p e below _ (T194.setTop (mkF m 269 #[.val (.ref a), .val (.int (1 : Int32)), .val (.int (2 : Int32)), .val (.int (3 : Int32)), .val (.int (0 : Int32)), .val (.int (5 : Int32)), .val (.int (0 : Int32)), .val (.int (2 : Int32)), .val (.int (3 : Int32)), .val (.int (1 : Int32)), .val (.int (0 : Int32))] []))
  refine Go.goto (pc' := 12) X196 hx hby d13_269 (by decide) (by decide) ?_
  refine Go.iload (pc' := 14) X196 hx hby d13_12 rfl rfl ?_
  refine Go.ifY (pc' := 272) X196 hx hby d13_14 (by decide) (by decide) (show (0 : Int32) ≤ 0 from by decide) ?_
  refine Go.iload (pc' := 274) X196 hx hby d13_272 rfl rfl ?_
  exact Go.retI X196 hx hby hlk hret d13_274 (by decide) (by decide) ⟨rfl, (Fr.app (Fr.app (Fr.app (Fr.app (Fr.app N131 N132) N138) N144) N182) N191), B192⟩
theorem d21_0 : decode prog_2_method_5_code 0 = .ok (.aload_n 0, 1) := by decide +kernel
theorem d21_1 : decode prog_2_method_5_code 1 = .ok (.iconst 1, 1) := by decide +kernel
theorem d21_2 : decode prog_2_method_5_code 2 = .ok (.iload_n 1, 1) := by decide +kernel
theorem d21_3 : decode prog_2_method_5_code 3 = .ok (.iload_n 2, 1) := by decide +kernel
theorem d21_4 : decode prog_2_method_5_code 4 = .ok (.invokevirtual 85, 3) := by decide +kernel
theorem d21_7 : decode prog_2_method_5_code 7 = .ok (.ireturn, 1) := by decide +kernel
theorem ef_21 (m : MethodId) (x0 : Addr) (x1 : Int32) (x2 : Int32) : entryFrame m #[(.ref x0), (.int x1), (.int x2)] 3 = mkF m 0 #[.val (.ref x0), .val (.int x1), .val (.int x2)] [] := by first | (simp [entryFrame, mkF, argsToLocals, Value.category]; done) | rfl
set_option maxRecDepth 65536 in
set_option maxHeartbeats 40000000 in
theorem rx36 (l : Launch) (Z : State) (a0 : Array Value) (hw : ∀ d ∈ tables_1, d.before a0 Z = true) (a : Addr) (x0 : Int32) (x1 : Int32) (h0 : Heap) (n0 : Nat) (q0 q1 : Addr) (d : Nat → Addr) (sz vr : Int32) (f : Nat → Int → Value) (e0_ : x0 = 2) (e1_ : x1 = 3) (B : OwnB Z h0 n0 a q0 q1 d sz vr f) (hsz : sz = 5) (r_6_1 : f 6 1 = (.ref q1)) (r_15_675 : f 15 675 = (.int (-1 : Int32))) (r_0_2 : f 0 2 = (.int (0 : Int32))) (r_0_3 : f 0 3 = (.int (1 : Int32))) (r_1_2 : f 1 2 = (.int (0 : Int32))) (r_2_2 : f 2 2 = (.int (1 : Int32))) (r_4_334 : f 4 334 = (.int (-1 : Int32))) :
    Con l Z (⟨"com/example/glacis/glacis/analysis/Bdd", "or", "(II)I"⟩ : MethodName) prog_2_method_5_code 3 (some .int) [] ({ frames := 4, cells := 0, slots := 0, locals := 71 } : Room) #[(.ref a), (.int x0), (.int x1)] h0 (fun v h L => v = some (.int (5 : Int32)) ∧ Fr n0 L ∧ OwnB Z h n0 a q0 q1 d (6 : Int32) vr (own_up (own_up (own_up (own_up (own_up (own_up (own_up (own_up (own_up (own_up (own_up (own_up (own_up (own_up (own_up (own_up (own_up (own_up (own_up (own_up (own_up f 7 0 (.int (2 : Int32))) 8 0 (.int (3 : Int32))) 11 0 (.int (0 : Int32))) 9 0 (.int (0 : Int32))) 11 0 (.int (1 : Int32))) 7 1 (.int (0 : Int32))) 8 1 (.int (3 : Int32))) 11 1 (.int (0 : Int32))) 10 0 (.int (3 : Int32))) 11 0 (.int (2 : Int32))) 7 1 (.int (1 : Int32))) 8 1 (.int (3 : Int32))) 11 1 (.int (0 : Int32))) 0 5 (.int (0 : Int32))) 1 5 (.int (3 : Int32))) 2 5 (.int (1 : Int32))) 3 5 (.int (-1 : Int32))) 4 334 (.int (5 : Int32))) 15 675 (.int (2 : Int32))) 16 675 (.int (3 : Int32))) 17 675 (.int (5 : Int32)))) := by
  refine Con.of (plainFor_of_name pn_Bdd) ?_
  intro p e s m below meth c s₁ hx hby hml hown hnm hret hlk hZ X0 e0
  refine Go.cast (ef_21 m a x0 x1) ?_
  replace hown : s.vm.findClass "com/example/glacis/glacis/analysis/Bdd" = some m.cls := hown
  subst e0_ e1_ hsz
  show Go p e below _ (s₁.setTop (mkF m 0 #[.val (.ref a), .val (.int (2 : Int32)), .val (.int (3 : Int32))] []))
  refine Go.aloadN (pc' := 1) X0 hx hby d21_0 rfl rfl rfl ?_
  refine Go.iconst (pc' := 2) X0 hx hby d21_1 rfl (v := (1 : Int32)) (by decide) ?_
  refine Go.iloadN (pc' := 3) X0 hx hby d21_2 rfl rfl ?_
  refine Go.iloadN (pc' := 4) X0 hx hby d21_3 rfl rfl ?_
  refine Go.callP (C := "com/example/glacis/glacis/analysis/Bdd") (pc' := 7) (a := a) (W := 0) (argsL := [(.int (1 : Int32)), (.int (2 : Int32)), (.int (3 : Int32))]) (rest := []) X0 hx hby hZ hown (hw _ (List.mem_of_getElem? (i := 105) rfl)) (hw _ (List.mem_of_getElem? (i := 106) rfl)) (own_sel (w := (⟨"com/example/glacis/glacis/analysis/Bdd", "test", "(I)I"⟩ : MethodName)) (y := (⟨"com/example/glacis/glacis/analysis/Bdd", "apply", "(III)I"⟩ : MethodName)) (hw _ (List.mem_of_getElem? (i := 84) rfl)) rfl (hw _ (List.mem_of_getElem? (i := 107) rfl)) (hw _ (List.mem_of_getElem? (i := 106) rfl)) (by decide)) (hw _ (List.mem_of_getElem? (i := 107) rfl)) (hw _ (List.mem_of_getElem? (i := 4) rfl)) (hw _ (List.mem_of_getElem? (i := 108) rfl)) (by decide) (rx37 l Z a0 hw a (1 : Int32) (2 : Int32) (3 : Int32) h0 n0 q0 q1 d (5 : Int32) vr f rfl rfl rfl B rfl r_6_1 r_15_675 r_0_2 r_0_3 r_1_2 r_2_2 r_4_334) e0 B.2.2.2.2.1 (by decide) (by decide) (by rw [hml]; rfl) pd_8 rfl rfl rfl (Nat.le_of_eq rfl) d21_4 rfl (by decide) (by decide) ?_
  rintro r3 T4 L5 X6 ⟨rfl, N1, B2⟩
  show Go p e below _ (T4.setTop (mkF m 7 #[.val (.ref a), .val (.int (2 : Int32)), .val (.int (3 : Int32))] [(.int (5 : Int32))]))
  exact Go.retI X6 hx hby hlk hret d21_7 (by decide) (by decide) ⟨rfl, (Fr.app (Fr.nil _) N1), B2⟩
theorem own_0 : (0 : Int32).toInt = 0 := by decide
theorem own_toS (i : Int32) (h0 : 0 ≤ i.toInt) (h : i.toInt < 2147483647) : (i + 1).toInt = i.toInt + 1 := by
  have a := c_iadd i 1; have r := rng32 (i + 1); have o : (1 : Int32).toInt = 1 := by decide
  rw [o] at a; omega
theorem d4_0 : decode jdk_65_method_103_code 0 = .ok (.iconst 0, 1) := by decide +kernel
theorem d4_1 : decode jdk_65_method_103_code 1 = .ok (.istore_n 2, 1) := by decide +kernel
theorem d4_2 : decode jdk_65_method_103_code 2 = .ok (.aload_n 0, 1) := by decide +kernel
theorem d4_3 : decode jdk_65_method_103_code 3 = .ok (.arraylength, 1) := by decide +kernel
theorem d4_4 : decode jdk_65_method_103_code 4 = .ok (.istore_n 3, 1) := by decide +kernel
theorem d4_5 : decode jdk_65_method_103_code 5 = .ok (.iload_n 2, 1) := by decide +kernel
theorem d4_6 : decode jdk_65_method_103_code 6 = .ok (.iload_n 3, 1) := by decide +kernel
theorem d4_7 : decode jdk_65_method_103_code 7 = .ok (.if_icmp .ge 13, 3) := by decide +kernel
theorem d4_10 : decode jdk_65_method_103_code 10 = .ok (.aload_n 0, 1) := by decide +kernel
theorem d4_11 : decode jdk_65_method_103_code 11 = .ok (.iload_n 2, 1) := by decide +kernel
theorem d4_12 : decode jdk_65_method_103_code 12 = .ok (.iload_n 1, 1) := by decide +kernel
theorem d4_13 : decode jdk_65_method_103_code 13 = .ok (.iastore, 1) := by decide +kernel
theorem d4_14 : decode jdk_65_method_103_code 14 = .ok (.iinc 2 1, 3) := by decide +kernel
theorem d4_17 : decode jdk_65_method_103_code 17 = .ok (.goto (-12), 3) := by decide +kernel
theorem d4_20 : decode jdk_65_method_103_code 20 = .ok (.return_, 1) := by decide +kernel
theorem ef_4 (m : MethodId) (x0 : Addr) (x1 : Int32) : entryFrame m #[(.ref x0), (.int x1)] 4 = mkF m 0 #[.val (.ref x0), .val (.int x1), .unset, .unset] [] := by first | (simp [entryFrame, mkF, argsToLocals, Value.category]; done) | rfl
theorem pn_Arrays : plainName "java/util/Arrays" = true := by first | (simp [plainName, overriddenIn]; done) | decide +kernel
set_option maxRecDepth 65536 in
set_option maxHeartbeats 40000000 in
theorem rmF (l : Launch) (Z : State) (a0 : Array Value) (hw : ∀ d ∈ tables_1, d.before a0 Z = true) (b : Addr) (x1 : Int32) (h0 : Heap) (n0 : Nat) (z : Int32) (f : Int → Value) (ga : n0 ≤ b) (A0 : Ar Z h0 b .int z.toInt f) :
    Con l Z (⟨"java/util/Arrays", "fill", "([II)V"⟩ : MethodName) jdk_65_method_103_code 4 none [] ({ frames := 0, cells := 0, slots := 0, locals := 0 } : Room) #[(.ref b), (.int x1)] h0 (fun v h L => v = none ∧ Fr n0 L ∧ Keep h0 h [b] ∧ Ar Z h b .int z.toInt (fun _ => .int x1)) := by
  refine Con.of (plainFor_of_name pn_Arrays) ?_
  intro p e s m below meth c s₁ hx hby hml hown hnm hret hlk hZ X0 e0
  refine Go.cast (ef_4 m b x1) ?_
  replace hown : s.vm.findClass "java/util/Arrays" = some m.cls := hown
  refine Go.iconst (pc' := 1) X0 hx hby d4_0 rfl (v := (0 : Int32)) (by decide) ?_
  refine Go.istoreN (Ls' := #[.val (.ref b), .val (.int x1), .val (.int (0 : Int32)), .unset]) (pc' := 2) X0 hx hby d4_1 rfl rfl ?_
  refine Go.aloadN (pc' := 3) X0 hx hby d4_2 rfl rfl rfl ?_
  refine Go.alen (pc' := 4) (zv := z) X0 hx hby hZ e0 A0 d4_3 rfl rfl ?_
  refine Go.istoreN (Ls' := #[.val (.ref b), .val (.int x1), .val (.int (0 : Int32)), .val (.int z)]) (pc' := 5) X0 hx hby d4_4 rfl rfl ?_
  refine Go.loop (α := State × Heap × List Loc × Int32) (F := fun y => y.1.setTop (mkF m 5 #[.val (.ref b), .val (.int x1), .val (.int y.2.2.2), .val (.int z)] [])) (I := fun y => (Stand p l e ({ frames := 0, cells := 0, slots := 0, locals := 0 } : Room) s m #[(.ref b), (.int x1)] below meth c y.1 y.2.2.1 0 0) ∧ (y.1.heap = y.2.1) ∧ (Fr n0 y.2.2.1) ∧ (Keep h0 y.2.1 [b]) ∧ (0 ≤ y.2.2.2.toInt) ∧ (Ar Z y.2.1 b .int z.toInt (fun q => if q < y.2.2.2.toInt then .int x1 else f q))) (μ := fun y => (z.toInt - y.2.2.2.toInt).toNat) ?_ (s₁, h0, [], 0) ⟨X0, e0, (Fr.nil _), Keep.refl _ _, (by decide : (0 : Int) ≤ (0 : Int32).toInt), A0.congr (fun q h1 h2 => by rw [if_neg]; rw [own_0]; omega)⟩
  rintro ⟨T1, h2, L3, i⟩ ⟨X4, e5, N6, K, hi, A⟩ ih
  dsimp only at X4 e5 N6 K hi A
  show Go p e below _ (T1.setTop (mkF m 5 #[.val (.ref b), .val (.int x1), .val (.int i), .val (.int z)] []))
  refine Go.iloadN (pc' := 6) X4 hx hby d4_5 rfl rfl ?_
  refine Go.iloadN (pc' := 7) X4 hx hby d4_6 rfl rfl ?_
  refine Go.icmp (pc' := 20) (pn := 10) X4 hx hby d4_7 (by decide) (by decide) rfl (fun (cz : z ≤ i) => ?_) (fun (cz : ¬ (z ≤ i)) => ?_)
  ·
    rw [Int32.le_iff_toInt_le] at cz
    exact Go.ret0 X4 hx hby hlk hret d4_20 (by decide) (by decide) ⟨rfl, N6, by rw [e5]; exact K, by rw [e5]; exact A.congr (fun q h1 h2 => if_pos (by omega))⟩
  ·
    rw [Int32.le_iff_toInt_le] at cz
    have zr := rng32 z
    refine Go.aloadN (pc' := 11) X4 hx hby d4_10 rfl rfl rfl ?_
    refine Go.iloadN (pc' := 12) X4 hx hby d4_11 rfl rfl ?_
    refine Go.iloadN (pc' := 13) X4 hx hby d4_12 rfl rfl ?_
    refine Go.iastore (pc' := 14) (i := i.toInt) X4 hx hby hZ e5 A d4_13 rfl rfl hi (by omega) ?_
    intro T7 h8 X9 e10 W11 A12
    have e1 := own_toS i hi (by omega)
    show Go p e below _ (T7.setTop (mkF m 14 #[.val (.ref b), .val (.int x1), .val (.int i), .val (.int z)] []))
    refine Go.iinc (w := i + (1 : Int32)) (Ls' := #[.val (.ref b), .val (.int x1), .val (.int (i + (1 : Int32))), .val (.int z)]) (pc' := 17) X9 hx hby d4_14 rfl rfl rfl rfl ?_
    refine Go.goto (pc' := 5) X9 hx hby d4_17 (by decide) (by decide) ?_
    exact ih (T7, h8, _, i + 1) ⟨X9, e10, Fr.snoc X9 N6 ga, K.wr W11 (Or.inl (List.mem_singleton.mpr rfl)), by (try dsimp only); omega, A12.congr (fun q h1 h2 => by (try dsimp only); rw [e1]; by_cases g1 : q = i.toInt <;> by_cases g2 : q < i.toInt <;> simp [g1, g2] <;> omega)⟩ (by (try dsimp only); omega)
theorem d3_0 : decode prog_3_method_1_code 0 = .ok (.aload_n 0, 1) := by decide +kernel
theorem d3_1 : decode prog_3_method_1_code 1 = .ok (.invokespecial 3, 3) := by decide +kernel
theorem d3_4 : decode prog_3_method_1_code 4 = .ok (.aload_n 0, 1) := by decide +kernel
theorem d3_5 : decode prog_3_method_1_code 5 = .ok (.iconst 0, 1) := by decide +kernel
theorem d3_6 : decode prog_3_method_1_code 6 = .ok (.newarray .int, 2) := by decide +kernel
theorem d3_8 : decode prog_3_method_1_code 8 = .ok (.putfield 9, 3) := by decide +kernel
theorem d3_11 : decode prog_3_method_1_code 11 = .ok (.aload_n 0, 1) := by decide +kernel
theorem d3_12 : decode prog_3_method_1_code 12 = .ok (.iconst 0, 1) := by decide +kernel
theorem d3_13 : decode prog_3_method_1_code 13 = .ok (.newarray .int, 2) := by decide +kernel
theorem d3_15 : decode prog_3_method_1_code 15 = .ok (.putfield 15, 3) := by decide +kernel
theorem d3_18 : decode prog_3_method_1_code 18 = .ok (.aload_n 0, 1) := by decide +kernel
theorem d3_19 : decode prog_3_method_1_code 19 = .ok (.iconst 0, 1) := by decide +kernel
theorem d3_20 : decode prog_3_method_1_code 20 = .ok (.newarray .int, 2) := by decide +kernel
theorem d3_22 : decode prog_3_method_1_code 22 = .ok (.putfield 18, 3) := by decide +kernel
theorem d3_25 : decode prog_3_method_1_code 25 = .ok (.return_, 1) := by decide +kernel
theorem d6_0 : decode prog_3_method_4_code 0 = .ok (.aload_n 0, 1) := by decide +kernel
theorem d6_1 : decode prog_3_method_4_code 1 = .ok (.getfield 9, 3) := by decide +kernel
theorem d6_4 : decode prog_3_method_4_code 4 = .ok (.iconst (-1), 1) := by decide +kernel
theorem d6_5 : decode prog_3_method_4_code 5 = .ok (.invokestatic 25, 3) := by decide +kernel
theorem d6_8 : decode prog_3_method_4_code 8 = .ok (.return_, 1) := by decide +kernel
theorem d5_0 : decode prog_3_method_5_code 0 = .ok (.iload_n 1, 1) := by decide +kernel
theorem d5_1 : decode prog_3_method_5_code 1 = .ok (.aload_n 0, 1) := by decide +kernel
theorem d5_2 : decode prog_3_method_5_code 2 = .ok (.getfield 9, 3) := by decide +kernel
theorem d5_5 : decode prog_3_method_5_code 5 = .ok (.arraylength, 1) := by decide +kernel
theorem d5_6 : decode prog_3_method_5_code 6 = .ok (.if_icmp .eq 28, 3) := by decide +kernel
theorem d5_9 : decode prog_3_method_5_code 9 = .ok (.aload_n 0, 1) := by decide +kernel
theorem d5_10 : decode prog_3_method_5_code 10 = .ok (.iload_n 1, 1) := by decide +kernel
theorem d5_11 : decode prog_3_method_5_code 11 = .ok (.newarray .int, 2) := by decide +kernel
theorem d5_13 : decode prog_3_method_5_code 13 = .ok (.putfield 9, 3) := by decide +kernel
theorem d5_16 : decode prog_3_method_5_code 16 = .ok (.aload_n 0, 1) := by decide +kernel
theorem d5_17 : decode prog_3_method_5_code 17 = .ok (.iload_n 1, 1) := by decide +kernel
theorem d5_18 : decode prog_3_method_5_code 18 = .ok (.newarray .int, 2) := by decide +kernel
theorem d5_20 : decode prog_3_method_5_code 20 = .ok (.putfield 15, 3) := by decide +kernel
theorem d5_23 : decode prog_3_method_5_code 23 = .ok (.aload_n 0, 1) := by decide +kernel
theorem d5_24 : decode prog_3_method_5_code 24 = .ok (.iload_n 1, 1) := by decide +kernel
theorem d5_25 : decode prog_3_method_5_code 25 = .ok (.newarray .int, 2) := by decide +kernel
theorem d5_27 : decode prog_3_method_5_code 27 = .ok (.putfield 18, 3) := by decide +kernel
theorem d5_30 : decode prog_3_method_5_code 30 = .ok (.aload_n 0, 1) := by decide +kernel
theorem d5_31 : decode prog_3_method_5_code 31 = .ok (.invokevirtual 31, 3) := by decide +kernel
theorem d5_34 : decode prog_3_method_5_code 34 = .ok (.return_, 1) := by decide +kernel
theorem ef_3 (m : MethodId) (x0 : Addr) : entryFrame m #[(.ref x0)] 1 = mkF m 0 #[.val (.ref x0)] [] := by first | (simp [entryFrame, mkF, argsToLocals, Value.category]; done) | rfl
set_option maxRecDepth 65536 in
set_option maxHeartbeats 40000000 in
theorem rmCI (l : Launch) (Z : State) (a0 : Array Value) (hw : ∀ d ∈ tables_1, d.before a0 Z = true) (a : Addr) (h0 : Heap) (n0 : Nat) (Z0 : n0 ≤ h0.size) (ga : n0 ≤ a) (E0 : Exa Z h0 a "com/example/glacis/glacis/analysis/Bdd$Computed") (F0 : Fld Z h0 a "com/example/glacis/glacis/analysis/Bdd$Computed" "first" "[I" .null) (F1 : Fld Z h0 a "com/example/glacis/glacis/analysis/Bdd$Computed" "second" "[I" .null) (F2 : Fld Z h0 a "com/example/glacis/glacis/analysis/Bdd$Computed" "result" "[I" .null) :
    Con l Z (⟨"com/example/glacis/glacis/analysis/Bdd$Computed", "<init>", "()V"⟩ : MethodName) prog_3_method_1_code 1 none [] ({ frames := 1, cells := 3, slots := 0, locals := 12 } : Room) #[(.ref a)] h0 (fun v h L => ∃ x, v = none ∧ h0.size ≤ x ∧ Fr n0 L ∧ Keep h0 h [a] ∧ Exa Z h a "com/example/glacis/glacis/analysis/Bdd$Computed" ∧ Fld Z h a "com/example/glacis/glacis/analysis/Bdd$Computed" "first" "[I" (.ref x) ∧ (∃ y, Fld Z h a "com/example/glacis/glacis/analysis/Bdd$Computed" "second" "[I" (.ref y)) ∧ (∃ y, Fld Z h a "com/example/glacis/glacis/analysis/Bdd$Computed" "result" "[I" (.ref y)) ∧ Ar Z h x .int 0 (fun _ => .int 0)) := by
  refine Con.of (plainFor_of_name pn_Bdd_Computed) ?_
  intro p e s m below meth c s₁ hx hby hml hown hnm hret hlk hZ X0 e0
  refine Go.cast (ef_3 m a) ?_
  replace hown : s.vm.findClass "com/example/glacis/glacis/analysis/Bdd$Computed" = some m.cls := hown
  have K0 := Keep.refl h0 [a]
  refine Go.aloadN (pc' := 1) X0 hx hby d3_0 rfl rfl rfl ?_
  refine Go.initO (pc' := 4) (W := 0) X0 hx hby hZ hown (hw _ (List.mem_of_getElem? (i := 34) rfl)) (hw _ (List.mem_of_getElem? (i := 9) rfl)) (hw _ (List.mem_of_getElem? (i := 10) rfl)) e0 (by rw [hml]; rfl) d3_1 rfl (by decide) (Nat.le_of_eq rfl) (by decide) ?_
  intro T1 X2 e3
  refine Go.aloadN (pc' := 5) X2 hx hby d3_4 rfl rfl rfl ?_
  refine Go.iconst (pc' := 6) X2 hx hby d3_5 rfl (v := (0 : Int32)) (by decide) ?_
  refine Go.newarr (pc' := 8) (cap := 0) (z := 0) X2 hx hby hZ (hw _ (List.mem_of_getElem? (i := 11) rfl)) e3 d3_6 rfl (by decide) (by decide) (by decide) (by decide) (by decide) (by decide) ?_
  intro b4 T5 h6 g7 X8 e9 E10 A11
  have n12 : a ≠ b4 := Nat.ne_of_lt (by rw [g7]; exact E0.lt)
  have g13 : n0 ≤ b4 := by rw [g7]; exact Z0
  have f14 : Exa Z h6 a "com/example/glacis/glacis/analysis/Bdd$Computed" := Exa.ext E10 E0
  have f15 : Fld Z h6 a "com/example/glacis/glacis/analysis/Bdd$Computed" "first" "[I" .null := Fld.ext E10 F0
  have f16 : Fld Z h6 a "com/example/glacis/glacis/analysis/Bdd$Computed" "second" "[I" .null := Fld.ext E10 F1
  have f17 : Fld Z h6 a "com/example/glacis/glacis/analysis/Bdd$Computed" "result" "[I" .null := Fld.ext E10 F2
  have z18 : n0 ≤ h6.size := Nat.le_trans Z0 E10.1
  have f19 : Ar Z h6 b4 .int 0 (fun _ => (.int 0)) := A11
  show Go p e below _ (T5.setTop (mkF m 8 #[.val (.ref a)] [(.ref b4), (.ref a)]))
  have K1 := K0.ext E10
  have gx : h0.size ≤ b4 := by rw [g7]; exact Nat.le_refl _
  refine Go.putF (pc' := 11) (ty := (.array .int)) X8 hx hby hZ hown (hw _ (List.mem_of_getElem? (i := 35) rfl)) Via.refl e9 f15 f14 (Or.inl (hw _ (List.mem_of_getElem? (i := 36) rfl))) (hw _ (List.mem_of_getElem? (i := 29) rfl)) (by decide) rfl rfl d3_8 rfl ?_
  intro T20 h21 X22 e23 W24
  have f25 : Exa Z h21 a "com/example/glacis/glacis/analysis/Bdd$Computed" := Exa.wr W24 f14
  have f26 : Fld Z h21 a "com/example/glacis/glacis/analysis/Bdd$Computed" "second" "[I" .null := Fld.other W24 f16 (Or.inr (slot_ne (t := (.array .int)) (t' := (.array .int)) (Or.inl (hw _ (List.mem_of_getElem? (i := 38) rfl))) (Or.inl (hw _ (List.mem_of_getElem? (i := 36) rfl))) (by decide) (by decide) (by decide)))
  have f27 : Fld Z h21 a "com/example/glacis/glacis/analysis/Bdd$Computed" "result" "[I" .null := Fld.other W24 f17 (Or.inr (slot_ne (t := (.array .int)) (t' := (.array .int)) (Or.inl (hw _ (List.mem_of_getElem? (i := 40) rfl))) (Or.inl (hw _ (List.mem_of_getElem? (i := 36) rfl))) (by decide) (by decide) (by decide)))
  have f28 : Ar Z h21 b4 .int 0 (fun _ => (.int 0)) := f19.other W24 (Ne.symm n12)
  have z29 : n0 ≤ h21.size := by rw [Wr.size W24]; exact z18
  have f30 : Fld Z h21 a "com/example/glacis/glacis/analysis/Bdd$Computed" "first" "[I" (.ref b4) := Fld.same W24 f15
  have N31 : Fr n0 _ := Fr.snoc X22 (Fr.nil _) ga
  show Go p e below _ (T20.setTop (mkF m 11 #[.val (.ref a)] []))
  have K2 := K1.wr W24 (Or.inl (List.mem_singleton.mpr rfl))
  refine Go.aloadN (pc' := 12) X22 hx hby d3_11 rfl rfl rfl ?_
  refine Go.iconst (pc' := 13) X22 hx hby d3_12 rfl (v := (0 : Int32)) (by decide) ?_
  refine Go.newarr (pc' := 15) (cap := 0) (z := 0) X22 hx hby hZ (hw _ (List.mem_of_getElem? (i := 11) rfl)) e23 d3_13 rfl (by decide) (by decide) (by decide) (by decide) (by decide) (by decide) ?_
  intro b32 T33 h34 g35 X36 e37 E38 A39
  have n40 : a ≠ b32 := Nat.ne_of_lt (by rw [g35]; exact f25.lt)
  have n41 : b4 ≠ b32 := Nat.ne_of_lt (by rw [g35]; exact f28.lt)
  have g42 : n0 ≤ b32 := by rw [g35]; exact z29
  have f43 : Exa Z h34 a "com/example/glacis/glacis/analysis/Bdd$Computed" := Exa.ext E38 f25
  have f44 : Fld Z h34 a "com/example/glacis/glacis/analysis/Bdd$Computed" "first" "[I" (.ref b4) := Fld.ext E38 f30
  have f45 : Fld Z h34 a "com/example/glacis/glacis/analysis/Bdd$Computed" "second" "[I" .null := Fld.ext E38 f26
  have f46 : Fld Z h34 a "com/example/glacis/glacis/analysis/Bdd$Computed" "result" "[I" .null := Fld.ext E38 f27
  have f47 : Ar Z h34 b4 .int 0 (fun _ => (.int 0)) := f28.ext E38
  have z48 : n0 ≤ h34.size := Nat.le_trans z29 E38.1
  have f49 : Ar Z h34 b32 .int 0 (fun _ => (.int 0)) := A39
  show Go p e below _ (T33.setTop (mkF m 15 #[.val (.ref a)] [(.ref b32), (.ref a)]))
  have K3 := K2.ext E38
  refine Go.putF (pc' := 18) (ty := (.array .int)) X36 hx hby hZ hown (hw _ (List.mem_of_getElem? (i := 37) rfl)) Via.refl e37 f45 f43 (Or.inl (hw _ (List.mem_of_getElem? (i := 38) rfl))) (hw _ (List.mem_of_getElem? (i := 29) rfl)) (by decide) rfl rfl d3_15 rfl ?_
  intro T50 h51 X52 e53 W54
  have f55 : Exa Z h51 a "com/example/glacis/glacis/analysis/Bdd$Computed" := Exa.wr W54 f43
  have f56 : Fld Z h51 a "com/example/glacis/glacis/analysis/Bdd$Computed" "first" "[I" (.ref b4) := Fld.other W54 f44 (Or.inr (slot_ne (t := (.array .int)) (t' := (.array .int)) (Or.inl (hw _ (List.mem_of_getElem? (i := 36) rfl))) (Or.inl (hw _ (List.mem_of_getElem? (i := 38) rfl))) (by decide) (by decide) (by decide)))
  have f57 : Fld Z h51 a "com/example/glacis/glacis/analysis/Bdd$Computed" "result" "[I" .null := Fld.other W54 f46 (Or.inr (slot_ne (t := (.array .int)) (t' := (.array .int)) (Or.inl (hw _ (List.mem_of_getElem? (i := 40) rfl))) (Or.inl (hw _ (List.mem_of_getElem? (i := 38) rfl))) (by decide) (by decide) (by decide)))
  have f58 : Ar Z h51 b4 .int 0 (fun _ => (.int 0)) := f47.other W54 (Ne.symm n12)
  have f59 : Ar Z h51 b32 .int 0 (fun _ => (.int 0)) := f49.other W54 (Ne.symm n40)
  have z60 : n0 ≤ h51.size := by rw [Wr.size W54]; exact z48
  have f61 : Fld Z h51 a "com/example/glacis/glacis/analysis/Bdd$Computed" "second" "[I" (.ref b32) := Fld.same W54 f45
  have N62 : Fr n0 _ := Fr.snoc X52 N31 ga
  show Go p e below _ (T50.setTop (mkF m 18 #[.val (.ref a)] []))
  have K4 := K3.wr W54 (Or.inl (List.mem_singleton.mpr rfl))
  refine Go.aloadN (pc' := 19) X52 hx hby d3_18 rfl rfl rfl ?_
  refine Go.iconst (pc' := 20) X52 hx hby d3_19 rfl (v := (0 : Int32)) (by decide) ?_
  refine Go.newarr (pc' := 22) (cap := 0) (z := 0) X52 hx hby hZ (hw _ (List.mem_of_getElem? (i := 11) rfl)) e53 d3_20 rfl (by decide) (by decide) (by decide) (by decide) (by decide) (by decide) ?_
  intro b63 T64 h65 g66 X67 e68 E69 A70
  have n71 : a ≠ b63 := Nat.ne_of_lt (by rw [g66]; exact f55.lt)
  have n72 : b4 ≠ b63 := Nat.ne_of_lt (by rw [g66]; exact f58.lt)
  have n73 : b32 ≠ b63 := Nat.ne_of_lt (by rw [g66]; exact f59.lt)
  have g74 : n0 ≤ b63 := by rw [g66]; exact z60
  have f75 : Exa Z h65 a "com/example/glacis/glacis/analysis/Bdd$Computed" := Exa.ext E69 f55
  have f76 : Fld Z h65 a "com/example/glacis/glacis/analysis/Bdd$Computed" "first" "[I" (.ref b4) := Fld.ext E69 f56
  have f77 : Fld Z h65 a "com/example/glacis/glacis/analysis/Bdd$Computed" "second" "[I" (.ref b32) := Fld.ext E69 f61
  have f78 : Fld Z h65 a "com/example/glacis/glacis/analysis/Bdd$Computed" "result" "[I" .null := Fld.ext E69 f57
  have f79 : Ar Z h65 b4 .int 0 (fun _ => (.int 0)) := f58.ext E69
  have f80 : Ar Z h65 b32 .int 0 (fun _ => (.int 0)) := f59.ext E69
  have z81 : n0 ≤ h65.size := Nat.le_trans z60 E69.1
  have f82 : Ar Z h65 b63 .int 0 (fun _ => (.int 0)) := A70
  show Go p e below _ (T64.setTop (mkF m 22 #[.val (.ref a)] [(.ref b63), (.ref a)]))
  have K5 := K4.ext E69
  refine Go.putF (pc' := 25) (ty := (.array .int)) X67 hx hby hZ hown (hw _ (List.mem_of_getElem? (i := 39) rfl)) Via.refl e68 f78 f75 (Or.inl (hw _ (List.mem_of_getElem? (i := 40) rfl))) (hw _ (List.mem_of_getElem? (i := 29) rfl)) (by decide) rfl rfl d3_22 rfl ?_
  intro T83 h84 X85 e86 W87
  have f88 : Exa Z h84 a "com/example/glacis/glacis/analysis/Bdd$Computed" := Exa.wr W87 f75
  have f89 : Fld Z h84 a "com/example/glacis/glacis/analysis/Bdd$Computed" "first" "[I" (.ref b4) := Fld.other W87 f76 (Or.inr (slot_ne (t := (.array .int)) (t' := (.array .int)) (Or.inl (hw _ (List.mem_of_getElem? (i := 36) rfl))) (Or.inl (hw _ (List.mem_of_getElem? (i := 40) rfl))) (by decide) (by decide) (by decide)))
  have f90 : Fld Z h84 a "com/example/glacis/glacis/analysis/Bdd$Computed" "second" "[I" (.ref b32) := Fld.other W87 f77 (Or.inr (slot_ne (t := (.array .int)) (t' := (.array .int)) (Or.inl (hw _ (List.mem_of_getElem? (i := 38) rfl))) (Or.inl (hw _ (List.mem_of_getElem? (i := 40) rfl))) (by decide) (by decide) (by decide)))
  have f91 : Ar Z h84 b4 .int 0 (fun _ => (.int 0)) := f79.other W87 (Ne.symm n12)
  have f92 : Ar Z h84 b32 .int 0 (fun _ => (.int 0)) := f80.other W87 (Ne.symm n40)
  have f93 : Ar Z h84 b63 .int 0 (fun _ => (.int 0)) := f82.other W87 (Ne.symm n71)
  have z94 : n0 ≤ h84.size := by rw [Wr.size W87]; exact z81
  have f95 : Fld Z h84 a "com/example/glacis/glacis/analysis/Bdd$Computed" "result" "[I" (.ref b63) := Fld.same W87 f78
  have N96 : Fr n0 _ := Fr.snoc X85 N62 ga
  show Go p e below _ (T83.setTop (mkF m 25 #[.val (.ref a)] []))
  have K6 := K5.wr W87 (Or.inl (List.mem_singleton.mpr rfl))
  exact Go.ret0 X85 hx hby hlk hret d3_25 (by decide) (by decide) ⟨b4, rfl, gx, N96, by rw [e86]; exact K6, by rw [e86]; exact ⟨f88, f89, ⟨_, f90⟩, ⟨_, f95⟩, f91⟩⟩
theorem ef_6 (m : MethodId) (x0 : Addr) : entryFrame m #[(.ref x0)] 1 = mkF m 0 #[.val (.ref x0)] [] := by first | (simp [entryFrame, mkF, argsToLocals, Value.category]; done) | rfl
set_option maxRecDepth 65536 in
set_option maxHeartbeats 40000000 in
theorem rmCC (l : Launch) (Z : State) (a0 : Array Value) (hw : ∀ d ∈ tables_1, d.before a0 Z = true) (a : Addr) (h0 : Heap) (n0 : Nat) (b : Addr) (f : Int → Value) (gb : n0 ≤ b) (F0 : Fld Z h0 a "com/example/glacis/glacis/analysis/Bdd$Computed" "first" "[I" (.ref b)) (A0 : Ar Z h0 b .int 1024 f) :
    Con l Z (⟨"com/example/glacis/glacis/analysis/Bdd$Computed", "clear", "()V"⟩ : MethodName) prog_3_method_4_code 1 none [] ({ frames := 1, cells := 0, slots := 0, locals := 15 } : Room) #[(.ref a)] h0 (fun v h L => v = none ∧ Fr n0 L ∧ Keep h0 h [b] ∧ Ar Z h b .int (1024 : Int32).toInt (fun _ => .int (-1))) := by
  refine Con.of (plainFor_of_name pn_Bdd_Computed) ?_
  intro p e s m below meth c s₁ hx hby hml hown hnm hret hlk hZ X0 e0
  refine Go.cast (ef_6 m a) ?_
  replace hown : s.vm.findClass "com/example/glacis/glacis/analysis/Bdd$Computed" = some m.cls := hown
  refine Go.aloadN (pc' := 1) X0 hx hby d6_0 rfl rfl rfl ?_
  refine Go.getF (pc' := 4) X0 hx hby hZ hown (hw _ (List.mem_of_getElem? (i := 35) rfl)) Via.refl e0 F0 d6_1 rfl ?_
  intro T1 X2 e3
  refine Go.iconst (pc' := 5) X2 hx hby d6_4 rfl (v := (-1 : Int32)) (by decide) ?_
  refine Go.callS (pc' := 8) (W := 0) (argsL := [(.ref b), (.int (-1 : Int32))]) (rest := []) X2 hx hby hZ hown (hw _ (List.mem_of_getElem? (i := 73) rfl)) (hw _ (List.mem_of_getElem? (i := 60) rfl)) (hw _ (List.mem_of_getElem? (i := 61) rfl)) (hw _ (List.mem_of_getElem? (i := 62) rfl)) (by decide) (rmF l Z a0 hw b (-1) h0 n0 1024 f gb A0) e3 (by decide) (by decide) (by rw [hml]; rfl) pd_11 rfl rfl rfl (Nat.le_of_eq rfl) d6_5 rfl (by decide) (by decide) ?_
  rintro r4 T5 L6 X7 ⟨rfl, N1, K1, A1⟩
  show Go p e below _ (T5.setTop (mkF m 8 #[.val (.ref a)] []))
  exact Go.ret0 X7 hx hby hlk hret d6_8 (by decide) (by decide) ⟨rfl, Fr.app (Fr.nil _) N1, K1, A1⟩
theorem ef_5 (m : MethodId) (x0 : Addr) (x1 : Int32) : entryFrame m #[(.ref x0), (.int x1)] 2 = mkF m 0 #[.val (.ref x0), .val (.int x1)] [] := by first | (simp [entryFrame, mkF, argsToLocals, Value.category]; done) | rfl
set_option maxRecDepth 65536 in
set_option maxHeartbeats 40000000 in
theorem rmCR (l : Launch) (Z : State) (a0 : Array Value) (hw : ∀ d ∈ tables_1, d.before a0 Z = true) (a : Addr) (x1 : Int32) (h0 : Heap) (n0 : Nat) (u0 u1 u2 : Addr) (Z0 : n0 ≤ h0.size) (ga : n0 ≤ a) (h1 : x1 = 1024) (E0 : Exa Z h0 a "com/example/glacis/glacis/analysis/Bdd$Computed") (F0 : Fld Z h0 a "com/example/glacis/glacis/analysis/Bdd$Computed" "first" "[I" (.ref u0)) (F1 : Fld Z h0 a "com/example/glacis/glacis/analysis/Bdd$Computed" "second" "[I" (.ref u1)) (F2 : Fld Z h0 a "com/example/glacis/glacis/analysis/Bdd$Computed" "result" "[I" (.ref u2)) (A0 : Ar Z h0 u0 .int 0 (fun _ => .int 0)) :
    Con l Z (⟨"com/example/glacis/glacis/analysis/Bdd$Computed", "resize", "(I)V"⟩ : MethodName) prog_3_method_5_code 2 none [] ({ frames := 2, cells := 3, slots := 3072, locals := 27 } : Room) #[(.ref a), (.int x1)] h0 (fun v h L => ∃ x y z, v = none ∧ h0.size ≤ x ∧ x < y ∧ y < z ∧ Fr n0 L ∧ Keep h0 h [a] ∧ Exa Z h a "com/example/glacis/glacis/analysis/Bdd$Computed" ∧ Fld Z h a "com/example/glacis/glacis/analysis/Bdd$Computed" "first" "[I" (.ref x) ∧ Fld Z h a "com/example/glacis/glacis/analysis/Bdd$Computed" "second" "[I" (.ref y) ∧ Fld Z h a "com/example/glacis/glacis/analysis/Bdd$Computed" "result" "[I" (.ref z) ∧ Ar Z h x .int 1024 (fun _ => .int (-1)) ∧ Ar Z h y .int 1024 (fun _ => .int 0) ∧ Ar Z h z .int 1024 (fun _ => .int 0)) := by
  refine Con.of (plainFor_of_name pn_Bdd_Computed) ?_
  intro p e s m below meth c s₁ hx hby hml hown hnm hret hlk hZ X0 e0
  refine Go.cast (ef_5 m a x1) ?_
  replace hown : s.vm.findClass "com/example/glacis/glacis/analysis/Bdd$Computed" = some m.cls := hown
  subst h1
  show Go p e below _ (s₁.setTop (mkF m 0 #[.val (.ref a), .val (.int (1024 : Int32))] []))
  have K0 := Keep.refl h0 [a]
  refine Go.iloadN (pc' := 1) X0 hx hby d5_0 rfl rfl ?_
  refine Go.aloadN (pc' := 2) X0 hx hby d5_1 rfl rfl rfl ?_
  refine Go.getF (pc' := 5) X0 hx hby hZ hown (hw _ (List.mem_of_getElem? (i := 35) rfl)) Via.refl e0 F0 d5_2 rfl ?_
  intro T1 X2 e3
  refine Go.alen (pc' := 6) (zv := (0 : Int32)) X2 hx hby hZ e3 A0 d5_5 rfl (by decide) ?_
  refine Go.icmpN (pc' := 9) X2 hx hby d5_6 rfl (show ¬ ((1024 : Int32) = (0 : Int32)) from by decide) ?_
  refine Go.aloadN (pc' := 10) X2 hx hby d5_9 rfl rfl rfl ?_
  refine Go.iloadN (pc' := 11) X2 hx hby d5_10 rfl rfl ?_
  refine Go.newarr (pc' := 13) (cap := 1024) (z := 1024) X2 hx hby hZ (hw _ (List.mem_of_getElem? (i := 11) rfl)) e3 d5_11 rfl (by decide) (by decide) (by decide) (by decide) (by decide) (by decide) ?_
  intro b4 T5 h6 g7 X8 e9 E10 A11
  have n12 : a ≠ b4 := Nat.ne_of_lt (by rw [g7]; exact E0.lt)
  have g13 : n0 ≤ b4 := by rw [g7]; exact Z0
  have f14 : Exa Z h6 a "com/example/glacis/glacis/analysis/Bdd$Computed" := Exa.ext E10 E0
  have f15 : Fld Z h6 a "com/example/glacis/glacis/analysis/Bdd$Computed" "first" "[I" (.ref u0) := Fld.ext E10 F0
  have f16 : Fld Z h6 a "com/example/glacis/glacis/analysis/Bdd$Computed" "second" "[I" (.ref u1) := Fld.ext E10 F1
  have f17 : Fld Z h6 a "com/example/glacis/glacis/analysis/Bdd$Computed" "result" "[I" (.ref u2) := Fld.ext E10 F2
  have z18 : n0 ≤ h6.size := Nat.le_trans Z0 E10.1
  have f19 : Ar Z h6 b4 .int 1024 (fun _ => (.int 0)) := A11
  show Go p e below _ (T5.setTop (mkF m 13 #[.val (.ref a), .val (.int (1024 : Int32))] [(.ref b4), (.ref a)]))
  have s0 : b4 = h0.size := g7
  have K1 := K0.ext E10
  refine Go.putF (pc' := 16) (ty := (.array .int)) X8 hx hby hZ hown (hw _ (List.mem_of_getElem? (i := 35) rfl)) Via.refl e9 f15 f14 (Or.inl (hw _ (List.mem_of_getElem? (i := 36) rfl))) (hw _ (List.mem_of_getElem? (i := 29) rfl)) (by decide) rfl rfl d5_13 rfl ?_
  intro T20 h21 X22 e23 W24
  have f25 : Exa Z h21 a "com/example/glacis/glacis/analysis/Bdd$Computed" := Exa.wr W24 f14
  have f26 : Fld Z h21 a "com/example/glacis/glacis/analysis/Bdd$Computed" "second" "[I" (.ref u1) := Fld.other W24 f16 (Or.inr (slot_ne (t := (.array .int)) (t' := (.array .int)) (Or.inl (hw _ (List.mem_of_getElem? (i := 38) rfl))) (Or.inl (hw _ (List.mem_of_getElem? (i := 36) rfl))) (by decide) (by decide) (by decide)))
  have f27 : Fld Z h21 a "com/example/glacis/glacis/analysis/Bdd$Computed" "result" "[I" (.ref u2) := Fld.other W24 f17 (Or.inr (slot_ne (t := (.array .int)) (t' := (.array .int)) (Or.inl (hw _ (List.mem_of_getElem? (i := 40) rfl))) (Or.inl (hw _ (List.mem_of_getElem? (i := 36) rfl))) (by decide) (by decide) (by decide)))
  have f28 : Ar Z h21 b4 .int 1024 (fun _ => (.int 0)) := f19.other W24 (Ne.symm n12)
  have z29 : n0 ≤ h21.size := by rw [Wr.size W24]; exact z18
  have f30 : Fld Z h21 a "com/example/glacis/glacis/analysis/Bdd$Computed" "first" "[I" (.ref b4) := Fld.same W24 f15
  have N31 : Fr n0 _ := Fr.snoc X22 (Fr.nil _) ga
  show Go p e below _ (T20.setTop (mkF m 16 #[.val (.ref a), .val (.int (1024 : Int32))] []))
  have K2 := K1.wr W24 (Or.inl (List.mem_singleton.mpr rfl))
  refine Go.aloadN (pc' := 17) X22 hx hby d5_16 rfl rfl rfl ?_
  refine Go.iloadN (pc' := 18) X22 hx hby d5_17 rfl rfl ?_
  refine Go.newarr (pc' := 20) (cap := 1024) (z := 1024) X22 hx hby hZ (hw _ (List.mem_of_getElem? (i := 11) rfl)) e23 d5_18 rfl (by decide) (by decide) (by decide) (by decide) (by decide) (by decide) ?_
  intro b32 T33 h34 g35 X36 e37 E38 A39
  have n40 : a ≠ b32 := Nat.ne_of_lt (by rw [g35]; exact f25.lt)
  have n41 : b4 ≠ b32 := Nat.ne_of_lt (by rw [g35]; exact f28.lt)
  have g42 : n0 ≤ b32 := by rw [g35]; exact z29
  have f43 : Exa Z h34 a "com/example/glacis/glacis/analysis/Bdd$Computed" := Exa.ext E38 f25
  have f44 : Fld Z h34 a "com/example/glacis/glacis/analysis/Bdd$Computed" "first" "[I" (.ref b4) := Fld.ext E38 f30
  have f45 : Fld Z h34 a "com/example/glacis/glacis/analysis/Bdd$Computed" "second" "[I" (.ref u1) := Fld.ext E38 f26
  have f46 : Fld Z h34 a "com/example/glacis/glacis/analysis/Bdd$Computed" "result" "[I" (.ref u2) := Fld.ext E38 f27
  have f47 : Ar Z h34 b4 .int 1024 (fun _ => (.int 0)) := f28.ext E38
  have z48 : n0 ≤ h34.size := Nat.le_trans z29 E38.1
  have f49 : Ar Z h34 b32 .int 1024 (fun _ => (.int 0)) := A39
  show Go p e below _ (T33.setTop (mkF m 20 #[.val (.ref a), .val (.int (1024 : Int32))] [(.ref b32), (.ref a)]))
  have s1 : b32 = h21.size := g35
  have K3 := K2.ext E38
  have lt1 : b4 < b32 := by rw [s1]; exact f28.lt
  refine Go.putF (pc' := 23) (ty := (.array .int)) X36 hx hby hZ hown (hw _ (List.mem_of_getElem? (i := 37) rfl)) Via.refl e37 f45 f43 (Or.inl (hw _ (List.mem_of_getElem? (i := 38) rfl))) (hw _ (List.mem_of_getElem? (i := 29) rfl)) (by decide) rfl rfl d5_20 rfl ?_
  intro T50 h51 X52 e53 W54
  have f55 : Exa Z h51 a "com/example/glacis/glacis/analysis/Bdd$Computed" := Exa.wr W54 f43
  have f56 : Fld Z h51 a "com/example/glacis/glacis/analysis/Bdd$Computed" "first" "[I" (.ref b4) := Fld.other W54 f44 (Or.inr (slot_ne (t := (.array .int)) (t' := (.array .int)) (Or.inl (hw _ (List.mem_of_getElem? (i := 36) rfl))) (Or.inl (hw _ (List.mem_of_getElem? (i := 38) rfl))) (by decide) (by decide) (by decide)))
  have f57 : Fld Z h51 a "com/example/glacis/glacis/analysis/Bdd$Computed" "result" "[I" (.ref u2) := Fld.other W54 f46 (Or.inr (slot_ne (t := (.array .int)) (t' := (.array .int)) (Or.inl (hw _ (List.mem_of_getElem? (i := 40) rfl))) (Or.inl (hw _ (List.mem_of_getElem? (i := 38) rfl))) (by decide) (by decide) (by decide)))
  have f58 : Ar Z h51 b4 .int 1024 (fun _ => (.int 0)) := f47.other W54 (Ne.symm n12)
  have f59 : Ar Z h51 b32 .int 1024 (fun _ => (.int 0)) := f49.other W54 (Ne.symm n40)
  have z60 : n0 ≤ h51.size := by rw [Wr.size W54]; exact z48
  have f61 : Fld Z h51 a "com/example/glacis/glacis/analysis/Bdd$Computed" "second" "[I" (.ref b32) := Fld.same W54 f45
  have N62 : Fr n0 _ := Fr.snoc X52 N31 ga
  show Go p e below _ (T50.setTop (mkF m 23 #[.val (.ref a), .val (.int (1024 : Int32))] []))
  have K4 := K3.wr W54 (Or.inl (List.mem_singleton.mpr rfl))
  refine Go.aloadN (pc' := 24) X52 hx hby d5_23 rfl rfl rfl ?_
  refine Go.iloadN (pc' := 25) X52 hx hby d5_24 rfl rfl ?_
  refine Go.newarr (pc' := 27) (cap := 1024) (z := 1024) X52 hx hby hZ (hw _ (List.mem_of_getElem? (i := 11) rfl)) e53 d5_25 rfl (by decide) (by decide) (by decide) (by decide) (by decide) (by decide) ?_
  intro b63 T64 h65 g66 X67 e68 E69 A70
  have n71 : a ≠ b63 := Nat.ne_of_lt (by rw [g66]; exact f55.lt)
  have n72 : b4 ≠ b63 := Nat.ne_of_lt (by rw [g66]; exact f58.lt)
  have n73 : b32 ≠ b63 := Nat.ne_of_lt (by rw [g66]; exact f59.lt)
  have g74 : n0 ≤ b63 := by rw [g66]; exact z60
  have f75 : Exa Z h65 a "com/example/glacis/glacis/analysis/Bdd$Computed" := Exa.ext E69 f55
  have f76 : Fld Z h65 a "com/example/glacis/glacis/analysis/Bdd$Computed" "first" "[I" (.ref b4) := Fld.ext E69 f56
  have f77 : Fld Z h65 a "com/example/glacis/glacis/analysis/Bdd$Computed" "second" "[I" (.ref b32) := Fld.ext E69 f61
  have f78 : Fld Z h65 a "com/example/glacis/glacis/analysis/Bdd$Computed" "result" "[I" (.ref u2) := Fld.ext E69 f57
  have f79 : Ar Z h65 b4 .int 1024 (fun _ => (.int 0)) := f58.ext E69
  have f80 : Ar Z h65 b32 .int 1024 (fun _ => (.int 0)) := f59.ext E69
  have z81 : n0 ≤ h65.size := Nat.le_trans z60 E69.1
  have f82 : Ar Z h65 b63 .int 1024 (fun _ => (.int 0)) := A70
  show Go p e below _ (T64.setTop (mkF m 27 #[.val (.ref a), .val (.int (1024 : Int32))] [(.ref b63), (.ref a)]))
  have s2 : b63 = h51.size := g66
  have K5 := K4.ext E69
  have lt2 : b32 < b63 := by rw [s2]; exact f59.lt
  refine Go.putF (pc' := 30) (ty := (.array .int)) X67 hx hby hZ hown (hw _ (List.mem_of_getElem? (i := 39) rfl)) Via.refl e68 f78 f75 (Or.inl (hw _ (List.mem_of_getElem? (i := 40) rfl))) (hw _ (List.mem_of_getElem? (i := 29) rfl)) (by decide) rfl rfl d5_27 rfl ?_
  intro T83 h84 X85 e86 W87
  have f88 : Exa Z h84 a "com/example/glacis/glacis/analysis/Bdd$Computed" := Exa.wr W87 f75
  have f89 : Fld Z h84 a "com/example/glacis/glacis/analysis/Bdd$Computed" "first" "[I" (.ref b4) := Fld.other W87 f76 (Or.inr (slot_ne (t := (.array .int)) (t' := (.array .int)) (Or.inl (hw _ (List.mem_of_getElem? (i := 36) rfl))) (Or.inl (hw _ (List.mem_of_getElem? (i := 40) rfl))) (by decide) (by decide) (by decide)))
  have f90 : Fld Z h84 a "com/example/glacis/glacis/analysis/Bdd$Computed" "second" "[I" (.ref b32) := Fld.other W87 f77 (Or.inr (slot_ne (t := (.array .int)) (t' := (.array .int)) (Or.inl (hw _ (List.mem_of_getElem? (i := 38) rfl))) (Or.inl (hw _ (List.mem_of_getElem? (i := 40) rfl))) (by decide) (by decide) (by decide)))
  have f91 : Ar Z h84 b4 .int 1024 (fun _ => (.int 0)) := f79.other W87 (Ne.symm n12)
  have f92 : Ar Z h84 b32 .int 1024 (fun _ => (.int 0)) := f80.other W87 (Ne.symm n40)
  have f93 : Ar Z h84 b63 .int 1024 (fun _ => (.int 0)) := f82.other W87 (Ne.symm n71)
  have z94 : n0 ≤ h84.size := by rw [Wr.size W87]; exact z81
  have f95 : Fld Z h84 a "com/example/glacis/glacis/analysis/Bdd$Computed" "result" "[I" (.ref b63) := Fld.same W87 f78
  have N96 : Fr n0 _ := Fr.snoc X85 N62 ga
  show Go p e below _ (T83.setTop (mkF m 30 #[.val (.ref a), .val (.int (1024 : Int32))] []))
  have K6 := K5.wr W87 (Or.inl (List.mem_singleton.mpr rfl))
  have gx : h0.size ≤ b4 := by rw [s0]; exact Nat.le_refl _
  refine Go.aloadN (pc' := 31) X85 hx hby d5_30 rfl rfl rfl ?_
  refine Go.callV (C := "com/example/glacis/glacis/analysis/Bdd$Computed") (pc' := 34) (a := a) (W := 0) (argsL := []) (rest := []) X85 hx hby hZ hown (hw _ (List.mem_of_getElem? (i := 68) rfl)) (hw _ (List.mem_of_getElem? (i := 69) rfl)) (notFace_of_selects (args := #[]) (mvT hZ (hw _ (List.mem_of_getElem? (i := 71) rfl)))) (hw _ (List.mem_of_getElem? (i := 71) rfl)) (hw _ (List.mem_of_getElem? (i := 70) rfl)) (hw _ (List.mem_of_getElem? (i := 30) rfl)) (hw _ (List.mem_of_getElem? (i := 72) rfl)) (by decide) (rmCC l Z a0 hw a h84 n0 b4 _ g13 f89 f91) e86 f88 (by decide) (by decide) (by rw [hml]; rfl) pd_1 rfl rfl rfl (Nat.le_of_eq rfl) d5_31 rfl (by decide) (by decide) ?_
  rintro r97 T98 L99 X100 ⟨rfl, N9, K9, A9⟩
  show Go p e below _ (T98.setTop (mkF m 34 #[.val (.ref a), .val (.int (1024 : Int32))] []))
  exact Go.ret0 X100 hx hby hlk hret d5_34 (by decide) (by decide) ⟨b4, b32, b63, rfl, gx, lt1, lt2, (Fr.app N96 N9), K6.trans K9 (allS (Or.inr gx) all0), f88.keep K9, f89.keep K9 (ninS n12 nin0), f90.keep K9 (ninS n12 nin0), f95.keep K9 (ninS n12 nin0), A9, f92.keep K9 (ninS (Ne.symm n41) nin0), f93.keep K9 (ninS (Ne.symm n72) nin0)⟩
def own_f0 (q0 q1 : Addr) (k : Nat) (i : Int) : Value := if k = 0 then (if i = 1 then .int 2147483647 else if i = 0 then .int 2147483647 else .int 0) else if k = 4 then .int (-1) else if k = 12 then .int (-1) else if k = 15 then .int (-1) else if k = 5 then .double 0 else if k = 6 then (if i = 1 then .ref q1 else if i = 0 then .ref q0 else .null) else .int 0
theorem own_mono {d : Nat → Addr} (h : ∀ k, k < 17 → d k < d (k + 1)) : ∀ n i, i + n + 1 < 18 → d i < d (i + n + 1)
  | 0, i, hi => h i (by omega)
  | n + 1, i, hi => Nat.lt_trans (own_mono h n i (by omega)) (h (i + n + 1) (by omega))
theorem own_inj {d : Nat → Addr} (h : ∀ k, k < 17 → d k < d (k + 1)) (i j : Nat) (hi : i < 18) (hj : j < 18) (ne : i ≠ j) : d i ≠ d j := by
  rcases Nat.lt_or_gt_of_ne ne with q | q
  · have := own_mono h (j - i - 1) i (by omega)
    rw [show i + (j - i - 1) + 1 = j by omega] at this; exact Nat.ne_of_lt this
  · have := own_mono h (i - j - 1) j (by omega)
    rw [show j + (i - j - 1) + 1 = i by omega] at this; exact Ne.symm (Nat.ne_of_lt this)
theorem own_ge {d : Nat → Addr} {n0 : Nat} (h : ∀ k, k < 17 → d k < d (k + 1)) (h0 : n0 ≤ d 0) : ∀ k, k < 18 → n0 ≤ d k
  | 0, _ => h0
  | k + 1, hk => Nat.le_trans (own_ge h h0 k (by omega)) (Nat.le_of_lt (h k (by omega)))
theorem OwnB.keep {Z : State} {h h' : Heap} {n0 : Nat} {a q0 q1 : Addr} {d : Nat → Addr} {sz vr : Int32} {f : Nat → Int → Value} (B : OwnB Z h n0 a q0 q1 d sz vr f) (K : Keep h h' []) : OwnB Z h' n0 a q0 q1 d sz vr f := ⟨fun k hk => (B.1 k hk).keep K nin0, B.2.1, B.2.2.1, B.2.2.2.1, B.2.2.2.2.1.keep K, B.2.2.2.2.2.1.keep K, B.2.2.2.2.2.2.1.keep K, fun x hx => (B.2.2.2.2.2.2.2.1 x hx).keep K nin0, B.2.2.2.2.2.2.2.2.1.keep K nin0, B.2.2.2.2.2.2.2.2.2.keep K nin0⟩
theorem d1_0 : decode prog_2_method_1_code 0 = .ok (.aload_n 0, 1) := by decide +kernel
theorem d1_1 : decode prog_2_method_1_code 1 = .ok (.invokespecial 3, 3) := by decide +kernel
theorem d1_4 : decode prog_2_method_1_code 4 = .ok (.aload_n 0, 1) := by decide +kernel
theorem d1_5 : decode prog_2_method_1_code 5 = .ok (.sipush 1024, 3) := by decide +kernel
theorem d1_8 : decode prog_2_method_1_code 8 = .ok (.newarray .int, 2) := by decide +kernel
theorem d1_10 : decode prog_2_method_1_code 10 = .ok (.putfield 9, 3) := by decide +kernel
theorem d1_13 : decode prog_2_method_1_code 13 = .ok (.aload_n 0, 1) := by decide +kernel
theorem d1_14 : decode prog_2_method_1_code 14 = .ok (.aload_n 0, 1) := by decide +kernel
theorem d1_15 : decode prog_2_method_1_code 15 = .ok (.getfield 9, 3) := by decide +kernel
theorem d1_18 : decode prog_2_method_1_code 18 = .ok (.arraylength, 1) := by decide +kernel
theorem d1_19 : decode prog_2_method_1_code 19 = .ok (.newarray .int, 2) := by decide +kernel
theorem d1_21 : decode prog_2_method_1_code 21 = .ok (.putfield 15, 3) := by decide +kernel
theorem d1_24 : decode prog_2_method_1_code 24 = .ok (.aload_n 0, 1) := by decide +kernel
theorem d1_25 : decode prog_2_method_1_code 25 = .ok (.aload_n 0, 1) := by decide +kernel
theorem d1_26 : decode prog_2_method_1_code 26 = .ok (.getfield 9, 3) := by decide +kernel
theorem d1_29 : decode prog_2_method_1_code 29 = .ok (.arraylength, 1) := by decide +kernel
theorem d1_30 : decode prog_2_method_1_code 30 = .ok (.newarray .int, 2) := by decide +kernel
theorem d1_32 : decode prog_2_method_1_code 32 = .ok (.putfield 18, 3) := by decide +kernel
theorem d1_35 : decode prog_2_method_1_code 35 = .ok (.aload_n 0, 1) := by decide +kernel
theorem d1_36 : decode prog_2_method_1_code 36 = .ok (.aload_n 0, 1) := by decide +kernel
theorem d1_37 : decode prog_2_method_1_code 37 = .ok (.getfield 9, 3) := by decide +kernel
theorem d1_40 : decode prog_2_method_1_code 40 = .ok (.arraylength, 1) := by decide +kernel
theorem d1_41 : decode prog_2_method_1_code 41 = .ok (.newarray .int, 2) := by decide +kernel
theorem d1_43 : decode prog_2_method_1_code 43 = .ok (.putfield 21, 3) := by decide +kernel
theorem d1_46 : decode prog_2_method_1_code 46 = .ok (.aload_n 0, 1) := by decide +kernel
theorem d1_47 : decode prog_2_method_1_code 47 = .ok (.aload_n 0, 1) := by decide +kernel
theorem d1_48 : decode prog_2_method_1_code 48 = .ok (.getfield 9, 3) := by decide +kernel
theorem d1_51 : decode prog_2_method_1_code 51 = .ok (.arraylength, 1) := by decide +kernel
theorem d1_52 : decode prog_2_method_1_code 52 = .ok (.newarray .int, 2) := by decide +kernel
theorem d1_54 : decode prog_2_method_1_code 54 = .ok (.putfield 24, 3) := by decide +kernel
theorem d1_57 : decode prog_2_method_1_code 57 = .ok (.aload_n 0, 1) := by decide +kernel
theorem d1_58 : decode prog_2_method_1_code 58 = .ok (.iconst 2, 1) := by decide +kernel
theorem d1_59 : decode prog_2_method_1_code 59 = .ok (.putfield 27, 3) := by decide +kernel
theorem d1_62 : decode prog_2_method_1_code 62 = .ok (.aload_n 0, 1) := by decide +kernel
theorem d1_63 : decode prog_2_method_1_code 63 = .ok (.bipush 16, 2) := by decide +kernel
theorem d1_65 : decode prog_2_method_1_code 65 = .ok (.newarray .double, 2) := by decide +kernel
theorem d1_67 : decode prog_2_method_1_code 67 = .ok (.putfield 31, 3) := by decide +kernel
theorem d1_70 : decode prog_2_method_1_code 70 = .ok (.aload_n 0, 1) := by decide +kernel
theorem d1_71 : decode prog_2_method_1_code 71 = .ok (.iconst 2, 1) := by decide +kernel
theorem d1_72 : decode prog_2_method_1_code 72 = .ok (.anewarray 35, 3) := by decide +kernel
theorem d1_75 : decode prog_2_method_1_code 75 = .ok (.dup, 1) := by decide +kernel
theorem d1_76 : decode prog_2_method_1_code 76 = .ok (.iconst 0, 1) := by decide +kernel
theorem d1_77 : decode prog_2_method_1_code 77 = .ok (.new 35, 3) := by decide +kernel
theorem d1_80 : decode prog_2_method_1_code 80 = .ok (.dup, 1) := by decide +kernel
theorem d1_81 : decode prog_2_method_1_code 81 = .ok (.invokespecial 37, 3) := by decide +kernel
theorem d1_84 : decode prog_2_method_1_code 84 = .ok (.aastore, 1) := by decide +kernel
theorem d1_85 : decode prog_2_method_1_code 85 = .ok (.dup, 1) := by decide +kernel
theorem d1_86 : decode prog_2_method_1_code 86 = .ok (.iconst 1, 1) := by decide +kernel
theorem d1_87 : decode prog_2_method_1_code 87 = .ok (.new 35, 3) := by decide +kernel
theorem d1_90 : decode prog_2_method_1_code 90 = .ok (.dup, 1) := by decide +kernel
theorem d1_91 : decode prog_2_method_1_code 91 = .ok (.invokespecial 37, 3) := by decide +kernel
theorem d1_94 : decode prog_2_method_1_code 94 = .ok (.aastore, 1) := by decide +kernel
theorem d1_95 : decode prog_2_method_1_code 95 = .ok (.putfield 38, 3) := by decide +kernel
theorem d1_98 : decode prog_2_method_1_code 98 = .ok (.aload_n 0, 1) := by decide +kernel
theorem d1_99 : decode prog_2_method_1_code 99 = .ok (.bipush 64, 2) := by decide +kernel
theorem d1_101 : decode prog_2_method_1_code 101 = .ok (.newarray .int, 2) := by decide +kernel
theorem d1_103 : decode prog_2_method_1_code 103 = .ok (.putfield 42, 3) := by decide +kernel
theorem d1_106 : decode prog_2_method_1_code 106 = .ok (.aload_n 0, 1) := by decide +kernel
theorem d1_107 : decode prog_2_method_1_code 107 = .ok (.bipush 64, 2) := by decide +kernel
theorem d1_109 : decode prog_2_method_1_code 109 = .ok (.newarray .int, 2) := by decide +kernel
theorem d1_111 : decode prog_2_method_1_code 111 = .ok (.putfield 45, 3) := by decide +kernel
theorem d1_114 : decode prog_2_method_1_code 114 = .ok (.aload_n 0, 1) := by decide +kernel
theorem d1_115 : decode prog_2_method_1_code 115 = .ok (.bipush 64, 2) := by decide +kernel
theorem d1_117 : decode prog_2_method_1_code 117 = .ok (.newarray .int, 2) := by decide +kernel
theorem d1_119 : decode prog_2_method_1_code 119 = .ok (.putfield 48, 3) := by decide +kernel
theorem d1_122 : decode prog_2_method_1_code 122 = .ok (.aload_n 0, 1) := by decide +kernel
theorem d1_123 : decode prog_2_method_1_code 123 = .ok (.bipush 64, 2) := by decide +kernel
theorem d1_125 : decode prog_2_method_1_code 125 = .ok (.newarray .int, 2) := by decide +kernel
theorem d1_127 : decode prog_2_method_1_code 127 = .ok (.putfield 51, 3) := by decide +kernel
theorem d1_130 : decode prog_2_method_1_code 130 = .ok (.aload_n 0, 1) := by decide +kernel
theorem d1_131 : decode prog_2_method_1_code 131 = .ok (.bipush 64, 2) := by decide +kernel
theorem d1_133 : decode prog_2_method_1_code 133 = .ok (.newarray .int, 2) := by decide +kernel
theorem d1_135 : decode prog_2_method_1_code 135 = .ok (.putfield 54, 3) := by decide +kernel
theorem d1_138 : decode prog_2_method_1_code 138 = .ok (.aload_n 0, 1) := by decide +kernel
theorem d1_139 : decode prog_2_method_1_code 139 = .ok (.iload_n 1, 1) := by decide +kernel
theorem d1_140 : decode prog_2_method_1_code 140 = .ok (.putfield 57, 3) := by decide +kernel
theorem d1_143 : decode prog_2_method_1_code 143 = .ok (.aload_n 0, 1) := by decide +kernel
theorem d1_144 : decode prog_2_method_1_code 144 = .ok (.iload_n 1, 1) := by decide +kernel
theorem d1_145 : decode prog_2_method_1_code 145 = .ok (.putfield 60, 3) := by decide +kernel
theorem d1_148 : decode prog_2_method_1_code 148 = .ok (.aload_n 0, 1) := by decide +kernel
theorem d1_149 : decode prog_2_method_1_code 149 = .ok (.getfield 9, 3) := by decide +kernel
theorem d1_152 : decode prog_2_method_1_code 152 = .ok (.iconst 0, 1) := by decide +kernel
theorem d1_153 : decode prog_2_method_1_code 153 = .ok (.ldc 63, 2) := by decide +kernel
theorem d1_155 : decode prog_2_method_1_code 155 = .ok (.iastore, 1) := by decide +kernel
theorem d1_156 : decode prog_2_method_1_code 156 = .ok (.aload_n 0, 1) := by decide +kernel
theorem d1_157 : decode prog_2_method_1_code 157 = .ok (.getfield 9, 3) := by decide +kernel
theorem d1_160 : decode prog_2_method_1_code 160 = .ok (.iconst 1, 1) := by decide +kernel
theorem d1_161 : decode prog_2_method_1_code 161 = .ok (.ldc 63, 2) := by decide +kernel
theorem d1_163 : decode prog_2_method_1_code 163 = .ok (.iastore, 1) := by decide +kernel
theorem d1_164 : decode prog_2_method_1_code 164 = .ok (.aload_n 0, 1) := by decide +kernel
theorem d1_165 : decode prog_2_method_1_code 165 = .ok (.getfield 24, 3) := by decide +kernel
theorem d1_168 : decode prog_2_method_1_code 168 = .ok (.iconst (-1), 1) := by decide +kernel
theorem d1_169 : decode prog_2_method_1_code 169 = .ok (.invokestatic 64, 3) := by decide +kernel
theorem d1_172 : decode prog_2_method_1_code 172 = .ok (.aload_n 0, 1) := by decide +kernel
theorem d1_173 : decode prog_2_method_1_code 173 = .ok (.getfield 38, 3) := by decide +kernel
theorem d1_176 : decode prog_2_method_1_code 176 = .ok (.astore_n 2, 1) := by decide +kernel
theorem d1_177 : decode prog_2_method_1_code 177 = .ok (.aload_n 2, 1) := by decide +kernel
theorem d1_178 : decode prog_2_method_1_code 178 = .ok (.arraylength, 1) := by decide +kernel
theorem d1_179 : decode prog_2_method_1_code 179 = .ok (.istore_n 3, 1) := by decide +kernel
theorem d1_180 : decode prog_2_method_1_code 180 = .ok (.iconst 0, 1) := by decide +kernel
theorem d1_181 : decode prog_2_method_1_code 181 = .ok (.istore 4, 2) := by decide +kernel
theorem d1_183 : decode prog_2_method_1_code 183 = .ok (.iload 4, 2) := by decide +kernel
theorem d1_185 : decode prog_2_method_1_code 185 = .ok (.iload_n 3, 1) := by decide +kernel
theorem d1_186 : decode prog_2_method_1_code 186 = .ok (.if_icmp .ge 25, 3) := by decide +kernel
theorem d1_189 : decode prog_2_method_1_code 189 = .ok (.aload_n 2, 1) := by decide +kernel
theorem d1_190 : decode prog_2_method_1_code 190 = .ok (.iload 4, 2) := by decide +kernel
theorem d1_192 : decode prog_2_method_1_code 192 = .ok (.aaload, 1) := by decide +kernel
theorem d1_193 : decode prog_2_method_1_code 193 = .ok (.astore 5, 2) := by decide +kernel
theorem d1_195 : decode prog_2_method_1_code 195 = .ok (.aload 5, 2) := by decide +kernel
theorem d1_197 : decode prog_2_method_1_code 197 = .ok (.aload_n 0, 1) := by decide +kernel
theorem d1_198 : decode prog_2_method_1_code 198 = .ok (.getfield 9, 3) := by decide +kernel
theorem d1_201 : decode prog_2_method_1_code 201 = .ok (.arraylength, 1) := by decide +kernel
theorem d1_202 : decode prog_2_method_1_code 202 = .ok (.invokevirtual 70, 3) := by decide +kernel
theorem d1_205 : decode prog_2_method_1_code 205 = .ok (.iinc 4 1, 3) := by decide +kernel
theorem d1_208 : decode prog_2_method_1_code 208 = .ok (.goto (-25), 3) := by decide +kernel
theorem d1_211 : decode prog_2_method_1_code 211 = .ok (.return_, 1) := by decide +kernel
theorem ef_1 (m : MethodId) (x0 : Addr) (x1 : Int32) : entryFrame m #[(.ref x0), (.int x1)] 6 = mkF m 0 #[.val (.ref x0), .val (.int x1), .unset, .unset, .unset, .unset] [] := by first | (simp [entryFrame, mkF, argsToLocals, Value.category]; done) | rfl
set_option maxRecDepth 65536 in
set_option maxHeartbeats 40000000 in
theorem rmBI (l : Launch) (Z : State) (a0 : Array Value) (hw : ∀ d ∈ tables_1, d.before a0 Z = true) (a : Addr) (x1 : Int32) (h0 : Heap) (n0 : Nat) (Z0 : n0 ≤ h0.size) (ga : n0 ≤ a) (E0 : Exa Z h0 a "com/example/glacis/glacis/analysis/Bdd") (F0 : Fld Z h0 a "com/example/glacis/glacis/analysis/Bdd" "level" "[I" .null) (F1 : Fld Z h0 a "com/example/glacis/glacis/analysis/Bdd" "low" "[I" .null) (F2 : Fld Z h0 a "com/example/glacis/glacis/analysis/Bdd" "high" "[I" .null) (F3 : Fld Z h0 a "com/example/glacis/glacis/analysis/Bdd" "chain" "[I" .null) (F4 : Fld Z h0 a "com/example/glacis/glacis/analysis/Bdd" "buckets" "[I" .null) (F5 : Fld Z h0 a "com/example/glacis/glacis/analysis/Bdd" "probabilities" "[D" .null) (F6 : Fld Z h0 a "com/example/glacis/glacis/analysis/Bdd" "computed" "[Lcom/example/glacis/glacis/analysis/Bdd$Computed;" .null) (F7 : Fld Z h0 a "com/example/glacis/glacis/analysis/Bdd" "stackFirst" "[I" .null) (F8 : Fld Z h0 a "com/example/glacis/glacis/analysis/Bdd" "stackSecond" "[I" .null) (F9 : Fld Z h0 a "com/example/glacis/glacis/analysis/Bdd" "stackLevel" "[I" .null) (F10 : Fld Z h0 a "com/example/glacis/glacis/analysis/Bdd" "stackLow" "[I" .null) (F11 : Fld Z h0 a "com/example/glacis/glacis/analysis/Bdd" "stackPhase" "[I" .null) (F12 : Fld Z h0 a "com/example/glacis/glacis/analysis/Bdd" "size" "I" (.int 0)) (F13 : Fld Z h0 a "com/example/glacis/glacis/analysis/Bdd" "variables" "I" (.int 0)) (F14 : Fld Z h0 a "com/example/glacis/glacis/analysis/Bdd" "slack" "I" (.int 0)) (F15 : Fld Z h0 a "com/example/glacis/glacis/analysis/Bdd" "collectAt" "I" (.int 0)) :
    Con l Z (⟨"com/example/glacis/glacis/analysis/Bdd", "<init>", "(I)V"⟩ : MethodName) prog_2_method_1_code 6 none [] ({ frames := 3, cells := 26, slots := 11700, locals := 60 } : Room) #[(.ref a), (.int x1)] h0 (fun v h L => ∃ q0 q1 d, v = none ∧ Fr n0 L ∧ OwnB Z h n0 a q0 q1 d 2 0 (own_f0 q0 q1)) := by
  refine Con.of (plainFor_of_name pn_Bdd) ?_
  intro p e s m below meth c s₁ hx hby hml hown hnm hret hlk hZ X0 e0
  refine Go.cast (ef_1 m a x1) ?_
  replace hown : s.vm.findClass "com/example/glacis/glacis/analysis/Bdd" = some m.cls := hown
  refine Go.aloadN (pc' := 1) X0 hx hby d1_0 rfl rfl rfl ?_
  refine Go.initO (pc' := 4) (W := 0) X0 hx hby hZ hown (hw _ (List.mem_of_getElem? (i := 8) rfl)) (hw _ (List.mem_of_getElem? (i := 9) rfl)) (hw _ (List.mem_of_getElem? (i := 10) rfl)) e0 (by rw [hml]; rfl) d1_1 rfl (by decide) (Nat.le_of_eq rfl) (by decide) ?_
  intro T1 X2 e3
  refine Go.aloadN (pc' := 5) X2 hx hby d1_4 rfl rfl rfl ?_
  refine Go.sipush (pc' := 8) X2 hx hby d1_5 rfl (v := (1024 : Int32)) (by decide) ?_
  refine Go.newarr (pc' := 10) (cap := 1024) (z := 1024) X2 hx hby hZ (hw _ (List.mem_of_getElem? (i := 11) rfl)) e3 d1_8 rfl (by decide) (by decide) (by decide) (by decide) (by decide) (by decide) ?_
  intro b4 T5 h6 g7 X8 e9 E10 A11
  have n12 : a ≠ b4 := Nat.ne_of_lt (by rw [g7]; exact E0.lt)
  have g13 : n0 ≤ b4 := by rw [g7]; exact Z0
  have f14 : Exa Z h6 a "com/example/glacis/glacis/analysis/Bdd" := Exa.ext E10 E0
  have f15 : Fld Z h6 a "com/example/glacis/glacis/analysis/Bdd" "level" "[I" .null := Fld.ext E10 F0
  have f16 : Fld Z h6 a "com/example/glacis/glacis/analysis/Bdd" "low" "[I" .null := Fld.ext E10 F1
  have f17 : Fld Z h6 a "com/example/glacis/glacis/analysis/Bdd" "high" "[I" .null := Fld.ext E10 F2
  have f18 : Fld Z h6 a "com/example/glacis/glacis/analysis/Bdd" "chain" "[I" .null := Fld.ext E10 F3
  have f19 : Fld Z h6 a "com/example/glacis/glacis/analysis/Bdd" "buckets" "[I" .null := Fld.ext E10 F4
  have f20 : Fld Z h6 a "com/example/glacis/glacis/analysis/Bdd" "probabilities" "[D" .null := Fld.ext E10 F5
  have f21 : Fld Z h6 a "com/example/glacis/glacis/analysis/Bdd" "computed" "[Lcom/example/glacis/glacis/analysis/Bdd$Computed;" .null := Fld.ext E10 F6
  have f22 : Fld Z h6 a "com/example/glacis/glacis/analysis/Bdd" "stackFirst" "[I" .null := Fld.ext E10 F7
  have f23 : Fld Z h6 a "com/example/glacis/glacis/analysis/Bdd" "stackSecond" "[I" .null := Fld.ext E10 F8
  have f24 : Fld Z h6 a "com/example/glacis/glacis/analysis/Bdd" "stackLevel" "[I" .null := Fld.ext E10 F9
  have f25 : Fld Z h6 a "com/example/glacis/glacis/analysis/Bdd" "stackLow" "[I" .null := Fld.ext E10 F10
  have f26 : Fld Z h6 a "com/example/glacis/glacis/analysis/Bdd" "stackPhase" "[I" .null := Fld.ext E10 F11
  have f27 : Fld Z h6 a "com/example/glacis/glacis/analysis/Bdd" "size" "I" (.int 0) := Fld.ext E10 F12
  have f28 : Fld Z h6 a "com/example/glacis/glacis/analysis/Bdd" "variables" "I" (.int 0) := Fld.ext E10 F13
  have f29 : Fld Z h6 a "com/example/glacis/glacis/analysis/Bdd" "slack" "I" (.int 0) := Fld.ext E10 F14
  have f30 : Fld Z h6 a "com/example/glacis/glacis/analysis/Bdd" "collectAt" "I" (.int 0) := Fld.ext E10 F15
  have z31 : n0 ≤ h6.size := Nat.le_trans Z0 E10.1
  have f32 : Ar Z h6 b4 .int 1024 (fun _ => (.int 0)) := A11
  show Go p e below _ (T5.setTop (mkF m 10 #[.val (.ref a), .val (.int x1), .unset, .unset, .unset, .unset] [(.ref b4), (.ref a)]))
  refine Go.putF (pc' := 13) (ty := (.array .int)) X8 hx hby hZ hown (hw _ (List.mem_of_getElem? (i := 12) rfl)) Via.refl e9 f15 f14 (Or.inl (hw _ (List.mem_of_getElem? (i := 13) rfl))) (hw _ (List.mem_of_getElem? (i := 3) rfl)) (by decide) rfl rfl d1_10 rfl ?_
  intro T33 h34 X35 e36 W37
  have f38 : Exa Z h34 a "com/example/glacis/glacis/analysis/Bdd" := Exa.wr W37 f14
  have f39 : Fld Z h34 a "com/example/glacis/glacis/analysis/Bdd" "low" "[I" .null := Fld.other W37 f16 (Or.inr (slot_ne (t := (.array .int)) (t' := (.array .int)) (Or.inl (hw _ (List.mem_of_getElem? (i := 15) rfl))) (Or.inl (hw _ (List.mem_of_getElem? (i := 13) rfl))) (by decide) (by decide) (by decide)))
  have f40 : Fld Z h34 a "com/example/glacis/glacis/analysis/Bdd" "high" "[I" .null := Fld.other W37 f17 (Or.inr (slot_ne (t := (.array .int)) (t' := (.array .int)) (Or.inl (hw _ (List.mem_of_getElem? (i := 17) rfl))) (Or.inl (hw _ (List.mem_of_getElem? (i := 13) rfl))) (by decide) (by decide) (by decide)))
  have f41 : Fld Z h34 a "com/example/glacis/glacis/analysis/Bdd" "chain" "[I" .null := Fld.other W37 f18 (Or.inr (slot_ne (t := (.array .int)) (t' := (.array .int)) (Or.inl (hw _ (List.mem_of_getElem? (i := 19) rfl))) (Or.inl (hw _ (List.mem_of_getElem? (i := 13) rfl))) (by decide) (by decide) (by decide)))
  have f42 : Fld Z h34 a "com/example/glacis/glacis/analysis/Bdd" "buckets" "[I" .null := Fld.other W37 f19 (Or.inr (slot_ne (t := (.array .int)) (t' := (.array .int)) (Or.inl (hw _ (List.mem_of_getElem? (i := 21) rfl))) (Or.inl (hw _ (List.mem_of_getElem? (i := 13) rfl))) (by decide) (by decide) (by decide)))
  have f43 : Fld Z h34 a "com/example/glacis/glacis/analysis/Bdd" "probabilities" "[D" .null := Fld.other W37 f20 (Or.inr (slot_ne (t := (.array .double)) (t' := (.array .int)) (Or.inl (hw _ (List.mem_of_getElem? (i := 26) rfl))) (Or.inl (hw _ (List.mem_of_getElem? (i := 13) rfl))) (by decide) (by decide) (by decide)))
  have f44 : Fld Z h34 a "com/example/glacis/glacis/analysis/Bdd" "computed" "[Lcom/example/glacis/glacis/analysis/Bdd$Computed;" .null := Fld.other W37 f21 (Or.inr (slot_ne (t := (.array (.object "com/example/glacis/glacis/analysis/Bdd$Computed"))) (t' := (.array .int)) (Or.inr (hw _ (List.mem_of_getElem? (i := 43) rfl))) (Or.inl (hw _ (List.mem_of_getElem? (i := 13) rfl))) (by decide) (by decide) (by decide)))
  have f45 : Fld Z h34 a "com/example/glacis/glacis/analysis/Bdd" "stackFirst" "[I" .null := Fld.other W37 f22 (Or.inr (slot_ne (t := (.array .int)) (t' := (.array .int)) (Or.inl (hw _ (List.mem_of_getElem? (i := 45) rfl))) (Or.inl (hw _ (List.mem_of_getElem? (i := 13) rfl))) (by decide) (by decide) (by decide)))
  have f46 : Fld Z h34 a "com/example/glacis/glacis/analysis/Bdd" "stackSecond" "[I" .null := Fld.other W37 f23 (Or.inr (slot_ne (t := (.array .int)) (t' := (.array .int)) (Or.inl (hw _ (List.mem_of_getElem? (i := 47) rfl))) (Or.inl (hw _ (List.mem_of_getElem? (i := 13) rfl))) (by decide) (by decide) (by decide)))
  have f47 : Fld Z h34 a "com/example/glacis/glacis/analysis/Bdd" "stackLevel" "[I" .null := Fld.other W37 f24 (Or.inr (slot_ne (t := (.array .int)) (t' := (.array .int)) (Or.inl (hw _ (List.mem_of_getElem? (i := 49) rfl))) (Or.inl (hw _ (List.mem_of_getElem? (i := 13) rfl))) (by decide) (by decide) (by decide)))
  have f48 : Fld Z h34 a "com/example/glacis/glacis/analysis/Bdd" "stackLow" "[I" .null := Fld.other W37 f25 (Or.inr (slot_ne (t := (.array .int)) (t' := (.array .int)) (Or.inl (hw _ (List.mem_of_getElem? (i := 51) rfl))) (Or.inl (hw _ (List.mem_of_getElem? (i := 13) rfl))) (by decide) (by decide) (by decide)))
  have f49 : Fld Z h34 a "com/example/glacis/glacis/analysis/Bdd" "stackPhase" "[I" .null := Fld.other W37 f26 (Or.inr (slot_ne (t := (.array .int)) (t' := (.array .int)) (Or.inl (hw _ (List.mem_of_getElem? (i := 53) rfl))) (Or.inl (hw _ (List.mem_of_getElem? (i := 13) rfl))) (by decide) (by decide) (by decide)))
  have f50 : Fld Z h34 a "com/example/glacis/glacis/analysis/Bdd" "size" "I" (.int 0) := Fld.other W37 f27 (Or.inr (slot_ne (t := .int) (t' := (.array .int)) (Or.inl (hw _ (List.mem_of_getElem? (i := 23) rfl))) (Or.inl (hw _ (List.mem_of_getElem? (i := 13) rfl))) (by decide) (by decide) (by decide)))
  have f51 : Fld Z h34 a "com/example/glacis/glacis/analysis/Bdd" "variables" "I" (.int 0) := Fld.other W37 f28 (Or.inr (slot_ne (t := .int) (t' := (.array .int)) (Or.inl (hw _ (List.mem_of_getElem? (i := 80) rfl))) (Or.inl (hw _ (List.mem_of_getElem? (i := 13) rfl))) (by decide) (by decide) (by decide)))
  have f52 : Fld Z h34 a "com/example/glacis/glacis/analysis/Bdd" "slack" "I" (.int 0) := Fld.other W37 f29 (Or.inr (slot_ne (t := .int) (t' := (.array .int)) (Or.inr (hw _ (List.mem_of_getElem? (i := 55) rfl))) (Or.inl (hw _ (List.mem_of_getElem? (i := 13) rfl))) (by decide) (by decide) (by decide)))
  have f53 : Fld Z h34 a "com/example/glacis/glacis/analysis/Bdd" "collectAt" "I" (.int 0) := Fld.other W37 f30 (Or.inr (slot_ne (t := .int) (t' := (.array .int)) (Or.inl (hw _ (List.mem_of_getElem? (i := 57) rfl))) (Or.inl (hw _ (List.mem_of_getElem? (i := 13) rfl))) (by decide) (by decide) (by decide)))
  have f54 : Ar Z h34 b4 .int 1024 (fun _ => (.int 0)) := f32.other W37 (Ne.symm n12)
  have z55 : n0 ≤ h34.size := by rw [Wr.size W37]; exact z31
  have f56 : Fld Z h34 a "com/example/glacis/glacis/analysis/Bdd" "level" "[I" (.ref b4) := Fld.same W37 f15
  have N57 : Fr n0 _ := Fr.snoc X35 (Fr.nil _) ga
  show Go p e below _ (T33.setTop (mkF m 13 #[.val (.ref a), .val (.int x1), .unset, .unset, .unset, .unset] []))
  refine Go.aloadN (pc' := 14) X35 hx hby d1_13 rfl rfl rfl ?_
  refine Go.aloadN (pc' := 15) X35 hx hby d1_14 rfl rfl rfl ?_
  refine Go.getF (pc' := 18) X35 hx hby hZ hown (hw _ (List.mem_of_getElem? (i := 12) rfl)) Via.refl e36 f56 d1_15 rfl ?_
  intro T58 X59 e60
  refine Go.alen (pc' := 19) (zv := (1024 : Int32)) X59 hx hby hZ e60 f54 d1_18 rfl (by decide) ?_
  refine Go.newarr (pc' := 21) (cap := 1024) (z := 1024) X59 hx hby hZ (hw _ (List.mem_of_getElem? (i := 11) rfl)) e60 d1_19 rfl (by decide) (by decide) (by decide) (by decide) (by decide) (by decide) ?_
  intro b61 T62 h63 g64 X65 e66 E67 A68
  have n69 : a ≠ b61 := Nat.ne_of_lt (by rw [g64]; exact f38.lt)
  have n70 : b4 ≠ b61 := Nat.ne_of_lt (by rw [g64]; exact f54.lt)
  have g71 : n0 ≤ b61 := by rw [g64]; exact z55
  have f72 : Exa Z h63 a "com/example/glacis/glacis/analysis/Bdd" := Exa.ext E67 f38
  have f73 : Fld Z h63 a "com/example/glacis/glacis/analysis/Bdd" "level" "[I" (.ref b4) := Fld.ext E67 f56
  have f74 : Fld Z h63 a "com/example/glacis/glacis/analysis/Bdd" "low" "[I" .null := Fld.ext E67 f39
  have f75 : Fld Z h63 a "com/example/glacis/glacis/analysis/Bdd" "high" "[I" .null := Fld.ext E67 f40
  have f76 : Fld Z h63 a "com/example/glacis/glacis/analysis/Bdd" "chain" "[I" .null := Fld.ext E67 f41
  have f77 : Fld Z h63 a "com/example/glacis/glacis/analysis/Bdd" "buckets" "[I" .null := Fld.ext E67 f42
  have f78 : Fld Z h63 a "com/example/glacis/glacis/analysis/Bdd" "probabilities" "[D" .null := Fld.ext E67 f43
  have f79 : Fld Z h63 a "com/example/glacis/glacis/analysis/Bdd" "computed" "[Lcom/example/glacis/glacis/analysis/Bdd$Computed;" .null := Fld.ext E67 f44
  have f80 : Fld Z h63 a "com/example/glacis/glacis/analysis/Bdd" "stackFirst" "[I" .null := Fld.ext E67 f45
  have f81 : Fld Z h63 a "com/example/glacis/glacis/analysis/Bdd" "stackSecond" "[I" .null := Fld.ext E67 f46
  have f82 : Fld Z h63 a "com/example/glacis/glacis/analysis/Bdd" "stackLevel" "[I" .null := Fld.ext E67 f47
  have f83 : Fld Z h63 a "com/example/glacis/glacis/analysis/Bdd" "stackLow" "[I" .null := Fld.ext E67 f48
  have f84 : Fld Z h63 a "com/example/glacis/glacis/analysis/Bdd" "stackPhase" "[I" .null := Fld.ext E67 f49
  have f85 : Fld Z h63 a "com/example/glacis/glacis/analysis/Bdd" "size" "I" (.int 0) := Fld.ext E67 f50
  have f86 : Fld Z h63 a "com/example/glacis/glacis/analysis/Bdd" "variables" "I" (.int 0) := Fld.ext E67 f51
  have f87 : Fld Z h63 a "com/example/glacis/glacis/analysis/Bdd" "slack" "I" (.int 0) := Fld.ext E67 f52
  have f88 : Fld Z h63 a "com/example/glacis/glacis/analysis/Bdd" "collectAt" "I" (.int 0) := Fld.ext E67 f53
  have f89 : Ar Z h63 b4 .int 1024 (fun _ => (.int 0)) := f54.ext E67
  have z90 : n0 ≤ h63.size := Nat.le_trans z55 E67.1
  have f91 : Ar Z h63 b61 .int 1024 (fun _ => (.int 0)) := A68
  show Go p e below _ (T62.setTop (mkF m 21 #[.val (.ref a), .val (.int x1), .unset, .unset, .unset, .unset] [(.ref b61), (.ref a)]))
  have l1_ : b4 < b61 := by rw [g64]; exact f54.lt
  refine Go.putF (pc' := 24) (ty := (.array .int)) X65 hx hby hZ hown (hw _ (List.mem_of_getElem? (i := 14) rfl)) Via.refl e66 f74 f72 (Or.inl (hw _ (List.mem_of_getElem? (i := 15) rfl))) (hw _ (List.mem_of_getElem? (i := 3) rfl)) (by decide) rfl rfl d1_21 rfl ?_
  intro T92 h93 X94 e95 W96
  have f97 : Exa Z h93 a "com/example/glacis/glacis/analysis/Bdd" := Exa.wr W96 f72
  have f98 : Fld Z h93 a "com/example/glacis/glacis/analysis/Bdd" "level" "[I" (.ref b4) := Fld.other W96 f73 (Or.inr (slot_ne (t := (.array .int)) (t' := (.array .int)) (Or.inl (hw _ (List.mem_of_getElem? (i := 13) rfl))) (Or.inl (hw _ (List.mem_of_getElem? (i := 15) rfl))) (by decide) (by decide) (by decide)))
  have f99 : Fld Z h93 a "com/example/glacis/glacis/analysis/Bdd" "high" "[I" .null := Fld.other W96 f75 (Or.inr (slot_ne (t := (.array .int)) (t' := (.array .int)) (Or.inl (hw _ (List.mem_of_getElem? (i := 17) rfl))) (Or.inl (hw _ (List.mem_of_getElem? (i := 15) rfl))) (by decide) (by decide) (by decide)))
  have f100 : Fld Z h93 a "com/example/glacis/glacis/analysis/Bdd" "chain" "[I" .null := Fld.other W96 f76 (Or.inr (slot_ne (t := (.array .int)) (t' := (.array .int)) (Or.inl (hw _ (List.mem_of_getElem? (i := 19) rfl))) (Or.inl (hw _ (List.mem_of_getElem? (i := 15) rfl))) (by decide) (by decide) (by decide)))
  have f101 : Fld Z h93 a "com/example/glacis/glacis/analysis/Bdd" "buckets" "[I" .null := Fld.other W96 f77 (Or.inr (slot_ne (t := (.array .int)) (t' := (.array .int)) (Or.inl (hw _ (List.mem_of_getElem? (i := 21) rfl))) (Or.inl (hw _ (List.mem_of_getElem? (i := 15) rfl))) (by decide) (by decide) (by decide)))
  have f102 : Fld Z h93 a "com/example/glacis/glacis/analysis/Bdd" "probabilities" "[D" .null := Fld.other W96 f78 (Or.inr (slot_ne (t := (.array .double)) (t' := (.array .int)) (Or.inl (hw _ (List.mem_of_getElem? (i := 26) rfl))) (Or.inl (hw _ (List.mem_of_getElem? (i := 15) rfl))) (by decide) (by decide) (by decide)))
  have f103 : Fld Z h93 a "com/example/glacis/glacis/analysis/Bdd" "computed" "[Lcom/example/glacis/glacis/analysis/Bdd$Computed;" .null := Fld.other W96 f79 (Or.inr (slot_ne (t := (.array (.object "com/example/glacis/glacis/analysis/Bdd$Computed"))) (t' := (.array .int)) (Or.inr (hw _ (List.mem_of_getElem? (i := 43) rfl))) (Or.inl (hw _ (List.mem_of_getElem? (i := 15) rfl))) (by decide) (by decide) (by decide)))
  have f104 : Fld Z h93 a "com/example/glacis/glacis/analysis/Bdd" "stackFirst" "[I" .null := Fld.other W96 f80 (Or.inr (slot_ne (t := (.array .int)) (t' := (.array .int)) (Or.inl (hw _ (List.mem_of_getElem? (i := 45) rfl))) (Or.inl (hw _ (List.mem_of_getElem? (i := 15) rfl))) (by decide) (by decide) (by decide)))
  have f105 : Fld Z h93 a "com/example/glacis/glacis/analysis/Bdd" "stackSecond" "[I" .null := Fld.other W96 f81 (Or.inr (slot_ne (t := (.array .int)) (t' := (.array .int)) (Or.inl (hw _ (List.mem_of_getElem? (i := 47) rfl))) (Or.inl (hw _ (List.mem_of_getElem? (i := 15) rfl))) (by decide) (by decide) (by decide)))
  have f106 : Fld Z h93 a "com/example/glacis/glacis/analysis/Bdd" "stackLevel" "[I" .null := Fld.other W96 f82 (Or.inr (slot_ne (t := (.array .int)) (t' := (.array .int)) (Or.inl (hw _ (List.mem_of_getElem? (i := 49) rfl))) (Or.inl (hw _ (List.mem_of_getElem? (i := 15) rfl))) (by decide) (by decide) (by decide)))
  have f107 : Fld Z h93 a "com/example/glacis/glacis/analysis/Bdd" "stackLow" "[I" .null := Fld.other W96 f83 (Or.inr (slot_ne (t := (.array .int)) (t' := (.array .int)) (Or.inl (hw _ (List.mem_of_getElem? (i := 51) rfl))) (Or.inl (hw _ (List.mem_of_getElem? (i := 15) rfl))) (by decide) (by decide) (by decide)))
  have f108 : Fld Z h93 a "com/example/glacis/glacis/analysis/Bdd" "stackPhase" "[I" .null := Fld.other W96 f84 (Or.inr (slot_ne (t := (.array .int)) (t' := (.array .int)) (Or.inl (hw _ (List.mem_of_getElem? (i := 53) rfl))) (Or.inl (hw _ (List.mem_of_getElem? (i := 15) rfl))) (by decide) (by decide) (by decide)))
  have f109 : Fld Z h93 a "com/example/glacis/glacis/analysis/Bdd" "size" "I" (.int 0) := Fld.other W96 f85 (Or.inr (slot_ne (t := .int) (t' := (.array .int)) (Or.inl (hw _ (List.mem_of_getElem? (i := 23) rfl))) (Or.inl (hw _ (List.mem_of_getElem? (i := 15) rfl))) (by decide) (by decide) (by decide)))
  have f110 : Fld Z h93 a "com/example/glacis/glacis/analysis/Bdd" "variables" "I" (.int 0) := Fld.other W96 f86 (Or.inr (slot_ne (t := .int) (t' := (.array .int)) (Or.inl (hw _ (List.mem_of_getElem? (i := 80) rfl))) (Or.inl (hw _ (List.mem_of_getElem? (i := 15) rfl))) (by decide) (by decide) (by decide)))
  have f111 : Fld Z h93 a "com/example/glacis/glacis/analysis/Bdd" "slack" "I" (.int 0) := Fld.other W96 f87 (Or.inr (slot_ne (t := .int) (t' := (.array .int)) (Or.inr (hw _ (List.mem_of_getElem? (i := 55) rfl))) (Or.inl (hw _ (List.mem_of_getElem? (i := 15) rfl))) (by decide) (by decide) (by decide)))
  have f112 : Fld Z h93 a "com/example/glacis/glacis/analysis/Bdd" "collectAt" "I" (.int 0) := Fld.other W96 f88 (Or.inr (slot_ne (t := .int) (t' := (.array .int)) (Or.inl (hw _ (List.mem_of_getElem? (i := 57) rfl))) (Or.inl (hw _ (List.mem_of_getElem? (i := 15) rfl))) (by decide) (by decide) (by decide)))
  have f113 : Ar Z h93 b4 .int 1024 (fun _ => (.int 0)) := f89.other W96 (Ne.symm n12)
  have f114 : Ar Z h93 b61 .int 1024 (fun _ => (.int 0)) := f91.other W96 (Ne.symm n69)
  have z115 : n0 ≤ h93.size := by rw [Wr.size W96]; exact z90
  have f116 : Fld Z h93 a "com/example/glacis/glacis/analysis/Bdd" "low" "[I" (.ref b61) := Fld.same W96 f74
  have N117 : Fr n0 _ := Fr.snoc X94 N57 ga
  show Go p e below _ (T92.setTop (mkF m 24 #[.val (.ref a), .val (.int x1), .unset, .unset, .unset, .unset] []))
  refine Go.aloadN (pc' := 25) X94 hx hby d1_24 rfl rfl rfl ?_
  refine Go.aloadN (pc' := 26) X94 hx hby d1_25 rfl rfl rfl ?_
  refine Go.getF (pc' := 29) X94 hx hby hZ hown (hw _ (List.mem_of_getElem? (i := 12) rfl)) Via.refl e95 f98 d1_26 rfl ?_
  intro T118 X119 e120
  refine Go.alen (pc' := 30) (zv := (1024 : Int32)) X119 hx hby hZ e120 f113 d1_29 rfl (by decide) ?_
  refine Go.newarr (pc' := 32) (cap := 1024) (z := 1024) X119 hx hby hZ (hw _ (List.mem_of_getElem? (i := 11) rfl)) e120 d1_30 rfl (by decide) (by decide) (by decide) (by decide) (by decide) (by decide) ?_
  intro b121 T122 h123 g124 X125 e126 E127 A128
  have n129 : a ≠ b121 := Nat.ne_of_lt (by rw [g124]; exact f97.lt)
  have n130 : b4 ≠ b121 := Nat.ne_of_lt (by rw [g124]; exact f113.lt)
  have n131 : b61 ≠ b121 := Nat.ne_of_lt (by rw [g124]; exact f114.lt)
  have g132 : n0 ≤ b121 := by rw [g124]; exact z115
  have f133 : Exa Z h123 a "com/example/glacis/glacis/analysis/Bdd" := Exa.ext E127 f97
  have f134 : Fld Z h123 a "com/example/glacis/glacis/analysis/Bdd" "level" "[I" (.ref b4) := Fld.ext E127 f98
  have f135 : Fld Z h123 a "com/example/glacis/glacis/analysis/Bdd" "low" "[I" (.ref b61) := Fld.ext E127 f116
  have f136 : Fld Z h123 a "com/example/glacis/glacis/analysis/Bdd" "high" "[I" .null := Fld.ext E127 f99
  have f137 : Fld Z h123 a "com/example/glacis/glacis/analysis/Bdd" "chain" "[I" .null := Fld.ext E127 f100
  have f138 : Fld Z h123 a "com/example/glacis/glacis/analysis/Bdd" "buckets" "[I" .null := Fld.ext E127 f101
  have f139 : Fld Z h123 a "com/example/glacis/glacis/analysis/Bdd" "probabilities" "[D" .null := Fld.ext E127 f102
  have f140 : Fld Z h123 a "com/example/glacis/glacis/analysis/Bdd" "computed" "[Lcom/example/glacis/glacis/analysis/Bdd$Computed;" .null := Fld.ext E127 f103
  have f141 : Fld Z h123 a "com/example/glacis/glacis/analysis/Bdd" "stackFirst" "[I" .null := Fld.ext E127 f104
  have f142 : Fld Z h123 a "com/example/glacis/glacis/analysis/Bdd" "stackSecond" "[I" .null := Fld.ext E127 f105
  have f143 : Fld Z h123 a "com/example/glacis/glacis/analysis/Bdd" "stackLevel" "[I" .null := Fld.ext E127 f106
  have f144 : Fld Z h123 a "com/example/glacis/glacis/analysis/Bdd" "stackLow" "[I" .null := Fld.ext E127 f107
  have f145 : Fld Z h123 a "com/example/glacis/glacis/analysis/Bdd" "stackPhase" "[I" .null := Fld.ext E127 f108
  have f146 : Fld Z h123 a "com/example/glacis/glacis/analysis/Bdd" "size" "I" (.int 0) := Fld.ext E127 f109
  have f147 : Fld Z h123 a "com/example/glacis/glacis/analysis/Bdd" "variables" "I" (.int 0) := Fld.ext E127 f110
  have f148 : Fld Z h123 a "com/example/glacis/glacis/analysis/Bdd" "slack" "I" (.int 0) := Fld.ext E127 f111
  have f149 : Fld Z h123 a "com/example/glacis/glacis/analysis/Bdd" "collectAt" "I" (.int 0) := Fld.ext E127 f112
  have f150 : Ar Z h123 b4 .int 1024 (fun _ => (.int 0)) := f113.ext E127
  have f151 : Ar Z h123 b61 .int 1024 (fun _ => (.int 0)) := f114.ext E127
  have z152 : n0 ≤ h123.size := Nat.le_trans z115 E127.1
  have f153 : Ar Z h123 b121 .int 1024 (fun _ => (.int 0)) := A128
  show Go p e below _ (T122.setTop (mkF m 32 #[.val (.ref a), .val (.int x1), .unset, .unset, .unset, .unset] [(.ref b121), (.ref a)]))
  have l2_ : b61 < b121 := by rw [g124]; exact f114.lt
  refine Go.putF (pc' := 35) (ty := (.array .int)) X125 hx hby hZ hown (hw _ (List.mem_of_getElem? (i := 16) rfl)) Via.refl e126 f136 f133 (Or.inl (hw _ (List.mem_of_getElem? (i := 17) rfl))) (hw _ (List.mem_of_getElem? (i := 3) rfl)) (by decide) rfl rfl d1_32 rfl ?_
  intro T154 h155 X156 e157 W158
  have f159 : Exa Z h155 a "com/example/glacis/glacis/analysis/Bdd" := Exa.wr W158 f133
  have f160 : Fld Z h155 a "com/example/glacis/glacis/analysis/Bdd" "level" "[I" (.ref b4) := Fld.other W158 f134 (Or.inr (slot_ne (t := (.array .int)) (t' := (.array .int)) (Or.inl (hw _ (List.mem_of_getElem? (i := 13) rfl))) (Or.inl (hw _ (List.mem_of_getElem? (i := 17) rfl))) (by decide) (by decide) (by decide)))
  have f161 : Fld Z h155 a "com/example/glacis/glacis/analysis/Bdd" "low" "[I" (.ref b61) := Fld.other W158 f135 (Or.inr (slot_ne (t := (.array .int)) (t' := (.array .int)) (Or.inl (hw _ (List.mem_of_getElem? (i := 15) rfl))) (Or.inl (hw _ (List.mem_of_getElem? (i := 17) rfl))) (by decide) (by decide) (by decide)))
  have f162 : Fld Z h155 a "com/example/glacis/glacis/analysis/Bdd" "chain" "[I" .null := Fld.other W158 f137 (Or.inr (slot_ne (t := (.array .int)) (t' := (.array .int)) (Or.inl (hw _ (List.mem_of_getElem? (i := 19) rfl))) (Or.inl (hw _ (List.mem_of_getElem? (i := 17) rfl))) (by decide) (by decide) (by decide)))
  have f163 : Fld Z h155 a "com/example/glacis/glacis/analysis/Bdd" "buckets" "[I" .null := Fld.other W158 f138 (Or.inr (slot_ne (t := (.array .int)) (t' := (.array .int)) (Or.inl (hw _ (List.mem_of_getElem? (i := 21) rfl))) (Or.inl (hw _ (List.mem_of_getElem? (i := 17) rfl))) (by decide) (by decide) (by decide)))
  have f164 : Fld Z h155 a "com/example/glacis/glacis/analysis/Bdd" "probabilities" "[D" .null := Fld.other W158 f139 (Or.inr (slot_ne (t := (.array .double)) (t' := (.array .int)) (Or.inl (hw _ (List.mem_of_getElem? (i := 26) rfl))) (Or.inl (hw _ (List.mem_of_getElem? (i := 17) rfl))) (by decide) (by decide) (by decide)))
  have f165 : Fld Z h155 a "com/example/glacis/glacis/analysis/Bdd" "computed" "[Lcom/example/glacis/glacis/analysis/Bdd$Computed;" .null := Fld.other W158 f140 (Or.inr (slot_ne (t := (.array (.object "com/example/glacis/glacis/analysis/Bdd$Computed"))) (t' := (.array .int)) (Or.inr (hw _ (List.mem_of_getElem? (i := 43) rfl))) (Or.inl (hw _ (List.mem_of_getElem? (i := 17) rfl))) (by decide) (by decide) (by decide)))
  have f166 : Fld Z h155 a "com/example/glacis/glacis/analysis/Bdd" "stackFirst" "[I" .null := Fld.other W158 f141 (Or.inr (slot_ne (t := (.array .int)) (t' := (.array .int)) (Or.inl (hw _ (List.mem_of_getElem? (i := 45) rfl))) (Or.inl (hw _ (List.mem_of_getElem? (i := 17) rfl))) (by decide) (by decide) (by decide)))
  have f167 : Fld Z h155 a "com/example/glacis/glacis/analysis/Bdd" "stackSecond" "[I" .null := Fld.other W158 f142 (Or.inr (slot_ne (t := (.array .int)) (t' := (.array .int)) (Or.inl (hw _ (List.mem_of_getElem? (i := 47) rfl))) (Or.inl (hw _ (List.mem_of_getElem? (i := 17) rfl))) (by decide) (by decide) (by decide)))
  have f168 : Fld Z h155 a "com/example/glacis/glacis/analysis/Bdd" "stackLevel" "[I" .null := Fld.other W158 f143 (Or.inr (slot_ne (t := (.array .int)) (t' := (.array .int)) (Or.inl (hw _ (List.mem_of_getElem? (i := 49) rfl))) (Or.inl (hw _ (List.mem_of_getElem? (i := 17) rfl))) (by decide) (by decide) (by decide)))
  have f169 : Fld Z h155 a "com/example/glacis/glacis/analysis/Bdd" "stackLow" "[I" .null := Fld.other W158 f144 (Or.inr (slot_ne (t := (.array .int)) (t' := (.array .int)) (Or.inl (hw _ (List.mem_of_getElem? (i := 51) rfl))) (Or.inl (hw _ (List.mem_of_getElem? (i := 17) rfl))) (by decide) (by decide) (by decide)))
  have f170 : Fld Z h155 a "com/example/glacis/glacis/analysis/Bdd" "stackPhase" "[I" .null := Fld.other W158 f145 (Or.inr (slot_ne (t := (.array .int)) (t' := (.array .int)) (Or.inl (hw _ (List.mem_of_getElem? (i := 53) rfl))) (Or.inl (hw _ (List.mem_of_getElem? (i := 17) rfl))) (by decide) (by decide) (by decide)))
  have f171 : Fld Z h155 a "com/example/glacis/glacis/analysis/Bdd" "size" "I" (.int 0) := Fld.other W158 f146 (Or.inr (slot_ne (t := .int) (t' := (.array .int)) (Or.inl (hw _ (List.mem_of_getElem? (i := 23) rfl))) (Or.inl (hw _ (List.mem_of_getElem? (i := 17) rfl))) (by decide) (by decide) (by decide)))
  have f172 : Fld Z h155 a "com/example/glacis/glacis/analysis/Bdd" "variables" "I" (.int 0) := Fld.other W158 f147 (Or.inr (slot_ne (t := .int) (t' := (.array .int)) (Or.inl (hw _ (List.mem_of_getElem? (i := 80) rfl))) (Or.inl (hw _ (List.mem_of_getElem? (i := 17) rfl))) (by decide) (by decide) (by decide)))
  have f173 : Fld Z h155 a "com/example/glacis/glacis/analysis/Bdd" "slack" "I" (.int 0) := Fld.other W158 f148 (Or.inr (slot_ne (t := .int) (t' := (.array .int)) (Or.inr (hw _ (List.mem_of_getElem? (i := 55) rfl))) (Or.inl (hw _ (List.mem_of_getElem? (i := 17) rfl))) (by decide) (by decide) (by decide)))
  have f174 : Fld Z h155 a "com/example/glacis/glacis/analysis/Bdd" "collectAt" "I" (.int 0) := Fld.other W158 f149 (Or.inr (slot_ne (t := .int) (t' := (.array .int)) (Or.inl (hw _ (List.mem_of_getElem? (i := 57) rfl))) (Or.inl (hw _ (List.mem_of_getElem? (i := 17) rfl))) (by decide) (by decide) (by decide)))
  have f175 : Ar Z h155 b4 .int 1024 (fun _ => (.int 0)) := f150.other W158 (Ne.symm n12)
  have f176 : Ar Z h155 b61 .int 1024 (fun _ => (.int 0)) := f151.other W158 (Ne.symm n69)
  have f177 : Ar Z h155 b121 .int 1024 (fun _ => (.int 0)) := f153.other W158 (Ne.symm n129)
  have z178 : n0 ≤ h155.size := by rw [Wr.size W158]; exact z152
  have f179 : Fld Z h155 a "com/example/glacis/glacis/analysis/Bdd" "high" "[I" (.ref b121) := Fld.same W158 f136
  have N180 : Fr n0 _ := Fr.snoc X156 N117 ga
  show Go p e below _ (T154.setTop (mkF m 35 #[.val (.ref a), .val (.int x1), .unset, .unset, .unset, .unset] []))
  refine Go.aloadN (pc' := 36) X156 hx hby d1_35 rfl rfl rfl ?_
  refine Go.aloadN (pc' := 37) X156 hx hby d1_36 rfl rfl rfl ?_
  refine Go.getF (pc' := 40) X156 hx hby hZ hown (hw _ (List.mem_of_getElem? (i := 12) rfl)) Via.refl e157 f160 d1_37 rfl ?_
  intro T181 X182 e183
  refine Go.alen (pc' := 41) (zv := (1024 : Int32)) X182 hx hby hZ e183 f175 d1_40 rfl (by decide) ?_
  refine Go.newarr (pc' := 43) (cap := 1024) (z := 1024) X182 hx hby hZ (hw _ (List.mem_of_getElem? (i := 11) rfl)) e183 d1_41 rfl (by decide) (by decide) (by decide) (by decide) (by decide) (by decide) ?_
  intro b184 T185 h186 g187 X188 e189 E190 A191
  have n192 : a ≠ b184 := Nat.ne_of_lt (by rw [g187]; exact f159.lt)
  have n193 : b4 ≠ b184 := Nat.ne_of_lt (by rw [g187]; exact f175.lt)
  have n194 : b61 ≠ b184 := Nat.ne_of_lt (by rw [g187]; exact f176.lt)
  have n195 : b121 ≠ b184 := Nat.ne_of_lt (by rw [g187]; exact f177.lt)
  have g196 : n0 ≤ b184 := by rw [g187]; exact z178
  have f197 : Exa Z h186 a "com/example/glacis/glacis/analysis/Bdd" := Exa.ext E190 f159
  have f198 : Fld Z h186 a "com/example/glacis/glacis/analysis/Bdd" "level" "[I" (.ref b4) := Fld.ext E190 f160
  have f199 : Fld Z h186 a "com/example/glacis/glacis/analysis/Bdd" "low" "[I" (.ref b61) := Fld.ext E190 f161
  have f200 : Fld Z h186 a "com/example/glacis/glacis/analysis/Bdd" "high" "[I" (.ref b121) := Fld.ext E190 f179
  have f201 : Fld Z h186 a "com/example/glacis/glacis/analysis/Bdd" "chain" "[I" .null := Fld.ext E190 f162
  have f202 : Fld Z h186 a "com/example/glacis/glacis/analysis/Bdd" "buckets" "[I" .null := Fld.ext E190 f163
  have f203 : Fld Z h186 a "com/example/glacis/glacis/analysis/Bdd" "probabilities" "[D" .null := Fld.ext E190 f164
  have f204 : Fld Z h186 a "com/example/glacis/glacis/analysis/Bdd" "computed" "[Lcom/example/glacis/glacis/analysis/Bdd$Computed;" .null := Fld.ext E190 f165
  have f205 : Fld Z h186 a "com/example/glacis/glacis/analysis/Bdd" "stackFirst" "[I" .null := Fld.ext E190 f166
  have f206 : Fld Z h186 a "com/example/glacis/glacis/analysis/Bdd" "stackSecond" "[I" .null := Fld.ext E190 f167
  have f207 : Fld Z h186 a "com/example/glacis/glacis/analysis/Bdd" "stackLevel" "[I" .null := Fld.ext E190 f168
  have f208 : Fld Z h186 a "com/example/glacis/glacis/analysis/Bdd" "stackLow" "[I" .null := Fld.ext E190 f169
  have f209 : Fld Z h186 a "com/example/glacis/glacis/analysis/Bdd" "stackPhase" "[I" .null := Fld.ext E190 f170
  have f210 : Fld Z h186 a "com/example/glacis/glacis/analysis/Bdd" "size" "I" (.int 0) := Fld.ext E190 f171
  have f211 : Fld Z h186 a "com/example/glacis/glacis/analysis/Bdd" "variables" "I" (.int 0) := Fld.ext E190 f172
  have f212 : Fld Z h186 a "com/example/glacis/glacis/analysis/Bdd" "slack" "I" (.int 0) := Fld.ext E190 f173
  have f213 : Fld Z h186 a "com/example/glacis/glacis/analysis/Bdd" "collectAt" "I" (.int 0) := Fld.ext E190 f174
  have f214 : Ar Z h186 b4 .int 1024 (fun _ => (.int 0)) := f175.ext E190
  have f215 : Ar Z h186 b61 .int 1024 (fun _ => (.int 0)) := f176.ext E190
  have f216 : Ar Z h186 b121 .int 1024 (fun _ => (.int 0)) := f177.ext E190
  have z217 : n0 ≤ h186.size := Nat.le_trans z178 E190.1
  have f218 : Ar Z h186 b184 .int 1024 (fun _ => (.int 0)) := A191
  show Go p e below _ (T185.setTop (mkF m 43 #[.val (.ref a), .val (.int x1), .unset, .unset, .unset, .unset] [(.ref b184), (.ref a)]))
  have l3_ : b121 < b184 := by rw [g187]; exact f177.lt
  refine Go.putF (pc' := 46) (ty := (.array .int)) X188 hx hby hZ hown (hw _ (List.mem_of_getElem? (i := 18) rfl)) Via.refl e189 f201 f197 (Or.inl (hw _ (List.mem_of_getElem? (i := 19) rfl))) (hw _ (List.mem_of_getElem? (i := 3) rfl)) (by decide) rfl rfl d1_43 rfl ?_
  intro T219 h220 X221 e222 W223
  have f224 : Exa Z h220 a "com/example/glacis/glacis/analysis/Bdd" := Exa.wr W223 f197
  have f225 : Fld Z h220 a "com/example/glacis/glacis/analysis/Bdd" "level" "[I" (.ref b4) := Fld.other W223 f198 (Or.inr (slot_ne (t := (.array .int)) (t' := (.array .int)) (Or.inl (hw _ (List.mem_of_getElem? (i := 13) rfl))) (Or.inl (hw _ (List.mem_of_getElem? (i := 19) rfl))) (by decide) (by decide) (by decide)))
  have f226 : Fld Z h220 a "com/example/glacis/glacis/analysis/Bdd" "low" "[I" (.ref b61) := Fld.other W223 f199 (Or.inr (slot_ne (t := (.array .int)) (t' := (.array .int)) (Or.inl (hw _ (List.mem_of_getElem? (i := 15) rfl))) (Or.inl (hw _ (List.mem_of_getElem? (i := 19) rfl))) (by decide) (by decide) (by decide)))
  have f227 : Fld Z h220 a "com/example/glacis/glacis/analysis/Bdd" "high" "[I" (.ref b121) := Fld.other W223 f200 (Or.inr (slot_ne (t := (.array .int)) (t' := (.array .int)) (Or.inl (hw _ (List.mem_of_getElem? (i := 17) rfl))) (Or.inl (hw _ (List.mem_of_getElem? (i := 19) rfl))) (by decide) (by decide) (by decide)))
  have f228 : Fld Z h220 a "com/example/glacis/glacis/analysis/Bdd" "buckets" "[I" .null := Fld.other W223 f202 (Or.inr (slot_ne (t := (.array .int)) (t' := (.array .int)) (Or.inl (hw _ (List.mem_of_getElem? (i := 21) rfl))) (Or.inl (hw _ (List.mem_of_getElem? (i := 19) rfl))) (by decide) (by decide) (by decide)))
  have f229 : Fld Z h220 a "com/example/glacis/glacis/analysis/Bdd" "probabilities" "[D" .null := Fld.other W223 f203 (Or.inr (slot_ne (t := (.array .double)) (t' := (.array .int)) (Or.inl (hw _ (List.mem_of_getElem? (i := 26) rfl))) (Or.inl (hw _ (List.mem_of_getElem? (i := 19) rfl))) (by decide) (by decide) (by decide)))
  have f230 : Fld Z h220 a "com/example/glacis/glacis/analysis/Bdd" "computed" "[Lcom/example/glacis/glacis/analysis/Bdd$Computed;" .null := Fld.other W223 f204 (Or.inr (slot_ne (t := (.array (.object "com/example/glacis/glacis/analysis/Bdd$Computed"))) (t' := (.array .int)) (Or.inr (hw _ (List.mem_of_getElem? (i := 43) rfl))) (Or.inl (hw _ (List.mem_of_getElem? (i := 19) rfl))) (by decide) (by decide) (by decide)))
  have f231 : Fld Z h220 a "com/example/glacis/glacis/analysis/Bdd" "stackFirst" "[I" .null := Fld.other W223 f205 (Or.inr (slot_ne (t := (.array .int)) (t' := (.array .int)) (Or.inl (hw _ (List.mem_of_getElem? (i := 45) rfl))) (Or.inl (hw _ (List.mem_of_getElem? (i := 19) rfl))) (by decide) (by decide) (by decide)))
  have f232 : Fld Z h220 a "com/example/glacis/glacis/analysis/Bdd" "stackSecond" "[I" .null := Fld.other W223 f206 (Or.inr (slot_ne (t := (.array .int)) (t' := (.array .int)) (Or.inl (hw _ (List.mem_of_getElem? (i := 47) rfl))) (Or.inl (hw _ (List.mem_of_getElem? (i := 19) rfl))) (by decide) (by decide) (by decide)))
  have f233 : Fld Z h220 a "com/example/glacis/glacis/analysis/Bdd" "stackLevel" "[I" .null := Fld.other W223 f207 (Or.inr (slot_ne (t := (.array .int)) (t' := (.array .int)) (Or.inl (hw _ (List.mem_of_getElem? (i := 49) rfl))) (Or.inl (hw _ (List.mem_of_getElem? (i := 19) rfl))) (by decide) (by decide) (by decide)))
  have f234 : Fld Z h220 a "com/example/glacis/glacis/analysis/Bdd" "stackLow" "[I" .null := Fld.other W223 f208 (Or.inr (slot_ne (t := (.array .int)) (t' := (.array .int)) (Or.inl (hw _ (List.mem_of_getElem? (i := 51) rfl))) (Or.inl (hw _ (List.mem_of_getElem? (i := 19) rfl))) (by decide) (by decide) (by decide)))
  have f235 : Fld Z h220 a "com/example/glacis/glacis/analysis/Bdd" "stackPhase" "[I" .null := Fld.other W223 f209 (Or.inr (slot_ne (t := (.array .int)) (t' := (.array .int)) (Or.inl (hw _ (List.mem_of_getElem? (i := 53) rfl))) (Or.inl (hw _ (List.mem_of_getElem? (i := 19) rfl))) (by decide) (by decide) (by decide)))
  have f236 : Fld Z h220 a "com/example/glacis/glacis/analysis/Bdd" "size" "I" (.int 0) := Fld.other W223 f210 (Or.inr (slot_ne (t := .int) (t' := (.array .int)) (Or.inl (hw _ (List.mem_of_getElem? (i := 23) rfl))) (Or.inl (hw _ (List.mem_of_getElem? (i := 19) rfl))) (by decide) (by decide) (by decide)))
  have f237 : Fld Z h220 a "com/example/glacis/glacis/analysis/Bdd" "variables" "I" (.int 0) := Fld.other W223 f211 (Or.inr (slot_ne (t := .int) (t' := (.array .int)) (Or.inl (hw _ (List.mem_of_getElem? (i := 80) rfl))) (Or.inl (hw _ (List.mem_of_getElem? (i := 19) rfl))) (by decide) (by decide) (by decide)))
  have f238 : Fld Z h220 a "com/example/glacis/glacis/analysis/Bdd" "slack" "I" (.int 0) := Fld.other W223 f212 (Or.inr (slot_ne (t := .int) (t' := (.array .int)) (Or.inr (hw _ (List.mem_of_getElem? (i := 55) rfl))) (Or.inl (hw _ (List.mem_of_getElem? (i := 19) rfl))) (by decide) (by decide) (by decide)))
  have f239 : Fld Z h220 a "com/example/glacis/glacis/analysis/Bdd" "collectAt" "I" (.int 0) := Fld.other W223 f213 (Or.inr (slot_ne (t := .int) (t' := (.array .int)) (Or.inl (hw _ (List.mem_of_getElem? (i := 57) rfl))) (Or.inl (hw _ (List.mem_of_getElem? (i := 19) rfl))) (by decide) (by decide) (by decide)))
  have f240 : Ar Z h220 b4 .int 1024 (fun _ => (.int 0)) := f214.other W223 (Ne.symm n12)
  have f241 : Ar Z h220 b61 .int 1024 (fun _ => (.int 0)) := f215.other W223 (Ne.symm n69)
  have f242 : Ar Z h220 b121 .int 1024 (fun _ => (.int 0)) := f216.other W223 (Ne.symm n129)
  have f243 : Ar Z h220 b184 .int 1024 (fun _ => (.int 0)) := f218.other W223 (Ne.symm n192)
  have z244 : n0 ≤ h220.size := by rw [Wr.size W223]; exact z217
  have f245 : Fld Z h220 a "com/example/glacis/glacis/analysis/Bdd" "chain" "[I" (.ref b184) := Fld.same W223 f201
  have N246 : Fr n0 _ := Fr.snoc X221 N180 ga
  show Go p e below _ (T219.setTop (mkF m 46 #[.val (.ref a), .val (.int x1), .unset, .unset, .unset, .unset] []))
  refine Go.aloadN (pc' := 47) X221 hx hby d1_46 rfl rfl rfl ?_
  refine Go.aloadN (pc' := 48) X221 hx hby d1_47 rfl rfl rfl ?_
  refine Go.getF (pc' := 51) X221 hx hby hZ hown (hw _ (List.mem_of_getElem? (i := 12) rfl)) Via.refl e222 f225 d1_48 rfl ?_
  intro T247 X248 e249
  refine Go.alen (pc' := 52) (zv := (1024 : Int32)) X248 hx hby hZ e249 f240 d1_51 rfl (by decide) ?_
  refine Go.newarr (pc' := 54) (cap := 1024) (z := 1024) X248 hx hby hZ (hw _ (List.mem_of_getElem? (i := 11) rfl)) e249 d1_52 rfl (by decide) (by decide) (by decide) (by decide) (by decide) (by decide) ?_
  intro b250 T251 h252 g253 X254 e255 E256 A257
  have n258 : a ≠ b250 := Nat.ne_of_lt (by rw [g253]; exact f224.lt)
  have n259 : b4 ≠ b250 := Nat.ne_of_lt (by rw [g253]; exact f240.lt)
  have n260 : b61 ≠ b250 := Nat.ne_of_lt (by rw [g253]; exact f241.lt)
  have n261 : b121 ≠ b250 := Nat.ne_of_lt (by rw [g253]; exact f242.lt)
  have n262 : b184 ≠ b250 := Nat.ne_of_lt (by rw [g253]; exact f243.lt)
  have g263 : n0 ≤ b250 := by rw [g253]; exact z244
  have f264 : Exa Z h252 a "com/example/glacis/glacis/analysis/Bdd" := Exa.ext E256 f224
  have f265 : Fld Z h252 a "com/example/glacis/glacis/analysis/Bdd" "level" "[I" (.ref b4) := Fld.ext E256 f225
  have f266 : Fld Z h252 a "com/example/glacis/glacis/analysis/Bdd" "low" "[I" (.ref b61) := Fld.ext E256 f226
  have f267 : Fld Z h252 a "com/example/glacis/glacis/analysis/Bdd" "high" "[I" (.ref b121) := Fld.ext E256 f227
  have f268 : Fld Z h252 a "com/example/glacis/glacis/analysis/Bdd" "chain" "[I" (.ref b184) := Fld.ext E256 f245
  have f269 : Fld Z h252 a "com/example/glacis/glacis/analysis/Bdd" "buckets" "[I" .null := Fld.ext E256 f228
  have f270 : Fld Z h252 a "com/example/glacis/glacis/analysis/Bdd" "probabilities" "[D" .null := Fld.ext E256 f229
  have f271 : Fld Z h252 a "com/example/glacis/glacis/analysis/Bdd" "computed" "[Lcom/example/glacis/glacis/analysis/Bdd$Computed;" .null := Fld.ext E256 f230
  have f272 : Fld Z h252 a "com/example/glacis/glacis/analysis/Bdd" "stackFirst" "[I" .null := Fld.ext E256 f231
  have f273 : Fld Z h252 a "com/example/glacis/glacis/analysis/Bdd" "stackSecond" "[I" .null := Fld.ext E256 f232
  have f274 : Fld Z h252 a "com/example/glacis/glacis/analysis/Bdd" "stackLevel" "[I" .null := Fld.ext E256 f233
  have f275 : Fld Z h252 a "com/example/glacis/glacis/analysis/Bdd" "stackLow" "[I" .null := Fld.ext E256 f234
  have f276 : Fld Z h252 a "com/example/glacis/glacis/analysis/Bdd" "stackPhase" "[I" .null := Fld.ext E256 f235
  have f277 : Fld Z h252 a "com/example/glacis/glacis/analysis/Bdd" "size" "I" (.int 0) := Fld.ext E256 f236
  have f278 : Fld Z h252 a "com/example/glacis/glacis/analysis/Bdd" "variables" "I" (.int 0) := Fld.ext E256 f237
  have f279 : Fld Z h252 a "com/example/glacis/glacis/analysis/Bdd" "slack" "I" (.int 0) := Fld.ext E256 f238
  have f280 : Fld Z h252 a "com/example/glacis/glacis/analysis/Bdd" "collectAt" "I" (.int 0) := Fld.ext E256 f239
  have f281 : Ar Z h252 b4 .int 1024 (fun _ => (.int 0)) := f240.ext E256
  have f282 : Ar Z h252 b61 .int 1024 (fun _ => (.int 0)) := f241.ext E256
  have f283 : Ar Z h252 b121 .int 1024 (fun _ => (.int 0)) := f242.ext E256
  have f284 : Ar Z h252 b184 .int 1024 (fun _ => (.int 0)) := f243.ext E256
  have z285 : n0 ≤ h252.size := Nat.le_trans z244 E256.1
  have f286 : Ar Z h252 b250 .int 1024 (fun _ => (.int 0)) := A257
  show Go p e below _ (T251.setTop (mkF m 54 #[.val (.ref a), .val (.int x1), .unset, .unset, .unset, .unset] [(.ref b250), (.ref a)]))
  have l4_ : b184 < b250 := by rw [g253]; exact f243.lt
  refine Go.putF (pc' := 57) (ty := (.array .int)) X254 hx hby hZ hown (hw _ (List.mem_of_getElem? (i := 20) rfl)) Via.refl e255 f269 f264 (Or.inl (hw _ (List.mem_of_getElem? (i := 21) rfl))) (hw _ (List.mem_of_getElem? (i := 3) rfl)) (by decide) rfl rfl d1_54 rfl ?_
  intro T287 h288 X289 e290 W291
  have f292 : Exa Z h288 a "com/example/glacis/glacis/analysis/Bdd" := Exa.wr W291 f264
  have f293 : Fld Z h288 a "com/example/glacis/glacis/analysis/Bdd" "level" "[I" (.ref b4) := Fld.other W291 f265 (Or.inr (slot_ne (t := (.array .int)) (t' := (.array .int)) (Or.inl (hw _ (List.mem_of_getElem? (i := 13) rfl))) (Or.inl (hw _ (List.mem_of_getElem? (i := 21) rfl))) (by decide) (by decide) (by decide)))
  have f294 : Fld Z h288 a "com/example/glacis/glacis/analysis/Bdd" "low" "[I" (.ref b61) := Fld.other W291 f266 (Or.inr (slot_ne (t := (.array .int)) (t' := (.array .int)) (Or.inl (hw _ (List.mem_of_getElem? (i := 15) rfl))) (Or.inl (hw _ (List.mem_of_getElem? (i := 21) rfl))) (by decide) (by decide) (by decide)))
  have f295 : Fld Z h288 a "com/example/glacis/glacis/analysis/Bdd" "high" "[I" (.ref b121) := Fld.other W291 f267 (Or.inr (slot_ne (t := (.array .int)) (t' := (.array .int)) (Or.inl (hw _ (List.mem_of_getElem? (i := 17) rfl))) (Or.inl (hw _ (List.mem_of_getElem? (i := 21) rfl))) (by decide) (by decide) (by decide)))
  have f296 : Fld Z h288 a "com/example/glacis/glacis/analysis/Bdd" "chain" "[I" (.ref b184) := Fld.other W291 f268 (Or.inr (slot_ne (t := (.array .int)) (t' := (.array .int)) (Or.inl (hw _ (List.mem_of_getElem? (i := 19) rfl))) (Or.inl (hw _ (List.mem_of_getElem? (i := 21) rfl))) (by decide) (by decide) (by decide)))
  have f297 : Fld Z h288 a "com/example/glacis/glacis/analysis/Bdd" "probabilities" "[D" .null := Fld.other W291 f270 (Or.inr (slot_ne (t := (.array .double)) (t' := (.array .int)) (Or.inl (hw _ (List.mem_of_getElem? (i := 26) rfl))) (Or.inl (hw _ (List.mem_of_getElem? (i := 21) rfl))) (by decide) (by decide) (by decide)))
  have f298 : Fld Z h288 a "com/example/glacis/glacis/analysis/Bdd" "computed" "[Lcom/example/glacis/glacis/analysis/Bdd$Computed;" .null := Fld.other W291 f271 (Or.inr (slot_ne (t := (.array (.object "com/example/glacis/glacis/analysis/Bdd$Computed"))) (t' := (.array .int)) (Or.inr (hw _ (List.mem_of_getElem? (i := 43) rfl))) (Or.inl (hw _ (List.mem_of_getElem? (i := 21) rfl))) (by decide) (by decide) (by decide)))
  have f299 : Fld Z h288 a "com/example/glacis/glacis/analysis/Bdd" "stackFirst" "[I" .null := Fld.other W291 f272 (Or.inr (slot_ne (t := (.array .int)) (t' := (.array .int)) (Or.inl (hw _ (List.mem_of_getElem? (i := 45) rfl))) (Or.inl (hw _ (List.mem_of_getElem? (i := 21) rfl))) (by decide) (by decide) (by decide)))
  have f300 : Fld Z h288 a "com/example/glacis/glacis/analysis/Bdd" "stackSecond" "[I" .null := Fld.other W291 f273 (Or.inr (slot_ne (t := (.array .int)) (t' := (.array .int)) (Or.inl (hw _ (List.mem_of_getElem? (i := 47) rfl))) (Or.inl (hw _ (List.mem_of_getElem? (i := 21) rfl))) (by decide) (by decide) (by decide)))
  have f301 : Fld Z h288 a "com/example/glacis/glacis/analysis/Bdd" "stackLevel" "[I" .null := Fld.other W291 f274 (Or.inr (slot_ne (t := (.array .int)) (t' := (.array .int)) (Or.inl (hw _ (List.mem_of_getElem? (i := 49) rfl))) (Or.inl (hw _ (List.mem_of_getElem? (i := 21) rfl))) (by decide) (by decide) (by decide)))
  have f302 : Fld Z h288 a "com/example/glacis/glacis/analysis/Bdd" "stackLow" "[I" .null := Fld.other W291 f275 (Or.inr (slot_ne (t := (.array .int)) (t' := (.array .int)) (Or.inl (hw _ (List.mem_of_getElem? (i := 51) rfl))) (Or.inl (hw _ (List.mem_of_getElem? (i := 21) rfl))) (by decide) (by decide) (by decide)))
  have f303 : Fld Z h288 a "com/example/glacis/glacis/analysis/Bdd" "stackPhase" "[I" .null := Fld.other W291 f276 (Or.inr (slot_ne (t := (.array .int)) (t' := (.array .int)) (Or.inl (hw _ (List.mem_of_getElem? (i := 53) rfl))) (Or.inl (hw _ (List.mem_of_getElem? (i := 21) rfl))) (by decide) (by decide) (by decide)))
  have f304 : Fld Z h288 a "com/example/glacis/glacis/analysis/Bdd" "size" "I" (.int 0) := Fld.other W291 f277 (Or.inr (slot_ne (t := .int) (t' := (.array .int)) (Or.inl (hw _ (List.mem_of_getElem? (i := 23) rfl))) (Or.inl (hw _ (List.mem_of_getElem? (i := 21) rfl))) (by decide) (by decide) (by decide)))
  have f305 : Fld Z h288 a "com/example/glacis/glacis/analysis/Bdd" "variables" "I" (.int 0) := Fld.other W291 f278 (Or.inr (slot_ne (t := .int) (t' := (.array .int)) (Or.inl (hw _ (List.mem_of_getElem? (i := 80) rfl))) (Or.inl (hw _ (List.mem_of_getElem? (i := 21) rfl))) (by decide) (by decide) (by decide)))
  have f306 : Fld Z h288 a "com/example/glacis/glacis/analysis/Bdd" "slack" "I" (.int 0) := Fld.other W291 f279 (Or.inr (slot_ne (t := .int) (t' := (.array .int)) (Or.inr (hw _ (List.mem_of_getElem? (i := 55) rfl))) (Or.inl (hw _ (List.mem_of_getElem? (i := 21) rfl))) (by decide) (by decide) (by decide)))
  have f307 : Fld Z h288 a "com/example/glacis/glacis/analysis/Bdd" "collectAt" "I" (.int 0) := Fld.other W291 f280 (Or.inr (slot_ne (t := .int) (t' := (.array .int)) (Or.inl (hw _ (List.mem_of_getElem? (i := 57) rfl))) (Or.inl (hw _ (List.mem_of_getElem? (i := 21) rfl))) (by decide) (by decide) (by decide)))
  have f308 : Ar Z h288 b4 .int 1024 (fun _ => (.int 0)) := f281.other W291 (Ne.symm n12)
  have f309 : Ar Z h288 b61 .int 1024 (fun _ => (.int 0)) := f282.other W291 (Ne.symm n69)
  have f310 : Ar Z h288 b121 .int 1024 (fun _ => (.int 0)) := f283.other W291 (Ne.symm n129)
  have f311 : Ar Z h288 b184 .int 1024 (fun _ => (.int 0)) := f284.other W291 (Ne.symm n192)
  have f312 : Ar Z h288 b250 .int 1024 (fun _ => (.int 0)) := f286.other W291 (Ne.symm n258)
  have z313 : n0 ≤ h288.size := by rw [Wr.size W291]; exact z285
  have f314 : Fld Z h288 a "com/example/glacis/glacis/analysis/Bdd" "buckets" "[I" (.ref b250) := Fld.same W291 f269
  have N315 : Fr n0 _ := Fr.snoc X289 N246 ga
  show Go p e below _ (T287.setTop (mkF m 57 #[.val (.ref a), .val (.int x1), .unset, .unset, .unset, .unset] []))
  refine Go.aloadN (pc' := 58) X289 hx hby d1_57 rfl rfl rfl ?_
  refine Go.iconst (pc' := 59) X289 hx hby d1_58 rfl (v := (2 : Int32)) (by decide) ?_
  refine Go.putF (pc' := 62) (ty := .int) X289 hx hby hZ hown (hw _ (List.mem_of_getElem? (i := 22) rfl)) Via.refl e290 f304 f292 (Or.inl (hw _ (List.mem_of_getElem? (i := 23) rfl))) (hw _ (List.mem_of_getElem? (i := 3) rfl)) (by decide) rfl rfl d1_59 rfl ?_
  intro T316 h317 X318 e319 W320
  have f321 : Exa Z h317 a "com/example/glacis/glacis/analysis/Bdd" := Exa.wr W320 f292
  have f322 : Fld Z h317 a "com/example/glacis/glacis/analysis/Bdd" "level" "[I" (.ref b4) := Fld.other W320 f293 (Or.inr (slot_ne (t := (.array .int)) (t' := .int) (Or.inl (hw _ (List.mem_of_getElem? (i := 13) rfl))) (Or.inl (hw _ (List.mem_of_getElem? (i := 23) rfl))) (by decide) (by decide) (by decide)))
  have f323 : Fld Z h317 a "com/example/glacis/glacis/analysis/Bdd" "low" "[I" (.ref b61) := Fld.other W320 f294 (Or.inr (slot_ne (t := (.array .int)) (t' := .int) (Or.inl (hw _ (List.mem_of_getElem? (i := 15) rfl))) (Or.inl (hw _ (List.mem_of_getElem? (i := 23) rfl))) (by decide) (by decide) (by decide)))
  have f324 : Fld Z h317 a "com/example/glacis/glacis/analysis/Bdd" "high" "[I" (.ref b121) := Fld.other W320 f295 (Or.inr (slot_ne (t := (.array .int)) (t' := .int) (Or.inl (hw _ (List.mem_of_getElem? (i := 17) rfl))) (Or.inl (hw _ (List.mem_of_getElem? (i := 23) rfl))) (by decide) (by decide) (by decide)))
  have f325 : Fld Z h317 a "com/example/glacis/glacis/analysis/Bdd" "chain" "[I" (.ref b184) := Fld.other W320 f296 (Or.inr (slot_ne (t := (.array .int)) (t' := .int) (Or.inl (hw _ (List.mem_of_getElem? (i := 19) rfl))) (Or.inl (hw _ (List.mem_of_getElem? (i := 23) rfl))) (by decide) (by decide) (by decide)))
  have f326 : Fld Z h317 a "com/example/glacis/glacis/analysis/Bdd" "buckets" "[I" (.ref b250) := Fld.other W320 f314 (Or.inr (slot_ne (t := (.array .int)) (t' := .int) (Or.inl (hw _ (List.mem_of_getElem? (i := 21) rfl))) (Or.inl (hw _ (List.mem_of_getElem? (i := 23) rfl))) (by decide) (by decide) (by decide)))
  have f327 : Fld Z h317 a "com/example/glacis/glacis/analysis/Bdd" "probabilities" "[D" .null := Fld.other W320 f297 (Or.inr (slot_ne (t := (.array .double)) (t' := .int) (Or.inl (hw _ (List.mem_of_getElem? (i := 26) rfl))) (Or.inl (hw _ (List.mem_of_getElem? (i := 23) rfl))) (by decide) (by decide) (by decide)))
  have f328 : Fld Z h317 a "com/example/glacis/glacis/analysis/Bdd" "computed" "[Lcom/example/glacis/glacis/analysis/Bdd$Computed;" .null := Fld.other W320 f298 (Or.inr (slot_ne (t := (.array (.object "com/example/glacis/glacis/analysis/Bdd$Computed"))) (t' := .int) (Or.inr (hw _ (List.mem_of_getElem? (i := 43) rfl))) (Or.inl (hw _ (List.mem_of_getElem? (i := 23) rfl))) (by decide) (by decide) (by decide)))
  have f329 : Fld Z h317 a "com/example/glacis/glacis/analysis/Bdd" "stackFirst" "[I" .null := Fld.other W320 f299 (Or.inr (slot_ne (t := (.array .int)) (t' := .int) (Or.inl (hw _ (List.mem_of_getElem? (i := 45) rfl))) (Or.inl (hw _ (List.mem_of_getElem? (i := 23) rfl))) (by decide) (by decide) (by decide)))
  have f330 : Fld Z h317 a "com/example/glacis/glacis/analysis/Bdd" "stackSecond" "[I" .null := Fld.other W320 f300 (Or.inr (slot_ne (t := (.array .int)) (t' := .int) (Or.inl (hw _ (List.mem_of_getElem? (i := 47) rfl))) (Or.inl (hw _ (List.mem_of_getElem? (i := 23) rfl))) (by decide) (by decide) (by decide)))
  have f331 : Fld Z h317 a "com/example/glacis/glacis/analysis/Bdd" "stackLevel" "[I" .null := Fld.other W320 f301 (Or.inr (slot_ne (t := (.array .int)) (t' := .int) (Or.inl (hw _ (List.mem_of_getElem? (i := 49) rfl))) (Or.inl (hw _ (List.mem_of_getElem? (i := 23) rfl))) (by decide) (by decide) (by decide)))
  have f332 : Fld Z h317 a "com/example/glacis/glacis/analysis/Bdd" "stackLow" "[I" .null := Fld.other W320 f302 (Or.inr (slot_ne (t := (.array .int)) (t' := .int) (Or.inl (hw _ (List.mem_of_getElem? (i := 51) rfl))) (Or.inl (hw _ (List.mem_of_getElem? (i := 23) rfl))) (by decide) (by decide) (by decide)))
  have f333 : Fld Z h317 a "com/example/glacis/glacis/analysis/Bdd" "stackPhase" "[I" .null := Fld.other W320 f303 (Or.inr (slot_ne (t := (.array .int)) (t' := .int) (Or.inl (hw _ (List.mem_of_getElem? (i := 53) rfl))) (Or.inl (hw _ (List.mem_of_getElem? (i := 23) rfl))) (by decide) (by decide) (by decide)))
  have f334 : Fld Z h317 a "com/example/glacis/glacis/analysis/Bdd" "variables" "I" (.int 0) := Fld.other W320 f305 (Or.inr (slot_ne (t := .int) (t' := .int) (Or.inl (hw _ (List.mem_of_getElem? (i := 80) rfl))) (Or.inl (hw _ (List.mem_of_getElem? (i := 23) rfl))) (by decide) (by decide) (by decide)))
  have f335 : Fld Z h317 a "com/example/glacis/glacis/analysis/Bdd" "slack" "I" (.int 0) := Fld.other W320 f306 (Or.inr (slot_ne (t := .int) (t' := .int) (Or.inr (hw _ (List.mem_of_getElem? (i := 55) rfl))) (Or.inl (hw _ (List.mem_of_getElem? (i := 23) rfl))) (by decide) (by decide) (by decide)))
  have f336 : Fld Z h317 a "com/example/glacis/glacis/analysis/Bdd" "collectAt" "I" (.int 0) := Fld.other W320 f307 (Or.inr (slot_ne (t := .int) (t' := .int) (Or.inl (hw _ (List.mem_of_getElem? (i := 57) rfl))) (Or.inl (hw _ (List.mem_of_getElem? (i := 23) rfl))) (by decide) (by decide) (by decide)))
  have f337 : Ar Z h317 b4 .int 1024 (fun _ => (.int 0)) := f308.other W320 (Ne.symm n12)
  have f338 : Ar Z h317 b61 .int 1024 (fun _ => (.int 0)) := f309.other W320 (Ne.symm n69)
  have f339 : Ar Z h317 b121 .int 1024 (fun _ => (.int 0)) := f310.other W320 (Ne.symm n129)
  have f340 : Ar Z h317 b184 .int 1024 (fun _ => (.int 0)) := f311.other W320 (Ne.symm n192)
  have f341 : Ar Z h317 b250 .int 1024 (fun _ => (.int 0)) := f312.other W320 (Ne.symm n258)
  have z342 : n0 ≤ h317.size := by rw [Wr.size W320]; exact z313
  have f343 : Fld Z h317 a "com/example/glacis/glacis/analysis/Bdd" "size" "I" (.int (2 : Int32)) := Fld.same W320 f304
  have N344 : Fr n0 _ := Fr.snoc X318 N315 ga
  show Go p e below _ (T316.setTop (mkF m 62 #[.val (.ref a), .val (.int x1), .unset, .unset, .unset, .unset] []))
  refine Go.aloadN (pc' := 63) X318 hx hby d1_62 rfl rfl rfl ?_
  refine Go.bipush (pc' := 65) X318 hx hby d1_63 rfl (v := (16 : Int32)) (by decide) ?_
  refine Go.newarr (pc' := 67) (cap := 16) (z := 16) X318 hx hby hZ (hw _ (List.mem_of_getElem? (i := 24) rfl)) e319 d1_65 rfl (by decide) (by decide) (by decide) (by decide) (by decide) (by decide) ?_
  intro b345 T346 h347 g348 X349 e350 E351 A352
  have n353 : a ≠ b345 := Nat.ne_of_lt (by rw [g348]; exact f321.lt)
  have n354 : b4 ≠ b345 := Nat.ne_of_lt (by rw [g348]; exact f337.lt)
  have n355 : b61 ≠ b345 := Nat.ne_of_lt (by rw [g348]; exact f338.lt)
  have n356 : b121 ≠ b345 := Nat.ne_of_lt (by rw [g348]; exact f339.lt)
  have n357 : b184 ≠ b345 := Nat.ne_of_lt (by rw [g348]; exact f340.lt)
  have n358 : b250 ≠ b345 := Nat.ne_of_lt (by rw [g348]; exact f341.lt)
  have g359 : n0 ≤ b345 := by rw [g348]; exact z342
  have f360 : Exa Z h347 a "com/example/glacis/glacis/analysis/Bdd" := Exa.ext E351 f321
  have f361 : Fld Z h347 a "com/example/glacis/glacis/analysis/Bdd" "level" "[I" (.ref b4) := Fld.ext E351 f322
  have f362 : Fld Z h347 a "com/example/glacis/glacis/analysis/Bdd" "low" "[I" (.ref b61) := Fld.ext E351 f323
  have f363 : Fld Z h347 a "com/example/glacis/glacis/analysis/Bdd" "high" "[I" (.ref b121) := Fld.ext E351 f324
  have f364 : Fld Z h347 a "com/example/glacis/glacis/analysis/Bdd" "chain" "[I" (.ref b184) := Fld.ext E351 f325
  have f365 : Fld Z h347 a "com/example/glacis/glacis/analysis/Bdd" "buckets" "[I" (.ref b250) := Fld.ext E351 f326
  have f366 : Fld Z h347 a "com/example/glacis/glacis/analysis/Bdd" "probabilities" "[D" .null := Fld.ext E351 f327
  have f367 : Fld Z h347 a "com/example/glacis/glacis/analysis/Bdd" "computed" "[Lcom/example/glacis/glacis/analysis/Bdd$Computed;" .null := Fld.ext E351 f328
  have f368 : Fld Z h347 a "com/example/glacis/glacis/analysis/Bdd" "stackFirst" "[I" .null := Fld.ext E351 f329
  have f369 : Fld Z h347 a "com/example/glacis/glacis/analysis/Bdd" "stackSecond" "[I" .null := Fld.ext E351 f330
  have f370 : Fld Z h347 a "com/example/glacis/glacis/analysis/Bdd" "stackLevel" "[I" .null := Fld.ext E351 f331
  have f371 : Fld Z h347 a "com/example/glacis/glacis/analysis/Bdd" "stackLow" "[I" .null := Fld.ext E351 f332
  have f372 : Fld Z h347 a "com/example/glacis/glacis/analysis/Bdd" "stackPhase" "[I" .null := Fld.ext E351 f333
  have f373 : Fld Z h347 a "com/example/glacis/glacis/analysis/Bdd" "size" "I" (.int (2 : Int32)) := Fld.ext E351 f343
  have f374 : Fld Z h347 a "com/example/glacis/glacis/analysis/Bdd" "variables" "I" (.int 0) := Fld.ext E351 f334
  have f375 : Fld Z h347 a "com/example/glacis/glacis/analysis/Bdd" "slack" "I" (.int 0) := Fld.ext E351 f335
  have f376 : Fld Z h347 a "com/example/glacis/glacis/analysis/Bdd" "collectAt" "I" (.int 0) := Fld.ext E351 f336
  have f377 : Ar Z h347 b4 .int 1024 (fun _ => (.int 0)) := f337.ext E351
  have f378 : Ar Z h347 b61 .int 1024 (fun _ => (.int 0)) := f338.ext E351
  have f379 : Ar Z h347 b121 .int 1024 (fun _ => (.int 0)) := f339.ext E351
  have f380 : Ar Z h347 b184 .int 1024 (fun _ => (.int 0)) := f340.ext E351
  have f381 : Ar Z h347 b250 .int 1024 (fun _ => (.int 0)) := f341.ext E351
  have z382 : n0 ≤ h347.size := Nat.le_trans z342 E351.1
  have f383 : Ar Z h347 b345 .double 16 (fun _ => (.double 0)) := A352
  show Go p e below _ (T346.setTop (mkF m 67 #[.val (.ref a), .val (.int x1), .unset, .unset, .unset, .unset] [(.ref b345), (.ref a)]))
  have l5_ : b250 < b345 := by rw [g348]; exact f341.lt
  refine Go.putF (pc' := 70) (ty := (.array .double)) X349 hx hby hZ hown (hw _ (List.mem_of_getElem? (i := 25) rfl)) Via.refl e350 f366 f360 (Or.inl (hw _ (List.mem_of_getElem? (i := 26) rfl))) (hw _ (List.mem_of_getElem? (i := 3) rfl)) (by decide) rfl rfl d1_67 rfl ?_
  intro T384 h385 X386 e387 W388
  have f389 : Exa Z h385 a "com/example/glacis/glacis/analysis/Bdd" := Exa.wr W388 f360
  have f390 : Fld Z h385 a "com/example/glacis/glacis/analysis/Bdd" "level" "[I" (.ref b4) := Fld.other W388 f361 (Or.inr (slot_ne (t := (.array .int)) (t' := (.array .double)) (Or.inl (hw _ (List.mem_of_getElem? (i := 13) rfl))) (Or.inl (hw _ (List.mem_of_getElem? (i := 26) rfl))) (by decide) (by decide) (by decide)))
  have f391 : Fld Z h385 a "com/example/glacis/glacis/analysis/Bdd" "low" "[I" (.ref b61) := Fld.other W388 f362 (Or.inr (slot_ne (t := (.array .int)) (t' := (.array .double)) (Or.inl (hw _ (List.mem_of_getElem? (i := 15) rfl))) (Or.inl (hw _ (List.mem_of_getElem? (i := 26) rfl))) (by decide) (by decide) (by decide)))
  have f392 : Fld Z h385 a "com/example/glacis/glacis/analysis/Bdd" "high" "[I" (.ref b121) := Fld.other W388 f363 (Or.inr (slot_ne (t := (.array .int)) (t' := (.array .double)) (Or.inl (hw _ (List.mem_of_getElem? (i := 17) rfl))) (Or.inl (hw _ (List.mem_of_getElem? (i := 26) rfl))) (by decide) (by decide) (by decide)))
  have f393 : Fld Z h385 a "com/example/glacis/glacis/analysis/Bdd" "chain" "[I" (.ref b184) := Fld.other W388 f364 (Or.inr (slot_ne (t := (.array .int)) (t' := (.array .double)) (Or.inl (hw _ (List.mem_of_getElem? (i := 19) rfl))) (Or.inl (hw _ (List.mem_of_getElem? (i := 26) rfl))) (by decide) (by decide) (by decide)))
  have f394 : Fld Z h385 a "com/example/glacis/glacis/analysis/Bdd" "buckets" "[I" (.ref b250) := Fld.other W388 f365 (Or.inr (slot_ne (t := (.array .int)) (t' := (.array .double)) (Or.inl (hw _ (List.mem_of_getElem? (i := 21) rfl))) (Or.inl (hw _ (List.mem_of_getElem? (i := 26) rfl))) (by decide) (by decide) (by decide)))
  have f395 : Fld Z h385 a "com/example/glacis/glacis/analysis/Bdd" "computed" "[Lcom/example/glacis/glacis/analysis/Bdd$Computed;" .null := Fld.other W388 f367 (Or.inr (slot_ne (t := (.array (.object "com/example/glacis/glacis/analysis/Bdd$Computed"))) (t' := (.array .double)) (Or.inr (hw _ (List.mem_of_getElem? (i := 43) rfl))) (Or.inl (hw _ (List.mem_of_getElem? (i := 26) rfl))) (by decide) (by decide) (by decide)))
  have f396 : Fld Z h385 a "com/example/glacis/glacis/analysis/Bdd" "stackFirst" "[I" .null := Fld.other W388 f368 (Or.inr (slot_ne (t := (.array .int)) (t' := (.array .double)) (Or.inl (hw _ (List.mem_of_getElem? (i := 45) rfl))) (Or.inl (hw _ (List.mem_of_getElem? (i := 26) rfl))) (by decide) (by decide) (by decide)))
  have f397 : Fld Z h385 a "com/example/glacis/glacis/analysis/Bdd" "stackSecond" "[I" .null := Fld.other W388 f369 (Or.inr (slot_ne (t := (.array .int)) (t' := (.array .double)) (Or.inl (hw _ (List.mem_of_getElem? (i := 47) rfl))) (Or.inl (hw _ (List.mem_of_getElem? (i := 26) rfl))) (by decide) (by decide) (by decide)))
  have f398 : Fld Z h385 a "com/example/glacis/glacis/analysis/Bdd" "stackLevel" "[I" .null := Fld.other W388 f370 (Or.inr (slot_ne (t := (.array .int)) (t' := (.array .double)) (Or.inl (hw _ (List.mem_of_getElem? (i := 49) rfl))) (Or.inl (hw _ (List.mem_of_getElem? (i := 26) rfl))) (by decide) (by decide) (by decide)))
  have f399 : Fld Z h385 a "com/example/glacis/glacis/analysis/Bdd" "stackLow" "[I" .null := Fld.other W388 f371 (Or.inr (slot_ne (t := (.array .int)) (t' := (.array .double)) (Or.inl (hw _ (List.mem_of_getElem? (i := 51) rfl))) (Or.inl (hw _ (List.mem_of_getElem? (i := 26) rfl))) (by decide) (by decide) (by decide)))
  have f400 : Fld Z h385 a "com/example/glacis/glacis/analysis/Bdd" "stackPhase" "[I" .null := Fld.other W388 f372 (Or.inr (slot_ne (t := (.array .int)) (t' := (.array .double)) (Or.inl (hw _ (List.mem_of_getElem? (i := 53) rfl))) (Or.inl (hw _ (List.mem_of_getElem? (i := 26) rfl))) (by decide) (by decide) (by decide)))
  have f401 : Fld Z h385 a "com/example/glacis/glacis/analysis/Bdd" "size" "I" (.int (2 : Int32)) := Fld.other W388 f373 (Or.inr (slot_ne (t := .int) (t' := (.array .double)) (Or.inl (hw _ (List.mem_of_getElem? (i := 23) rfl))) (Or.inl (hw _ (List.mem_of_getElem? (i := 26) rfl))) (by decide) (by decide) (by decide)))
  have f402 : Fld Z h385 a "com/example/glacis/glacis/analysis/Bdd" "variables" "I" (.int 0) := Fld.other W388 f374 (Or.inr (slot_ne (t := .int) (t' := (.array .double)) (Or.inl (hw _ (List.mem_of_getElem? (i := 80) rfl))) (Or.inl (hw _ (List.mem_of_getElem? (i := 26) rfl))) (by decide) (by decide) (by decide)))
  have f403 : Fld Z h385 a "com/example/glacis/glacis/analysis/Bdd" "slack" "I" (.int 0) := Fld.other W388 f375 (Or.inr (slot_ne (t := .int) (t' := (.array .double)) (Or.inr (hw _ (List.mem_of_getElem? (i := 55) rfl))) (Or.inl (hw _ (List.mem_of_getElem? (i := 26) rfl))) (by decide) (by decide) (by decide)))
  have f404 : Fld Z h385 a "com/example/glacis/glacis/analysis/Bdd" "collectAt" "I" (.int 0) := Fld.other W388 f376 (Or.inr (slot_ne (t := .int) (t' := (.array .double)) (Or.inl (hw _ (List.mem_of_getElem? (i := 57) rfl))) (Or.inl (hw _ (List.mem_of_getElem? (i := 26) rfl))) (by decide) (by decide) (by decide)))
  have f405 : Ar Z h385 b4 .int 1024 (fun _ => (.int 0)) := f377.other W388 (Ne.symm n12)
  have f406 : Ar Z h385 b61 .int 1024 (fun _ => (.int 0)) := f378.other W388 (Ne.symm n69)
  have f407 : Ar Z h385 b121 .int 1024 (fun _ => (.int 0)) := f379.other W388 (Ne.symm n129)
  have f408 : Ar Z h385 b184 .int 1024 (fun _ => (.int 0)) := f380.other W388 (Ne.symm n192)
  have f409 : Ar Z h385 b250 .int 1024 (fun _ => (.int 0)) := f381.other W388 (Ne.symm n258)
  have f410 : Ar Z h385 b345 .double 16 (fun _ => (.double 0)) := f383.other W388 (Ne.symm n353)
  have z411 : n0 ≤ h385.size := by rw [Wr.size W388]; exact z382
  have f412 : Fld Z h385 a "com/example/glacis/glacis/analysis/Bdd" "probabilities" "[D" (.ref b345) := Fld.same W388 f366
  have N413 : Fr n0 _ := Fr.snoc X386 N344 ga
  show Go p e below _ (T384.setTop (mkF m 70 #[.val (.ref a), .val (.int x1), .unset, .unset, .unset, .unset] []))
  refine Go.aloadN (pc' := 71) X386 hx hby d1_70 rfl rfl rfl ?_
  refine Go.iconst (pc' := 72) X386 hx hby d1_71 rfl (v := (2 : Int32)) (by decide) ?_
  refine Go.anewarr (C := "com/example/glacis/glacis/analysis/Bdd$Computed") (pc' := 75) (cap := 2) (z := 2) X386 hx hby hZ hown (hw _ (List.mem_of_getElem? (i := 27) rfl)) (hw _ (List.mem_of_getElem? (i := 28) rfl)) e387 d1_72 rfl (by decide) (by decide) (by decide) (by decide) (by decide) (by decide) ?_
  intro b414 T415 h416 g417 X418 e419 E420 A421 O422
  have n423 : a ≠ b414 := Nat.ne_of_lt (by rw [g417]; exact f389.lt)
  have n424 : b4 ≠ b414 := Nat.ne_of_lt (by rw [g417]; exact f405.lt)
  have n425 : b61 ≠ b414 := Nat.ne_of_lt (by rw [g417]; exact f406.lt)
  have n426 : b121 ≠ b414 := Nat.ne_of_lt (by rw [g417]; exact f407.lt)
  have n427 : b184 ≠ b414 := Nat.ne_of_lt (by rw [g417]; exact f408.lt)
  have n428 : b250 ≠ b414 := Nat.ne_of_lt (by rw [g417]; exact f409.lt)
  have n429 : b345 ≠ b414 := Nat.ne_of_lt (by rw [g417]; exact f410.lt)
  have g430 : n0 ≤ b414 := by rw [g417]; exact z411
  have f431 : Exa Z h416 a "com/example/glacis/glacis/analysis/Bdd" := Exa.ext E420 f389
  have f432 : Fld Z h416 a "com/example/glacis/glacis/analysis/Bdd" "level" "[I" (.ref b4) := Fld.ext E420 f390
  have f433 : Fld Z h416 a "com/example/glacis/glacis/analysis/Bdd" "low" "[I" (.ref b61) := Fld.ext E420 f391
  have f434 : Fld Z h416 a "com/example/glacis/glacis/analysis/Bdd" "high" "[I" (.ref b121) := Fld.ext E420 f392
  have f435 : Fld Z h416 a "com/example/glacis/glacis/analysis/Bdd" "chain" "[I" (.ref b184) := Fld.ext E420 f393
  have f436 : Fld Z h416 a "com/example/glacis/glacis/analysis/Bdd" "buckets" "[I" (.ref b250) := Fld.ext E420 f394
  have f437 : Fld Z h416 a "com/example/glacis/glacis/analysis/Bdd" "probabilities" "[D" (.ref b345) := Fld.ext E420 f412
  have f438 : Fld Z h416 a "com/example/glacis/glacis/analysis/Bdd" "computed" "[Lcom/example/glacis/glacis/analysis/Bdd$Computed;" .null := Fld.ext E420 f395
  have f439 : Fld Z h416 a "com/example/glacis/glacis/analysis/Bdd" "stackFirst" "[I" .null := Fld.ext E420 f396
  have f440 : Fld Z h416 a "com/example/glacis/glacis/analysis/Bdd" "stackSecond" "[I" .null := Fld.ext E420 f397
  have f441 : Fld Z h416 a "com/example/glacis/glacis/analysis/Bdd" "stackLevel" "[I" .null := Fld.ext E420 f398
  have f442 : Fld Z h416 a "com/example/glacis/glacis/analysis/Bdd" "stackLow" "[I" .null := Fld.ext E420 f399
  have f443 : Fld Z h416 a "com/example/glacis/glacis/analysis/Bdd" "stackPhase" "[I" .null := Fld.ext E420 f400
  have f444 : Fld Z h416 a "com/example/glacis/glacis/analysis/Bdd" "size" "I" (.int (2 : Int32)) := Fld.ext E420 f401
  have f445 : Fld Z h416 a "com/example/glacis/glacis/analysis/Bdd" "variables" "I" (.int 0) := Fld.ext E420 f402
  have f446 : Fld Z h416 a "com/example/glacis/glacis/analysis/Bdd" "slack" "I" (.int 0) := Fld.ext E420 f403
  have f447 : Fld Z h416 a "com/example/glacis/glacis/analysis/Bdd" "collectAt" "I" (.int 0) := Fld.ext E420 f404
  have f448 : Ar Z h416 b4 .int 1024 (fun _ => (.int 0)) := f405.ext E420
  have f449 : Ar Z h416 b61 .int 1024 (fun _ => (.int 0)) := f406.ext E420
  have f450 : Ar Z h416 b121 .int 1024 (fun _ => (.int 0)) := f407.ext E420
  have f451 : Ar Z h416 b184 .int 1024 (fun _ => (.int 0)) := f408.ext E420
  have f452 : Ar Z h416 b250 .int 1024 (fun _ => (.int 0)) := f409.ext E420
  have f453 : Ar Z h416 b345 .double 16 (fun _ => (.double 0)) := f410.ext E420
  have z454 : n0 ≤ h416.size := Nat.le_trans z411 E420.1
  have f455 : Ar Z h416 b414 (.object "com/example/glacis/glacis/analysis/Bdd$Computed") 2 (fun _ => .null) := A421
  have f456 : Ov Z h416 b414 "com/example/glacis/glacis/analysis/Bdd$Computed" := O422
  show Go p e below _ (T415.setTop (mkF m 75 #[.val (.ref a), .val (.int x1), .unset, .unset, .unset, .unset] [(.ref b414), (.ref a)]))
  have l6_ : b345 < b414 := by rw [g417]; exact f410.lt
  refine Go.dup (pc' := 76) X418 hx hby d1_75 rfl rfl ?_
  refine Go.iconst (pc' := 77) X418 hx hby d1_76 rfl (v := (0 : Int32)) (by decide) ?_
  refine Go.new_ (pc' := 80) X418 hx hby hZ hown (hw _ (List.mem_of_getElem? (i := 27) rfl)) (hw _ (List.mem_of_getElem? (i := 29) rfl)) (hw _ (List.mem_of_getElem? (i := 30) rfl)) e419 d1_77 rfl (by decide) (by decide) ?_
  intro b457 T458 h459 g460 X461 e462 E463 A464 D465
  have n466 : a ≠ b457 := Nat.ne_of_lt (by rw [g460]; exact f431.lt)
  have n467 : b4 ≠ b457 := Nat.ne_of_lt (by rw [g460]; exact f448.lt)
  have n468 : b61 ≠ b457 := Nat.ne_of_lt (by rw [g460]; exact f449.lt)
  have n469 : b121 ≠ b457 := Nat.ne_of_lt (by rw [g460]; exact f450.lt)
  have n470 : b184 ≠ b457 := Nat.ne_of_lt (by rw [g460]; exact f451.lt)
  have n471 : b250 ≠ b457 := Nat.ne_of_lt (by rw [g460]; exact f452.lt)
  have n472 : b345 ≠ b457 := Nat.ne_of_lt (by rw [g460]; exact f453.lt)
  have n473 : b414 ≠ b457 := Nat.ne_of_lt (by rw [g460]; exact f455.lt)
  have g474 : n0 ≤ b457 := by rw [g460]; exact z454
  have f475 : Exa Z h459 a "com/example/glacis/glacis/analysis/Bdd" := Exa.ext E463 f431
  have f476 : Fld Z h459 a "com/example/glacis/glacis/analysis/Bdd" "level" "[I" (.ref b4) := Fld.ext E463 f432
  have f477 : Fld Z h459 a "com/example/glacis/glacis/analysis/Bdd" "low" "[I" (.ref b61) := Fld.ext E463 f433
  have f478 : Fld Z h459 a "com/example/glacis/glacis/analysis/Bdd" "high" "[I" (.ref b121) := Fld.ext E463 f434
  have f479 : Fld Z h459 a "com/example/glacis/glacis/analysis/Bdd" "chain" "[I" (.ref b184) := Fld.ext E463 f435
  have f480 : Fld Z h459 a "com/example/glacis/glacis/analysis/Bdd" "buckets" "[I" (.ref b250) := Fld.ext E463 f436
  have f481 : Fld Z h459 a "com/example/glacis/glacis/analysis/Bdd" "probabilities" "[D" (.ref b345) := Fld.ext E463 f437
  have f482 : Fld Z h459 a "com/example/glacis/glacis/analysis/Bdd" "computed" "[Lcom/example/glacis/glacis/analysis/Bdd$Computed;" .null := Fld.ext E463 f438
  have f483 : Fld Z h459 a "com/example/glacis/glacis/analysis/Bdd" "stackFirst" "[I" .null := Fld.ext E463 f439
  have f484 : Fld Z h459 a "com/example/glacis/glacis/analysis/Bdd" "stackSecond" "[I" .null := Fld.ext E463 f440
  have f485 : Fld Z h459 a "com/example/glacis/glacis/analysis/Bdd" "stackLevel" "[I" .null := Fld.ext E463 f441
  have f486 : Fld Z h459 a "com/example/glacis/glacis/analysis/Bdd" "stackLow" "[I" .null := Fld.ext E463 f442
  have f487 : Fld Z h459 a "com/example/glacis/glacis/analysis/Bdd" "stackPhase" "[I" .null := Fld.ext E463 f443
  have f488 : Fld Z h459 a "com/example/glacis/glacis/analysis/Bdd" "size" "I" (.int (2 : Int32)) := Fld.ext E463 f444
  have f489 : Fld Z h459 a "com/example/glacis/glacis/analysis/Bdd" "variables" "I" (.int 0) := Fld.ext E463 f445
  have f490 : Fld Z h459 a "com/example/glacis/glacis/analysis/Bdd" "slack" "I" (.int 0) := Fld.ext E463 f446
  have f491 : Fld Z h459 a "com/example/glacis/glacis/analysis/Bdd" "collectAt" "I" (.int 0) := Fld.ext E463 f447
  have f492 : Ar Z h459 b4 .int 1024 (fun _ => (.int 0)) := f448.ext E463
  have f493 : Ar Z h459 b61 .int 1024 (fun _ => (.int 0)) := f449.ext E463
  have f494 : Ar Z h459 b121 .int 1024 (fun _ => (.int 0)) := f450.ext E463
  have f495 : Ar Z h459 b184 .int 1024 (fun _ => (.int 0)) := f451.ext E463
  have f496 : Ar Z h459 b250 .int 1024 (fun _ => (.int 0)) := f452.ext E463
  have f497 : Ar Z h459 b345 .double 16 (fun _ => (.double 0)) := f453.ext E463
  have f498 : Ar Z h459 b414 (.object "com/example/glacis/glacis/analysis/Bdd$Computed") 2 (fun _ => .null) := f455.ext E463
  have f499 : Ov Z h459 b414 "com/example/glacis/glacis/analysis/Bdd$Computed" := f456.ext E463
  have z500 : n0 ≤ h459.size := Nat.le_trans z454 E463.1
  have f501 : Exa Z h459 b457 "com/example/glacis/glacis/analysis/Bdd$Computed" := A464
  have f502 : Fld Z h459 b457 "com/example/glacis/glacis/analysis/Bdd$Computed" "first" "[I" .null := D465 (Or.inl (hw _ (List.mem_of_getElem? (i := 36) rfl))) (ty := (.array .int)) (by decide)
  have f503 : Fld Z h459 b457 "com/example/glacis/glacis/analysis/Bdd$Computed" "second" "[I" .null := D465 (Or.inl (hw _ (List.mem_of_getElem? (i := 38) rfl))) (ty := (.array .int)) (by decide)
  have f504 : Fld Z h459 b457 "com/example/glacis/glacis/analysis/Bdd$Computed" "result" "[I" .null := D465 (Or.inl (hw _ (List.mem_of_getElem? (i := 40) rfl))) (ty := (.array .int)) (by decide)
  show Go p e below _ (T458.setTop (mkF m 80 #[.val (.ref a), .val (.int x1), .unset, .unset, .unset, .unset] [(.ref b457), (.int (0 : Int32)), (.ref b414), (.ref b414), (.ref a)]))
  refine Go.dup (pc' := 81) X461 hx hby d1_80 rfl rfl ?_
  refine Go.callIRef (pc' := 84) (a := b457) (W := 5) (argsL := []) (rest := [(.ref b457), (.int (0 : Int32)), (.ref b414), (.ref b414), (.ref a)]) X461 hx hby rfl hZ hown (hw _ (List.mem_of_getElem? (i := 31) rfl)) (hw _ (List.mem_of_getElem? (i := 32) rfl)) (hw _ (List.mem_of_getElem? (i := 30) rfl)) (hw _ (List.mem_of_getElem? (i := 33) rfl)) (by decide) (rmCI l Z a0 hw b457 h459 n0 z500 g474 f501 f502 f503 f504) e462 (by decide) (by decide) (by rw [hml]; rfl) pd_1 rfl rfl rfl (Nat.le_of_eq rfl) d1_81 rfl (by decide) (by decide) ?_
  rintro r505 T506 L507 X508 ⟨xc0_, rfl, gxc0_, Nc0_, Kc0_, Ec0_, Fc0_, ⟨yc0_, Gc0_⟩, ⟨zc0_, Hc0_⟩, Ac0_⟩
  have n509 : a ≠ xc0_ := Nat.ne_of_lt (Nat.lt_of_lt_of_le f475.lt gxc0_)
  have n510 : b4 ≠ xc0_ := Nat.ne_of_lt (Nat.lt_of_lt_of_le f492.lt gxc0_)
  have n511 : b61 ≠ xc0_ := Nat.ne_of_lt (Nat.lt_of_lt_of_le f493.lt gxc0_)
  have n512 : b121 ≠ xc0_ := Nat.ne_of_lt (Nat.lt_of_lt_of_le f494.lt gxc0_)
  have n513 : b184 ≠ xc0_ := Nat.ne_of_lt (Nat.lt_of_lt_of_le f495.lt gxc0_)
  have n514 : b250 ≠ xc0_ := Nat.ne_of_lt (Nat.lt_of_lt_of_le f496.lt gxc0_)
  have n515 : b345 ≠ xc0_ := Nat.ne_of_lt (Nat.lt_of_lt_of_le f497.lt gxc0_)
  have n516 : b414 ≠ xc0_ := Nat.ne_of_lt (Nat.lt_of_lt_of_le f498.lt gxc0_)
  have n517 : b457 ≠ xc0_ := Nat.ne_of_lt (Nat.lt_of_lt_of_le f501.lt gxc0_)
  have f518 : Exa Z T506.heap a "com/example/glacis/glacis/analysis/Bdd" := f475.keep Kc0_
  have f519 : Fld Z T506.heap a "com/example/glacis/glacis/analysis/Bdd" "level" "[I" (.ref b4) := f476.keep Kc0_ (ninS n466 nin0)
  have f520 : Fld Z T506.heap a "com/example/glacis/glacis/analysis/Bdd" "low" "[I" (.ref b61) := f477.keep Kc0_ (ninS n466 nin0)
  have f521 : Fld Z T506.heap a "com/example/glacis/glacis/analysis/Bdd" "high" "[I" (.ref b121) := f478.keep Kc0_ (ninS n466 nin0)
  have f522 : Fld Z T506.heap a "com/example/glacis/glacis/analysis/Bdd" "chain" "[I" (.ref b184) := f479.keep Kc0_ (ninS n466 nin0)
  have f523 : Fld Z T506.heap a "com/example/glacis/glacis/analysis/Bdd" "buckets" "[I" (.ref b250) := f480.keep Kc0_ (ninS n466 nin0)
  have f524 : Fld Z T506.heap a "com/example/glacis/glacis/analysis/Bdd" "probabilities" "[D" (.ref b345) := f481.keep Kc0_ (ninS n466 nin0)
  have f525 : Fld Z T506.heap a "com/example/glacis/glacis/analysis/Bdd" "computed" "[Lcom/example/glacis/glacis/analysis/Bdd$Computed;" .null := f482.keep Kc0_ (ninS n466 nin0)
  have f526 : Fld Z T506.heap a "com/example/glacis/glacis/analysis/Bdd" "stackFirst" "[I" .null := f483.keep Kc0_ (ninS n466 nin0)
  have f527 : Fld Z T506.heap a "com/example/glacis/glacis/analysis/Bdd" "stackSecond" "[I" .null := f484.keep Kc0_ (ninS n466 nin0)
  have f528 : Fld Z T506.heap a "com/example/glacis/glacis/analysis/Bdd" "stackLevel" "[I" .null := f485.keep Kc0_ (ninS n466 nin0)
  have f529 : Fld Z T506.heap a "com/example/glacis/glacis/analysis/Bdd" "stackLow" "[I" .null := f486.keep Kc0_ (ninS n466 nin0)
  have f530 : Fld Z T506.heap a "com/example/glacis/glacis/analysis/Bdd" "stackPhase" "[I" .null := f487.keep Kc0_ (ninS n466 nin0)
  have f531 : Fld Z T506.heap a "com/example/glacis/glacis/analysis/Bdd" "size" "I" (.int (2 : Int32)) := f488.keep Kc0_ (ninS n466 nin0)
  have f532 : Fld Z T506.heap a "com/example/glacis/glacis/analysis/Bdd" "variables" "I" (.int 0) := f489.keep Kc0_ (ninS n466 nin0)
  have f533 : Fld Z T506.heap a "com/example/glacis/glacis/analysis/Bdd" "slack" "I" (.int 0) := f490.keep Kc0_ (ninS n466 nin0)
  have f534 : Fld Z T506.heap a "com/example/glacis/glacis/analysis/Bdd" "collectAt" "I" (.int 0) := f491.keep Kc0_ (ninS n466 nin0)
  have f535 : Ar Z T506.heap b4 .int 1024 (fun _ => (.int 0)) := f492.keep Kc0_ (ninS n467 nin0)
  have f536 : Ar Z T506.heap b61 .int 1024 (fun _ => (.int 0)) := f493.keep Kc0_ (ninS n468 nin0)
  have f537 : Ar Z T506.heap b121 .int 1024 (fun _ => (.int 0)) := f494.keep Kc0_ (ninS n469 nin0)
  have f538 : Ar Z T506.heap b184 .int 1024 (fun _ => (.int 0)) := f495.keep Kc0_ (ninS n470 nin0)
  have f539 : Ar Z T506.heap b250 .int 1024 (fun _ => (.int 0)) := f496.keep Kc0_ (ninS n471 nin0)
  have f540 : Ar Z T506.heap b345 .double 16 (fun _ => (.double 0)) := f497.keep Kc0_ (ninS n472 nin0)
  have f541 : Ar Z T506.heap b414 (.object "com/example/glacis/glacis/analysis/Bdd$Computed") 2 (fun _ => .null) := f498.keep Kc0_ (ninS n473 nin0)
  have f542 : Ov Z T506.heap b414 "com/example/glacis/glacis/analysis/Bdd$Computed" := f499.keep Kc0_
  have f543 : Exa Z T506.heap b457 "com/example/glacis/glacis/analysis/Bdd$Computed" := f501.keep Kc0_
  have z544 : n0 ≤ T506.heap.size := Nat.le_trans z500 Kc0_.1
  show Go p e below _ (T506.setTop (mkF m 84 #[.val (.ref a), .val (.int x1), .unset, .unset, .unset, .unset] [(.ref b457), (.int (0 : Int32)), (.ref b414), (.ref b414), (.ref a)]))
  have I545 : Ins Z T506.heap b457 "com/example/glacis/glacis/analysis/Bdd$Computed" true := Ins.of_exa Ec0_ (hw _ (List.mem_of_getElem? (i := 41) rfl))
  refine Go.aastore (pc' := 85) (i := 0) X508 hx hby hZ rfl f541 rfl (Sto.ofA f541 f542 I545) d1_84 rfl (by decide) (by decide) (by decide) ?_
  intro T546 h547 X548 e549 W550 A551
  have f552 : Exa Z h547 a "com/example/glacis/glacis/analysis/Bdd" := Exa.wr W550 f518
  have f553 : Fld Z h547 a "com/example/glacis/glacis/analysis/Bdd" "level" "[I" (.ref b4) := Fld.other W550 f519 (Or.inl n423)
  have f554 : Fld Z h547 a "com/example/glacis/glacis/analysis/Bdd" "low" "[I" (.ref b61) := Fld.other W550 f520 (Or.inl n423)
  have f555 : Fld Z h547 a "com/example/glacis/glacis/analysis/Bdd" "high" "[I" (.ref b121) := Fld.other W550 f521 (Or.inl n423)
  have f556 : Fld Z h547 a "com/example/glacis/glacis/analysis/Bdd" "chain" "[I" (.ref b184) := Fld.other W550 f522 (Or.inl n423)
  have f557 : Fld Z h547 a "com/example/glacis/glacis/analysis/Bdd" "buckets" "[I" (.ref b250) := Fld.other W550 f523 (Or.inl n423)
  have f558 : Fld Z h547 a "com/example/glacis/glacis/analysis/Bdd" "probabilities" "[D" (.ref b345) := Fld.other W550 f524 (Or.inl n423)
  have f559 : Fld Z h547 a "com/example/glacis/glacis/analysis/Bdd" "computed" "[Lcom/example/glacis/glacis/analysis/Bdd$Computed;" .null := Fld.other W550 f525 (Or.inl n423)
  have f560 : Fld Z h547 a "com/example/glacis/glacis/analysis/Bdd" "stackFirst" "[I" .null := Fld.other W550 f526 (Or.inl n423)
  have f561 : Fld Z h547 a "com/example/glacis/glacis/analysis/Bdd" "stackSecond" "[I" .null := Fld.other W550 f527 (Or.inl n423)
  have f562 : Fld Z h547 a "com/example/glacis/glacis/analysis/Bdd" "stackLevel" "[I" .null := Fld.other W550 f528 (Or.inl n423)
  have f563 : Fld Z h547 a "com/example/glacis/glacis/analysis/Bdd" "stackLow" "[I" .null := Fld.other W550 f529 (Or.inl n423)
  have f564 : Fld Z h547 a "com/example/glacis/glacis/analysis/Bdd" "stackPhase" "[I" .null := Fld.other W550 f530 (Or.inl n423)
  have f565 : Fld Z h547 a "com/example/glacis/glacis/analysis/Bdd" "size" "I" (.int (2 : Int32)) := Fld.other W550 f531 (Or.inl n423)
  have f566 : Fld Z h547 a "com/example/glacis/glacis/analysis/Bdd" "variables" "I" (.int 0) := Fld.other W550 f532 (Or.inl n423)
  have f567 : Fld Z h547 a "com/example/glacis/glacis/analysis/Bdd" "slack" "I" (.int 0) := Fld.other W550 f533 (Or.inl n423)
  have f568 : Fld Z h547 a "com/example/glacis/glacis/analysis/Bdd" "collectAt" "I" (.int 0) := Fld.other W550 f534 (Or.inl n423)
  have f569 : Ar Z h547 b4 .int 1024 (fun _ => (.int 0)) := f535.other W550 n424
  have f570 : Ar Z h547 b61 .int 1024 (fun _ => (.int 0)) := f536.other W550 n425
  have f571 : Ar Z h547 b121 .int 1024 (fun _ => (.int 0)) := f537.other W550 n426
  have f572 : Ar Z h547 b184 .int 1024 (fun _ => (.int 0)) := f538.other W550 n427
  have f573 : Ar Z h547 b250 .int 1024 (fun _ => (.int 0)) := f539.other W550 n428
  have f574 : Ar Z h547 b345 .double 16 (fun _ => (.double 0)) := f540.other W550 n429
  have f575 : Ov Z h547 b414 "com/example/glacis/glacis/analysis/Bdd$Computed" := f542.wr W550
  have f576 : Exa Z h547 b457 "com/example/glacis/glacis/analysis/Bdd$Computed" := Exa.wr W550 Ec0_
  have f577 : Fld Z h547 b457 "com/example/glacis/glacis/analysis/Bdd$Computed" "first" "[I" (.ref xc0_) := Fld.other W550 Fc0_ (Or.inl (Ne.symm n473))
  have f578 : Fld Z h547 b457 "com/example/glacis/glacis/analysis/Bdd$Computed" "second" "[I" (.ref yc0_) := Fld.other W550 Gc0_ (Or.inl (Ne.symm n473))
  have f579 : Fld Z h547 b457 "com/example/glacis/glacis/analysis/Bdd$Computed" "result" "[I" (.ref zc0_) := Fld.other W550 Hc0_ (Or.inl (Ne.symm n473))
  have f580 : Ar Z h547 xc0_ .int 0 (fun _ => .int 0) := Ac0_.other W550 (Ne.symm n516)
  have z581 : n0 ≤ h547.size := by rw [Wr.size W550]; exact z544
  have f582 : Ar Z h547 b414 (.object "com/example/glacis/glacis/analysis/Bdd$Computed") 2 (fun q => if q = 0 then (.ref b457) else .null) := A551
  have N583 : Fr n0 _ := Fr.snoc X548 (Fr.app N413 Nc0_) g430
  show Go p e below _ (T546.setTop (mkF m 85 #[.val (.ref a), .val (.int x1), .unset, .unset, .unset, .unset] [(.ref b414), (.ref a)]))
  refine Go.dup (pc' := 86) X548 hx hby d1_85 rfl rfl ?_
  refine Go.iconst (pc' := 87) X548 hx hby d1_86 rfl (v := (1 : Int32)) (by decide) ?_
  refine Go.new_ (pc' := 90) X548 hx hby hZ hown (hw _ (List.mem_of_getElem? (i := 27) rfl)) (hw _ (List.mem_of_getElem? (i := 29) rfl)) (hw _ (List.mem_of_getElem? (i := 30) rfl)) e549 d1_87 rfl (by decide) (by decide) ?_
  intro b584 T585 h586 g587 X588 e589 E590 A591 D592
  have n593 : a ≠ b584 := Nat.ne_of_lt (by rw [g587]; exact f552.lt)
  have n594 : b4 ≠ b584 := Nat.ne_of_lt (by rw [g587]; exact f569.lt)
  have n595 : b61 ≠ b584 := Nat.ne_of_lt (by rw [g587]; exact f570.lt)
  have n596 : b121 ≠ b584 := Nat.ne_of_lt (by rw [g587]; exact f571.lt)
  have n597 : b184 ≠ b584 := Nat.ne_of_lt (by rw [g587]; exact f572.lt)
  have n598 : b250 ≠ b584 := Nat.ne_of_lt (by rw [g587]; exact f573.lt)
  have n599 : b345 ≠ b584 := Nat.ne_of_lt (by rw [g587]; exact f574.lt)
  have n600 : b414 ≠ b584 := Nat.ne_of_lt (by rw [g587]; exact f582.lt)
  have n601 : b457 ≠ b584 := Nat.ne_of_lt (by rw [g587]; exact f576.lt)
  have n602 : xc0_ ≠ b584 := Nat.ne_of_lt (by rw [g587]; exact f580.lt)
  have g603 : n0 ≤ b584 := by rw [g587]; exact z581
  have f604 : Exa Z h586 a "com/example/glacis/glacis/analysis/Bdd" := Exa.ext E590 f552
  have f605 : Fld Z h586 a "com/example/glacis/glacis/analysis/Bdd" "level" "[I" (.ref b4) := Fld.ext E590 f553
  have f606 : Fld Z h586 a "com/example/glacis/glacis/analysis/Bdd" "low" "[I" (.ref b61) := Fld.ext E590 f554
  have f607 : Fld Z h586 a "com/example/glacis/glacis/analysis/Bdd" "high" "[I" (.ref b121) := Fld.ext E590 f555
  have f608 : Fld Z h586 a "com/example/glacis/glacis/analysis/Bdd" "chain" "[I" (.ref b184) := Fld.ext E590 f556
  have f609 : Fld Z h586 a "com/example/glacis/glacis/analysis/Bdd" "buckets" "[I" (.ref b250) := Fld.ext E590 f557
  have f610 : Fld Z h586 a "com/example/glacis/glacis/analysis/Bdd" "probabilities" "[D" (.ref b345) := Fld.ext E590 f558
  have f611 : Fld Z h586 a "com/example/glacis/glacis/analysis/Bdd" "computed" "[Lcom/example/glacis/glacis/analysis/Bdd$Computed;" .null := Fld.ext E590 f559
  have f612 : Fld Z h586 a "com/example/glacis/glacis/analysis/Bdd" "stackFirst" "[I" .null := Fld.ext E590 f560
  have f613 : Fld Z h586 a "com/example/glacis/glacis/analysis/Bdd" "stackSecond" "[I" .null := Fld.ext E590 f561
  have f614 : Fld Z h586 a "com/example/glacis/glacis/analysis/Bdd" "stackLevel" "[I" .null := Fld.ext E590 f562
  have f615 : Fld Z h586 a "com/example/glacis/glacis/analysis/Bdd" "stackLow" "[I" .null := Fld.ext E590 f563
  have f616 : Fld Z h586 a "com/example/glacis/glacis/analysis/Bdd" "stackPhase" "[I" .null := Fld.ext E590 f564
  have f617 : Fld Z h586 a "com/example/glacis/glacis/analysis/Bdd" "size" "I" (.int (2 : Int32)) := Fld.ext E590 f565
  have f618 : Fld Z h586 a "com/example/glacis/glacis/analysis/Bdd" "variables" "I" (.int 0) := Fld.ext E590 f566
  have f619 : Fld Z h586 a "com/example/glacis/glacis/analysis/Bdd" "slack" "I" (.int 0) := Fld.ext E590 f567
  have f620 : Fld Z h586 a "com/example/glacis/glacis/analysis/Bdd" "collectAt" "I" (.int 0) := Fld.ext E590 f568
  have f621 : Ar Z h586 b4 .int 1024 (fun _ => (.int 0)) := f569.ext E590
  have f622 : Ar Z h586 b61 .int 1024 (fun _ => (.int 0)) := f570.ext E590
  have f623 : Ar Z h586 b121 .int 1024 (fun _ => (.int 0)) := f571.ext E590
  have f624 : Ar Z h586 b184 .int 1024 (fun _ => (.int 0)) := f572.ext E590
  have f625 : Ar Z h586 b250 .int 1024 (fun _ => (.int 0)) := f573.ext E590
  have f626 : Ar Z h586 b345 .double 16 (fun _ => (.double 0)) := f574.ext E590
  have f627 : Ar Z h586 b414 (.object "com/example/glacis/glacis/analysis/Bdd$Computed") 2 (fun q => if q = 0 then (.ref b457) else .null) := f582.ext E590
  have f628 : Ov Z h586 b414 "com/example/glacis/glacis/analysis/Bdd$Computed" := f575.ext E590
  have f629 : Exa Z h586 b457 "com/example/glacis/glacis/analysis/Bdd$Computed" := Exa.ext E590 f576
  have f630 : Fld Z h586 b457 "com/example/glacis/glacis/analysis/Bdd$Computed" "first" "[I" (.ref xc0_) := Fld.ext E590 f577
  have f631 : Fld Z h586 b457 "com/example/glacis/glacis/analysis/Bdd$Computed" "second" "[I" (.ref yc0_) := Fld.ext E590 f578
  have f632 : Fld Z h586 b457 "com/example/glacis/glacis/analysis/Bdd$Computed" "result" "[I" (.ref zc0_) := Fld.ext E590 f579
  have f633 : Ar Z h586 xc0_ .int 0 (fun _ => .int 0) := f580.ext E590
  have z634 : n0 ≤ h586.size := Nat.le_trans z581 E590.1
  have f635 : Exa Z h586 b584 "com/example/glacis/glacis/analysis/Bdd$Computed" := A591
  have f636 : Fld Z h586 b584 "com/example/glacis/glacis/analysis/Bdd$Computed" "first" "[I" .null := D592 (Or.inl (hw _ (List.mem_of_getElem? (i := 36) rfl))) (ty := (.array .int)) (by decide)
  have f637 : Fld Z h586 b584 "com/example/glacis/glacis/analysis/Bdd$Computed" "second" "[I" .null := D592 (Or.inl (hw _ (List.mem_of_getElem? (i := 38) rfl))) (ty := (.array .int)) (by decide)
  have f638 : Fld Z h586 b584 "com/example/glacis/glacis/analysis/Bdd$Computed" "result" "[I" .null := D592 (Or.inl (hw _ (List.mem_of_getElem? (i := 40) rfl))) (ty := (.array .int)) (by decide)
  show Go p e below _ (T585.setTop (mkF m 90 #[.val (.ref a), .val (.int x1), .unset, .unset, .unset, .unset] [(.ref b584), (.int (1 : Int32)), (.ref b414), (.ref b414), (.ref a)]))
  refine Go.dup (pc' := 91) X588 hx hby d1_90 rfl rfl ?_
  refine Go.callIRef (pc' := 94) (a := b584) (W := 5) (argsL := []) (rest := [(.ref b584), (.int (1 : Int32)), (.ref b414), (.ref b414), (.ref a)]) X588 hx hby rfl hZ hown (hw _ (List.mem_of_getElem? (i := 31) rfl)) (hw _ (List.mem_of_getElem? (i := 32) rfl)) (hw _ (List.mem_of_getElem? (i := 30) rfl)) (hw _ (List.mem_of_getElem? (i := 33) rfl)) (by decide) (rmCI l Z a0 hw b584 h586 n0 z634 g603 f635 f636 f637 f638) e589 (by decide) (by decide) (by rw [hml]; rfl) pd_1 rfl rfl rfl (Nat.le_of_eq rfl) d1_91 rfl (by decide) (by decide) ?_
  rintro r639 T640 L641 X642 ⟨xc1_, rfl, gxc1_, Nc1_, Kc1_, Ec1_, Fc1_, ⟨yc1_, Gc1_⟩, ⟨zc1_, Hc1_⟩, Ac1_⟩
  have n643 : a ≠ xc1_ := Nat.ne_of_lt (Nat.lt_of_lt_of_le f604.lt gxc1_)
  have n644 : b4 ≠ xc1_ := Nat.ne_of_lt (Nat.lt_of_lt_of_le f621.lt gxc1_)
  have n645 : b61 ≠ xc1_ := Nat.ne_of_lt (Nat.lt_of_lt_of_le f622.lt gxc1_)
  have n646 : b121 ≠ xc1_ := Nat.ne_of_lt (Nat.lt_of_lt_of_le f623.lt gxc1_)
  have n647 : b184 ≠ xc1_ := Nat.ne_of_lt (Nat.lt_of_lt_of_le f624.lt gxc1_)
  have n648 : b250 ≠ xc1_ := Nat.ne_of_lt (Nat.lt_of_lt_of_le f625.lt gxc1_)
  have n649 : b345 ≠ xc1_ := Nat.ne_of_lt (Nat.lt_of_lt_of_le f626.lt gxc1_)
  have n650 : b414 ≠ xc1_ := Nat.ne_of_lt (Nat.lt_of_lt_of_le f627.lt gxc1_)
  have n651 : b457 ≠ xc1_ := Nat.ne_of_lt (Nat.lt_of_lt_of_le f629.lt gxc1_)
  have n652 : xc0_ ≠ xc1_ := Nat.ne_of_lt (Nat.lt_of_lt_of_le f633.lt gxc1_)
  have n653 : b584 ≠ xc1_ := Nat.ne_of_lt (Nat.lt_of_lt_of_le f635.lt gxc1_)
  have f654 : Exa Z T640.heap a "com/example/glacis/glacis/analysis/Bdd" := f604.keep Kc1_
  have f655 : Fld Z T640.heap a "com/example/glacis/glacis/analysis/Bdd" "level" "[I" (.ref b4) := f605.keep Kc1_ (ninS n593 nin0)
  have f656 : Fld Z T640.heap a "com/example/glacis/glacis/analysis/Bdd" "low" "[I" (.ref b61) := f606.keep Kc1_ (ninS n593 nin0)
  have f657 : Fld Z T640.heap a "com/example/glacis/glacis/analysis/Bdd" "high" "[I" (.ref b121) := f607.keep Kc1_ (ninS n593 nin0)
  have f658 : Fld Z T640.heap a "com/example/glacis/glacis/analysis/Bdd" "chain" "[I" (.ref b184) := f608.keep Kc1_ (ninS n593 nin0)
  have f659 : Fld Z T640.heap a "com/example/glacis/glacis/analysis/Bdd" "buckets" "[I" (.ref b250) := f609.keep Kc1_ (ninS n593 nin0)
  have f660 : Fld Z T640.heap a "com/example/glacis/glacis/analysis/Bdd" "probabilities" "[D" (.ref b345) := f610.keep Kc1_ (ninS n593 nin0)
  have f661 : Fld Z T640.heap a "com/example/glacis/glacis/analysis/Bdd" "computed" "[Lcom/example/glacis/glacis/analysis/Bdd$Computed;" .null := f611.keep Kc1_ (ninS n593 nin0)
  have f662 : Fld Z T640.heap a "com/example/glacis/glacis/analysis/Bdd" "stackFirst" "[I" .null := f612.keep Kc1_ (ninS n593 nin0)
  have f663 : Fld Z T640.heap a "com/example/glacis/glacis/analysis/Bdd" "stackSecond" "[I" .null := f613.keep Kc1_ (ninS n593 nin0)
  have f664 : Fld Z T640.heap a "com/example/glacis/glacis/analysis/Bdd" "stackLevel" "[I" .null := f614.keep Kc1_ (ninS n593 nin0)
  have f665 : Fld Z T640.heap a "com/example/glacis/glacis/analysis/Bdd" "stackLow" "[I" .null := f615.keep Kc1_ (ninS n593 nin0)
  have f666 : Fld Z T640.heap a "com/example/glacis/glacis/analysis/Bdd" "stackPhase" "[I" .null := f616.keep Kc1_ (ninS n593 nin0)
  have f667 : Fld Z T640.heap a "com/example/glacis/glacis/analysis/Bdd" "size" "I" (.int (2 : Int32)) := f617.keep Kc1_ (ninS n593 nin0)
  have f668 : Fld Z T640.heap a "com/example/glacis/glacis/analysis/Bdd" "variables" "I" (.int 0) := f618.keep Kc1_ (ninS n593 nin0)
  have f669 : Fld Z T640.heap a "com/example/glacis/glacis/analysis/Bdd" "slack" "I" (.int 0) := f619.keep Kc1_ (ninS n593 nin0)
  have f670 : Fld Z T640.heap a "com/example/glacis/glacis/analysis/Bdd" "collectAt" "I" (.int 0) := f620.keep Kc1_ (ninS n593 nin0)
  have f671 : Ar Z T640.heap b4 .int 1024 (fun _ => (.int 0)) := f621.keep Kc1_ (ninS n594 nin0)
  have f672 : Ar Z T640.heap b61 .int 1024 (fun _ => (.int 0)) := f622.keep Kc1_ (ninS n595 nin0)
  have f673 : Ar Z T640.heap b121 .int 1024 (fun _ => (.int 0)) := f623.keep Kc1_ (ninS n596 nin0)
  have f674 : Ar Z T640.heap b184 .int 1024 (fun _ => (.int 0)) := f624.keep Kc1_ (ninS n597 nin0)
  have f675 : Ar Z T640.heap b250 .int 1024 (fun _ => (.int 0)) := f625.keep Kc1_ (ninS n598 nin0)
  have f676 : Ar Z T640.heap b345 .double 16 (fun _ => (.double 0)) := f626.keep Kc1_ (ninS n599 nin0)
  have f677 : Ar Z T640.heap b414 (.object "com/example/glacis/glacis/analysis/Bdd$Computed") 2 (fun q => if q = 0 then (.ref b457) else .null) := f627.keep Kc1_ (ninS n600 nin0)
  have f678 : Ov Z T640.heap b414 "com/example/glacis/glacis/analysis/Bdd$Computed" := f628.keep Kc1_
  have f679 : Exa Z T640.heap b457 "com/example/glacis/glacis/analysis/Bdd$Computed" := f629.keep Kc1_
  have f680 : Fld Z T640.heap b457 "com/example/glacis/glacis/analysis/Bdd$Computed" "first" "[I" (.ref xc0_) := f630.keep Kc1_ (ninS n601 nin0)
  have f681 : Fld Z T640.heap b457 "com/example/glacis/glacis/analysis/Bdd$Computed" "second" "[I" (.ref yc0_) := f631.keep Kc1_ (ninS n601 nin0)
  have f682 : Fld Z T640.heap b457 "com/example/glacis/glacis/analysis/Bdd$Computed" "result" "[I" (.ref zc0_) := f632.keep Kc1_ (ninS n601 nin0)
  have f683 : Ar Z T640.heap xc0_ .int 0 (fun _ => .int 0) := f633.keep Kc1_ (ninS n602 nin0)
  have f684 : Exa Z T640.heap b584 "com/example/glacis/glacis/analysis/Bdd$Computed" := f635.keep Kc1_
  have z685 : n0 ≤ T640.heap.size := Nat.le_trans z634 Kc1_.1
  show Go p e below _ (T640.setTop (mkF m 94 #[.val (.ref a), .val (.int x1), .unset, .unset, .unset, .unset] [(.ref b584), (.int (1 : Int32)), (.ref b414), (.ref b414), (.ref a)]))
  have I686 : Ins Z T640.heap b584 "com/example/glacis/glacis/analysis/Bdd$Computed" true := Ins.of_exa Ec1_ (hw _ (List.mem_of_getElem? (i := 41) rfl))
  refine Go.aastore (pc' := 95) (i := 1) X642 hx hby hZ rfl f677 rfl (Sto.ofA f677 f678 I686) d1_94 rfl (by decide) (by decide) (by decide) ?_
  intro T687 h688 X689 e690 W691 A692
  have f693 : Exa Z h688 a "com/example/glacis/glacis/analysis/Bdd" := Exa.wr W691 f654
  have f694 : Fld Z h688 a "com/example/glacis/glacis/analysis/Bdd" "level" "[I" (.ref b4) := Fld.other W691 f655 (Or.inl n423)
  have f695 : Fld Z h688 a "com/example/glacis/glacis/analysis/Bdd" "low" "[I" (.ref b61) := Fld.other W691 f656 (Or.inl n423)
  have f696 : Fld Z h688 a "com/example/glacis/glacis/analysis/Bdd" "high" "[I" (.ref b121) := Fld.other W691 f657 (Or.inl n423)
  have f697 : Fld Z h688 a "com/example/glacis/glacis/analysis/Bdd" "chain" "[I" (.ref b184) := Fld.other W691 f658 (Or.inl n423)
  have f698 : Fld Z h688 a "com/example/glacis/glacis/analysis/Bdd" "buckets" "[I" (.ref b250) := Fld.other W691 f659 (Or.inl n423)
  have f699 : Fld Z h688 a "com/example/glacis/glacis/analysis/Bdd" "probabilities" "[D" (.ref b345) := Fld.other W691 f660 (Or.inl n423)
  have f700 : Fld Z h688 a "com/example/glacis/glacis/analysis/Bdd" "computed" "[Lcom/example/glacis/glacis/analysis/Bdd$Computed;" .null := Fld.other W691 f661 (Or.inl n423)
  have f701 : Fld Z h688 a "com/example/glacis/glacis/analysis/Bdd" "stackFirst" "[I" .null := Fld.other W691 f662 (Or.inl n423)
  have f702 : Fld Z h688 a "com/example/glacis/glacis/analysis/Bdd" "stackSecond" "[I" .null := Fld.other W691 f663 (Or.inl n423)
  have f703 : Fld Z h688 a "com/example/glacis/glacis/analysis/Bdd" "stackLevel" "[I" .null := Fld.other W691 f664 (Or.inl n423)
  have f704 : Fld Z h688 a "com/example/glacis/glacis/analysis/Bdd" "stackLow" "[I" .null := Fld.other W691 f665 (Or.inl n423)
  have f705 : Fld Z h688 a "com/example/glacis/glacis/analysis/Bdd" "stackPhase" "[I" .null := Fld.other W691 f666 (Or.inl n423)
  have f706 : Fld Z h688 a "com/example/glacis/glacis/analysis/Bdd" "size" "I" (.int (2 : Int32)) := Fld.other W691 f667 (Or.inl n423)
  have f707 : Fld Z h688 a "com/example/glacis/glacis/analysis/Bdd" "variables" "I" (.int 0) := Fld.other W691 f668 (Or.inl n423)
  have f708 : Fld Z h688 a "com/example/glacis/glacis/analysis/Bdd" "slack" "I" (.int 0) := Fld.other W691 f669 (Or.inl n423)
  have f709 : Fld Z h688 a "com/example/glacis/glacis/analysis/Bdd" "collectAt" "I" (.int 0) := Fld.other W691 f670 (Or.inl n423)
  have f710 : Ar Z h688 b4 .int 1024 (fun _ => (.int 0)) := f671.other W691 n424
  have f711 : Ar Z h688 b61 .int 1024 (fun _ => (.int 0)) := f672.other W691 n425
  have f712 : Ar Z h688 b121 .int 1024 (fun _ => (.int 0)) := f673.other W691 n426
  have f713 : Ar Z h688 b184 .int 1024 (fun _ => (.int 0)) := f674.other W691 n427
  have f714 : Ar Z h688 b250 .int 1024 (fun _ => (.int 0)) := f675.other W691 n428
  have f715 : Ar Z h688 b345 .double 16 (fun _ => (.double 0)) := f676.other W691 n429
  have f716 : Ov Z h688 b414 "com/example/glacis/glacis/analysis/Bdd$Computed" := f678.wr W691
  have f717 : Exa Z h688 b457 "com/example/glacis/glacis/analysis/Bdd$Computed" := Exa.wr W691 f679
  have f718 : Fld Z h688 b457 "com/example/glacis/glacis/analysis/Bdd$Computed" "first" "[I" (.ref xc0_) := Fld.other W691 f680 (Or.inl (Ne.symm n473))
  have f719 : Fld Z h688 b457 "com/example/glacis/glacis/analysis/Bdd$Computed" "second" "[I" (.ref yc0_) := Fld.other W691 f681 (Or.inl (Ne.symm n473))
  have f720 : Fld Z h688 b457 "com/example/glacis/glacis/analysis/Bdd$Computed" "result" "[I" (.ref zc0_) := Fld.other W691 f682 (Or.inl (Ne.symm n473))
  have f721 : Ar Z h688 xc0_ .int 0 (fun _ => .int 0) := f683.other W691 (Ne.symm n516)
  have f722 : Exa Z h688 b584 "com/example/glacis/glacis/analysis/Bdd$Computed" := Exa.wr W691 Ec1_
  have f723 : Fld Z h688 b584 "com/example/glacis/glacis/analysis/Bdd$Computed" "first" "[I" (.ref xc1_) := Fld.other W691 Fc1_ (Or.inl (Ne.symm n600))
  have f724 : Fld Z h688 b584 "com/example/glacis/glacis/analysis/Bdd$Computed" "second" "[I" (.ref yc1_) := Fld.other W691 Gc1_ (Or.inl (Ne.symm n600))
  have f725 : Fld Z h688 b584 "com/example/glacis/glacis/analysis/Bdd$Computed" "result" "[I" (.ref zc1_) := Fld.other W691 Hc1_ (Or.inl (Ne.symm n600))
  have f726 : Ar Z h688 xc1_ .int 0 (fun _ => .int 0) := Ac1_.other W691 (Ne.symm n650)
  have z727 : n0 ≤ h688.size := by rw [Wr.size W691]; exact z685
  have f728 : Ar Z h688 b414 (.object "com/example/glacis/glacis/analysis/Bdd$Computed") 2 (fun q => if q = 1 then (.ref b584) else if q = 0 then (.ref b457) else .null) := A692
  have N729 : Fr n0 _ := Fr.snoc X689 (Fr.app N583 Nc1_) g430
  show Go p e below _ (T687.setTop (mkF m 95 #[.val (.ref a), .val (.int x1), .unset, .unset, .unset, .unset] [(.ref b414), (.ref a)]))
  refine Go.putF (pc' := 98) (ty := (.array (.object "com/example/glacis/glacis/analysis/Bdd$Computed"))) X689 hx hby hZ hown (hw _ (List.mem_of_getElem? (i := 42) rfl)) Via.refl e690 f700 f693 (Or.inr ⟨(hw _ (List.mem_of_getElem? (i := 43) rfl)), rfl, hnm⟩) (hw _ (List.mem_of_getElem? (i := 3) rfl)) (by decide) rfl rfl d1_95 rfl ?_
  intro T730 h731 X732 e733 W734
  have f735 : Exa Z h731 a "com/example/glacis/glacis/analysis/Bdd" := Exa.wr W734 f693
  have f736 : Fld Z h731 a "com/example/glacis/glacis/analysis/Bdd" "level" "[I" (.ref b4) := Fld.other W734 f694 (Or.inr (slot_ne (t := (.array .int)) (t' := (.array (.object "com/example/glacis/glacis/analysis/Bdd$Computed"))) (Or.inl (hw _ (List.mem_of_getElem? (i := 13) rfl))) (Or.inr (hw _ (List.mem_of_getElem? (i := 43) rfl))) (by decide) (by decide) (by decide)))
  have f737 : Fld Z h731 a "com/example/glacis/glacis/analysis/Bdd" "low" "[I" (.ref b61) := Fld.other W734 f695 (Or.inr (slot_ne (t := (.array .int)) (t' := (.array (.object "com/example/glacis/glacis/analysis/Bdd$Computed"))) (Or.inl (hw _ (List.mem_of_getElem? (i := 15) rfl))) (Or.inr (hw _ (List.mem_of_getElem? (i := 43) rfl))) (by decide) (by decide) (by decide)))
  have f738 : Fld Z h731 a "com/example/glacis/glacis/analysis/Bdd" "high" "[I" (.ref b121) := Fld.other W734 f696 (Or.inr (slot_ne (t := (.array .int)) (t' := (.array (.object "com/example/glacis/glacis/analysis/Bdd$Computed"))) (Or.inl (hw _ (List.mem_of_getElem? (i := 17) rfl))) (Or.inr (hw _ (List.mem_of_getElem? (i := 43) rfl))) (by decide) (by decide) (by decide)))
  have f739 : Fld Z h731 a "com/example/glacis/glacis/analysis/Bdd" "chain" "[I" (.ref b184) := Fld.other W734 f697 (Or.inr (slot_ne (t := (.array .int)) (t' := (.array (.object "com/example/glacis/glacis/analysis/Bdd$Computed"))) (Or.inl (hw _ (List.mem_of_getElem? (i := 19) rfl))) (Or.inr (hw _ (List.mem_of_getElem? (i := 43) rfl))) (by decide) (by decide) (by decide)))
  have f740 : Fld Z h731 a "com/example/glacis/glacis/analysis/Bdd" "buckets" "[I" (.ref b250) := Fld.other W734 f698 (Or.inr (slot_ne (t := (.array .int)) (t' := (.array (.object "com/example/glacis/glacis/analysis/Bdd$Computed"))) (Or.inl (hw _ (List.mem_of_getElem? (i := 21) rfl))) (Or.inr (hw _ (List.mem_of_getElem? (i := 43) rfl))) (by decide) (by decide) (by decide)))
  have f741 : Fld Z h731 a "com/example/glacis/glacis/analysis/Bdd" "probabilities" "[D" (.ref b345) := Fld.other W734 f699 (Or.inr (slot_ne (t := (.array .double)) (t' := (.array (.object "com/example/glacis/glacis/analysis/Bdd$Computed"))) (Or.inl (hw _ (List.mem_of_getElem? (i := 26) rfl))) (Or.inr (hw _ (List.mem_of_getElem? (i := 43) rfl))) (by decide) (by decide) (by decide)))
  have f742 : Fld Z h731 a "com/example/glacis/glacis/analysis/Bdd" "stackFirst" "[I" .null := Fld.other W734 f701 (Or.inr (slot_ne (t := (.array .int)) (t' := (.array (.object "com/example/glacis/glacis/analysis/Bdd$Computed"))) (Or.inl (hw _ (List.mem_of_getElem? (i := 45) rfl))) (Or.inr (hw _ (List.mem_of_getElem? (i := 43) rfl))) (by decide) (by decide) (by decide)))
  have f743 : Fld Z h731 a "com/example/glacis/glacis/analysis/Bdd" "stackSecond" "[I" .null := Fld.other W734 f702 (Or.inr (slot_ne (t := (.array .int)) (t' := (.array (.object "com/example/glacis/glacis/analysis/Bdd$Computed"))) (Or.inl (hw _ (List.mem_of_getElem? (i := 47) rfl))) (Or.inr (hw _ (List.mem_of_getElem? (i := 43) rfl))) (by decide) (by decide) (by decide)))
  have f744 : Fld Z h731 a "com/example/glacis/glacis/analysis/Bdd" "stackLevel" "[I" .null := Fld.other W734 f703 (Or.inr (slot_ne (t := (.array .int)) (t' := (.array (.object "com/example/glacis/glacis/analysis/Bdd$Computed"))) (Or.inl (hw _ (List.mem_of_getElem? (i := 49) rfl))) (Or.inr (hw _ (List.mem_of_getElem? (i := 43) rfl))) (by decide) (by decide) (by decide)))
  have f745 : Fld Z h731 a "com/example/glacis/glacis/analysis/Bdd" "stackLow" "[I" .null := Fld.other W734 f704 (Or.inr (slot_ne (t := (.array .int)) (t' := (.array (.object "com/example/glacis/glacis/analysis/Bdd$Computed"))) (Or.inl (hw _ (List.mem_of_getElem? (i := 51) rfl))) (Or.inr (hw _ (List.mem_of_getElem? (i := 43) rfl))) (by decide) (by decide) (by decide)))
  have f746 : Fld Z h731 a "com/example/glacis/glacis/analysis/Bdd" "stackPhase" "[I" .null := Fld.other W734 f705 (Or.inr (slot_ne (t := (.array .int)) (t' := (.array (.object "com/example/glacis/glacis/analysis/Bdd$Computed"))) (Or.inl (hw _ (List.mem_of_getElem? (i := 53) rfl))) (Or.inr (hw _ (List.mem_of_getElem? (i := 43) rfl))) (by decide) (by decide) (by decide)))
  have f747 : Fld Z h731 a "com/example/glacis/glacis/analysis/Bdd" "size" "I" (.int (2 : Int32)) := Fld.other W734 f706 (Or.inr (slot_ne (t := .int) (t' := (.array (.object "com/example/glacis/glacis/analysis/Bdd$Computed"))) (Or.inl (hw _ (List.mem_of_getElem? (i := 23) rfl))) (Or.inr (hw _ (List.mem_of_getElem? (i := 43) rfl))) (by decide) (by decide) (by decide)))
  have f748 : Fld Z h731 a "com/example/glacis/glacis/analysis/Bdd" "variables" "I" (.int 0) := Fld.other W734 f707 (Or.inr (slot_ne (t := .int) (t' := (.array (.object "com/example/glacis/glacis/analysis/Bdd$Computed"))) (Or.inl (hw _ (List.mem_of_getElem? (i := 80) rfl))) (Or.inr (hw _ (List.mem_of_getElem? (i := 43) rfl))) (by decide) (by decide) (by decide)))
  have f749 : Fld Z h731 a "com/example/glacis/glacis/analysis/Bdd" "slack" "I" (.int 0) := Fld.other W734 f708 (Or.inr (slot_ne (t := .int) (t' := (.array (.object "com/example/glacis/glacis/analysis/Bdd$Computed"))) (Or.inr (hw _ (List.mem_of_getElem? (i := 55) rfl))) (Or.inr (hw _ (List.mem_of_getElem? (i := 43) rfl))) (by decide) (by decide) (by decide)))
  have f750 : Fld Z h731 a "com/example/glacis/glacis/analysis/Bdd" "collectAt" "I" (.int 0) := Fld.other W734 f709 (Or.inr (slot_ne (t := .int) (t' := (.array (.object "com/example/glacis/glacis/analysis/Bdd$Computed"))) (Or.inl (hw _ (List.mem_of_getElem? (i := 57) rfl))) (Or.inr (hw _ (List.mem_of_getElem? (i := 43) rfl))) (by decide) (by decide) (by decide)))
  have f751 : Ar Z h731 b4 .int 1024 (fun _ => (.int 0)) := f710.other W734 (Ne.symm n12)
  have f752 : Ar Z h731 b61 .int 1024 (fun _ => (.int 0)) := f711.other W734 (Ne.symm n69)
  have f753 : Ar Z h731 b121 .int 1024 (fun _ => (.int 0)) := f712.other W734 (Ne.symm n129)
  have f754 : Ar Z h731 b184 .int 1024 (fun _ => (.int 0)) := f713.other W734 (Ne.symm n192)
  have f755 : Ar Z h731 b250 .int 1024 (fun _ => (.int 0)) := f714.other W734 (Ne.symm n258)
  have f756 : Ar Z h731 b345 .double 16 (fun _ => (.double 0)) := f715.other W734 (Ne.symm n353)
  have f757 : Ar Z h731 b414 (.object "com/example/glacis/glacis/analysis/Bdd$Computed") 2 (fun q => if q = 1 then (.ref b584) else if q = 0 then (.ref b457) else .null) := f728.other W734 (Ne.symm n423)
  have f758 : Ov Z h731 b414 "com/example/glacis/glacis/analysis/Bdd$Computed" := f716.wr W734
  have f759 : Exa Z h731 b457 "com/example/glacis/glacis/analysis/Bdd$Computed" := Exa.wr W734 f717
  have f760 : Fld Z h731 b457 "com/example/glacis/glacis/analysis/Bdd$Computed" "first" "[I" (.ref xc0_) := Fld.other W734 f718 (Or.inl (Ne.symm n466))
  have f761 : Fld Z h731 b457 "com/example/glacis/glacis/analysis/Bdd$Computed" "second" "[I" (.ref yc0_) := Fld.other W734 f719 (Or.inl (Ne.symm n466))
  have f762 : Fld Z h731 b457 "com/example/glacis/glacis/analysis/Bdd$Computed" "result" "[I" (.ref zc0_) := Fld.other W734 f720 (Or.inl (Ne.symm n466))
  have f763 : Ar Z h731 xc0_ .int 0 (fun _ => .int 0) := f721.other W734 (Ne.symm n509)
  have f764 : Exa Z h731 b584 "com/example/glacis/glacis/analysis/Bdd$Computed" := Exa.wr W734 f722
  have f765 : Fld Z h731 b584 "com/example/glacis/glacis/analysis/Bdd$Computed" "first" "[I" (.ref xc1_) := Fld.other W734 f723 (Or.inl (Ne.symm n593))
  have f766 : Fld Z h731 b584 "com/example/glacis/glacis/analysis/Bdd$Computed" "second" "[I" (.ref yc1_) := Fld.other W734 f724 (Or.inl (Ne.symm n593))
  have f767 : Fld Z h731 b584 "com/example/glacis/glacis/analysis/Bdd$Computed" "result" "[I" (.ref zc1_) := Fld.other W734 f725 (Or.inl (Ne.symm n593))
  have f768 : Ar Z h731 xc1_ .int 0 (fun _ => .int 0) := f726.other W734 (Ne.symm n643)
  have z769 : n0 ≤ h731.size := by rw [Wr.size W734]; exact z727
  have f770 : Fld Z h731 a "com/example/glacis/glacis/analysis/Bdd" "computed" "[Lcom/example/glacis/glacis/analysis/Bdd$Computed;" (.ref b414) := Fld.same W734 f700
  have N771 : Fr n0 _ := Fr.snoc X732 N729 ga
  show Go p e below _ (T730.setTop (mkF m 98 #[.val (.ref a), .val (.int x1), .unset, .unset, .unset, .unset] []))
  refine Go.aloadN (pc' := 99) X732 hx hby d1_98 rfl rfl rfl ?_
  refine Go.bipush (pc' := 101) X732 hx hby d1_99 rfl (v := (64 : Int32)) (by decide) ?_
  refine Go.newarr (pc' := 103) (cap := 64) (z := 64) X732 hx hby hZ (hw _ (List.mem_of_getElem? (i := 11) rfl)) e733 d1_101 rfl (by decide) (by decide) (by decide) (by decide) (by decide) (by decide) ?_
  intro b772 T773 h774 g775 X776 e777 E778 A779
  have n780 : a ≠ b772 := Nat.ne_of_lt (by rw [g775]; exact f735.lt)
  have n781 : b4 ≠ b772 := Nat.ne_of_lt (by rw [g775]; exact f751.lt)
  have n782 : b61 ≠ b772 := Nat.ne_of_lt (by rw [g775]; exact f752.lt)
  have n783 : b121 ≠ b772 := Nat.ne_of_lt (by rw [g775]; exact f753.lt)
  have n784 : b184 ≠ b772 := Nat.ne_of_lt (by rw [g775]; exact f754.lt)
  have n785 : b250 ≠ b772 := Nat.ne_of_lt (by rw [g775]; exact f755.lt)
  have n786 : b345 ≠ b772 := Nat.ne_of_lt (by rw [g775]; exact f756.lt)
  have n787 : b414 ≠ b772 := Nat.ne_of_lt (by rw [g775]; exact f757.lt)
  have n788 : b457 ≠ b772 := Nat.ne_of_lt (by rw [g775]; exact f759.lt)
  have n789 : xc0_ ≠ b772 := Nat.ne_of_lt (by rw [g775]; exact f763.lt)
  have n790 : b584 ≠ b772 := Nat.ne_of_lt (by rw [g775]; exact f764.lt)
  have n791 : xc1_ ≠ b772 := Nat.ne_of_lt (by rw [g775]; exact f768.lt)
  have g792 : n0 ≤ b772 := by rw [g775]; exact z769
  have f793 : Exa Z h774 a "com/example/glacis/glacis/analysis/Bdd" := Exa.ext E778 f735
  have f794 : Fld Z h774 a "com/example/glacis/glacis/analysis/Bdd" "level" "[I" (.ref b4) := Fld.ext E778 f736
  have f795 : Fld Z h774 a "com/example/glacis/glacis/analysis/Bdd" "low" "[I" (.ref b61) := Fld.ext E778 f737
  have f796 : Fld Z h774 a "com/example/glacis/glacis/analysis/Bdd" "high" "[I" (.ref b121) := Fld.ext E778 f738
  have f797 : Fld Z h774 a "com/example/glacis/glacis/analysis/Bdd" "chain" "[I" (.ref b184) := Fld.ext E778 f739
  have f798 : Fld Z h774 a "com/example/glacis/glacis/analysis/Bdd" "buckets" "[I" (.ref b250) := Fld.ext E778 f740
  have f799 : Fld Z h774 a "com/example/glacis/glacis/analysis/Bdd" "probabilities" "[D" (.ref b345) := Fld.ext E778 f741
  have f800 : Fld Z h774 a "com/example/glacis/glacis/analysis/Bdd" "computed" "[Lcom/example/glacis/glacis/analysis/Bdd$Computed;" (.ref b414) := Fld.ext E778 f770
  have f801 : Fld Z h774 a "com/example/glacis/glacis/analysis/Bdd" "stackFirst" "[I" .null := Fld.ext E778 f742
  have f802 : Fld Z h774 a "com/example/glacis/glacis/analysis/Bdd" "stackSecond" "[I" .null := Fld.ext E778 f743
  have f803 : Fld Z h774 a "com/example/glacis/glacis/analysis/Bdd" "stackLevel" "[I" .null := Fld.ext E778 f744
  have f804 : Fld Z h774 a "com/example/glacis/glacis/analysis/Bdd" "stackLow" "[I" .null := Fld.ext E778 f745
  have f805 : Fld Z h774 a "com/example/glacis/glacis/analysis/Bdd" "stackPhase" "[I" .null := Fld.ext E778 f746
  have f806 : Fld Z h774 a "com/example/glacis/glacis/analysis/Bdd" "size" "I" (.int (2 : Int32)) := Fld.ext E778 f747
  have f807 : Fld Z h774 a "com/example/glacis/glacis/analysis/Bdd" "variables" "I" (.int 0) := Fld.ext E778 f748
  have f808 : Fld Z h774 a "com/example/glacis/glacis/analysis/Bdd" "slack" "I" (.int 0) := Fld.ext E778 f749
  have f809 : Fld Z h774 a "com/example/glacis/glacis/analysis/Bdd" "collectAt" "I" (.int 0) := Fld.ext E778 f750
  have f810 : Ar Z h774 b4 .int 1024 (fun _ => (.int 0)) := f751.ext E778
  have f811 : Ar Z h774 b61 .int 1024 (fun _ => (.int 0)) := f752.ext E778
  have f812 : Ar Z h774 b121 .int 1024 (fun _ => (.int 0)) := f753.ext E778
  have f813 : Ar Z h774 b184 .int 1024 (fun _ => (.int 0)) := f754.ext E778
  have f814 : Ar Z h774 b250 .int 1024 (fun _ => (.int 0)) := f755.ext E778
  have f815 : Ar Z h774 b345 .double 16 (fun _ => (.double 0)) := f756.ext E778
  have f816 : Ar Z h774 b414 (.object "com/example/glacis/glacis/analysis/Bdd$Computed") 2 (fun q => if q = 1 then (.ref b584) else if q = 0 then (.ref b457) else .null) := f757.ext E778
  have f817 : Exa Z h774 b457 "com/example/glacis/glacis/analysis/Bdd$Computed" := Exa.ext E778 f759
  have f818 : Fld Z h774 b457 "com/example/glacis/glacis/analysis/Bdd$Computed" "first" "[I" (.ref xc0_) := Fld.ext E778 f760
  have f819 : Fld Z h774 b457 "com/example/glacis/glacis/analysis/Bdd$Computed" "second" "[I" (.ref yc0_) := Fld.ext E778 f761
  have f820 : Fld Z h774 b457 "com/example/glacis/glacis/analysis/Bdd$Computed" "result" "[I" (.ref zc0_) := Fld.ext E778 f762
  have f821 : Ar Z h774 xc0_ .int 0 (fun _ => .int 0) := f763.ext E778
  have f822 : Exa Z h774 b584 "com/example/glacis/glacis/analysis/Bdd$Computed" := Exa.ext E778 f764
  have f823 : Fld Z h774 b584 "com/example/glacis/glacis/analysis/Bdd$Computed" "first" "[I" (.ref xc1_) := Fld.ext E778 f765
  have f824 : Fld Z h774 b584 "com/example/glacis/glacis/analysis/Bdd$Computed" "second" "[I" (.ref yc1_) := Fld.ext E778 f766
  have f825 : Fld Z h774 b584 "com/example/glacis/glacis/analysis/Bdd$Computed" "result" "[I" (.ref zc1_) := Fld.ext E778 f767
  have f826 : Ar Z h774 xc1_ .int 0 (fun _ => .int 0) := f768.ext E778
  have z827 : n0 ≤ h774.size := Nat.le_trans z769 E778.1
  have f828 : Ar Z h774 b772 .int 64 (fun _ => (.int 0)) := A779
  show Go p e below _ (T773.setTop (mkF m 103 #[.val (.ref a), .val (.int x1), .unset, .unset, .unset, .unset] [(.ref b772), (.ref a)]))
  have l7_ : b414 < b772 := by rw [g775]; exact f757.lt
  refine Go.putF (pc' := 106) (ty := (.array .int)) X776 hx hby hZ hown (hw _ (List.mem_of_getElem? (i := 44) rfl)) Via.refl e777 f801 f793 (Or.inl (hw _ (List.mem_of_getElem? (i := 45) rfl))) (hw _ (List.mem_of_getElem? (i := 3) rfl)) (by decide) rfl rfl d1_103 rfl ?_
  intro T829 h830 X831 e832 W833
  have f834 : Exa Z h830 a "com/example/glacis/glacis/analysis/Bdd" := Exa.wr W833 f793
  have f835 : Fld Z h830 a "com/example/glacis/glacis/analysis/Bdd" "level" "[I" (.ref b4) := Fld.other W833 f794 (Or.inr (slot_ne (t := (.array .int)) (t' := (.array .int)) (Or.inl (hw _ (List.mem_of_getElem? (i := 13) rfl))) (Or.inl (hw _ (List.mem_of_getElem? (i := 45) rfl))) (by decide) (by decide) (by decide)))
  have f836 : Fld Z h830 a "com/example/glacis/glacis/analysis/Bdd" "low" "[I" (.ref b61) := Fld.other W833 f795 (Or.inr (slot_ne (t := (.array .int)) (t' := (.array .int)) (Or.inl (hw _ (List.mem_of_getElem? (i := 15) rfl))) (Or.inl (hw _ (List.mem_of_getElem? (i := 45) rfl))) (by decide) (by decide) (by decide)))
  have f837 : Fld Z h830 a "com/example/glacis/glacis/analysis/Bdd" "high" "[I" (.ref b121) := Fld.other W833 f796 (Or.inr (slot_ne (t := (.array .int)) (t' := (.array .int)) (Or.inl (hw _ (List.mem_of_getElem? (i := 17) rfl))) (Or.inl (hw _ (List.mem_of_getElem? (i := 45) rfl))) (by decide) (by decide) (by decide)))
  have f838 : Fld Z h830 a "com/example/glacis/glacis/analysis/Bdd" "chain" "[I" (.ref b184) := Fld.other W833 f797 (Or.inr (slot_ne (t := (.array .int)) (t' := (.array .int)) (Or.inl (hw _ (List.mem_of_getElem? (i := 19) rfl))) (Or.inl (hw _ (List.mem_of_getElem? (i := 45) rfl))) (by decide) (by decide) (by decide)))
  have f839 : Fld Z h830 a "com/example/glacis/glacis/analysis/Bdd" "buckets" "[I" (.ref b250) := Fld.other W833 f798 (Or.inr (slot_ne (t := (.array .int)) (t' := (.array .int)) (Or.inl (hw _ (List.mem_of_getElem? (i := 21) rfl))) (Or.inl (hw _ (List.mem_of_getElem? (i := 45) rfl))) (by decide) (by decide) (by decide)))
  have f840 : Fld Z h830 a "com/example/glacis/glacis/analysis/Bdd" "probabilities" "[D" (.ref b345) := Fld.other W833 f799 (Or.inr (slot_ne (t := (.array .double)) (t' := (.array .int)) (Or.inl (hw _ (List.mem_of_getElem? (i := 26) rfl))) (Or.inl (hw _ (List.mem_of_getElem? (i := 45) rfl))) (by decide) (by decide) (by decide)))
  have f841 : Fld Z h830 a "com/example/glacis/glacis/analysis/Bdd" "computed" "[Lcom/example/glacis/glacis/analysis/Bdd$Computed;" (.ref b414) := Fld.other W833 f800 (Or.inr (slot_ne (t := (.array (.object "com/example/glacis/glacis/analysis/Bdd$Computed"))) (t' := (.array .int)) (Or.inr (hw _ (List.mem_of_getElem? (i := 43) rfl))) (Or.inl (hw _ (List.mem_of_getElem? (i := 45) rfl))) (by decide) (by decide) (by decide)))
  have f842 : Fld Z h830 a "com/example/glacis/glacis/analysis/Bdd" "stackSecond" "[I" .null := Fld.other W833 f802 (Or.inr (slot_ne (t := (.array .int)) (t' := (.array .int)) (Or.inl (hw _ (List.mem_of_getElem? (i := 47) rfl))) (Or.inl (hw _ (List.mem_of_getElem? (i := 45) rfl))) (by decide) (by decide) (by decide)))
  have f843 : Fld Z h830 a "com/example/glacis/glacis/analysis/Bdd" "stackLevel" "[I" .null := Fld.other W833 f803 (Or.inr (slot_ne (t := (.array .int)) (t' := (.array .int)) (Or.inl (hw _ (List.mem_of_getElem? (i := 49) rfl))) (Or.inl (hw _ (List.mem_of_getElem? (i := 45) rfl))) (by decide) (by decide) (by decide)))
  have f844 : Fld Z h830 a "com/example/glacis/glacis/analysis/Bdd" "stackLow" "[I" .null := Fld.other W833 f804 (Or.inr (slot_ne (t := (.array .int)) (t' := (.array .int)) (Or.inl (hw _ (List.mem_of_getElem? (i := 51) rfl))) (Or.inl (hw _ (List.mem_of_getElem? (i := 45) rfl))) (by decide) (by decide) (by decide)))
  have f845 : Fld Z h830 a "com/example/glacis/glacis/analysis/Bdd" "stackPhase" "[I" .null := Fld.other W833 f805 (Or.inr (slot_ne (t := (.array .int)) (t' := (.array .int)) (Or.inl (hw _ (List.mem_of_getElem? (i := 53) rfl))) (Or.inl (hw _ (List.mem_of_getElem? (i := 45) rfl))) (by decide) (by decide) (by decide)))
  have f846 : Fld Z h830 a "com/example/glacis/glacis/analysis/Bdd" "size" "I" (.int (2 : Int32)) := Fld.other W833 f806 (Or.inr (slot_ne (t := .int) (t' := (.array .int)) (Or.inl (hw _ (List.mem_of_getElem? (i := 23) rfl))) (Or.inl (hw _ (List.mem_of_getElem? (i := 45) rfl))) (by decide) (by decide) (by decide)))
  have f847 : Fld Z h830 a "com/example/glacis/glacis/analysis/Bdd" "variables" "I" (.int 0) := Fld.other W833 f807 (Or.inr (slot_ne (t := .int) (t' := (.array .int)) (Or.inl (hw _ (List.mem_of_getElem? (i := 80) rfl))) (Or.inl (hw _ (List.mem_of_getElem? (i := 45) rfl))) (by decide) (by decide) (by decide)))
  have f848 : Fld Z h830 a "com/example/glacis/glacis/analysis/Bdd" "slack" "I" (.int 0) := Fld.other W833 f808 (Or.inr (slot_ne (t := .int) (t' := (.array .int)) (Or.inr (hw _ (List.mem_of_getElem? (i := 55) rfl))) (Or.inl (hw _ (List.mem_of_getElem? (i := 45) rfl))) (by decide) (by decide) (by decide)))
  have f849 : Fld Z h830 a "com/example/glacis/glacis/analysis/Bdd" "collectAt" "I" (.int 0) := Fld.other W833 f809 (Or.inr (slot_ne (t := .int) (t' := (.array .int)) (Or.inl (hw _ (List.mem_of_getElem? (i := 57) rfl))) (Or.inl (hw _ (List.mem_of_getElem? (i := 45) rfl))) (by decide) (by decide) (by decide)))
  have f850 : Ar Z h830 b4 .int 1024 (fun _ => (.int 0)) := f810.other W833 (Ne.symm n12)
  have f851 : Ar Z h830 b61 .int 1024 (fun _ => (.int 0)) := f811.other W833 (Ne.symm n69)
  have f852 : Ar Z h830 b121 .int 1024 (fun _ => (.int 0)) := f812.other W833 (Ne.symm n129)
  have f853 : Ar Z h830 b184 .int 1024 (fun _ => (.int 0)) := f813.other W833 (Ne.symm n192)
  have f854 : Ar Z h830 b250 .int 1024 (fun _ => (.int 0)) := f814.other W833 (Ne.symm n258)
  have f855 : Ar Z h830 b345 .double 16 (fun _ => (.double 0)) := f815.other W833 (Ne.symm n353)
  have f856 : Ar Z h830 b414 (.object "com/example/glacis/glacis/analysis/Bdd$Computed") 2 (fun q => if q = 1 then (.ref b584) else if q = 0 then (.ref b457) else .null) := f816.other W833 (Ne.symm n423)
  have f857 : Exa Z h830 b457 "com/example/glacis/glacis/analysis/Bdd$Computed" := Exa.wr W833 f817
  have f858 : Fld Z h830 b457 "com/example/glacis/glacis/analysis/Bdd$Computed" "first" "[I" (.ref xc0_) := Fld.other W833 f818 (Or.inl (Ne.symm n466))
  have f859 : Fld Z h830 b457 "com/example/glacis/glacis/analysis/Bdd$Computed" "second" "[I" (.ref yc0_) := Fld.other W833 f819 (Or.inl (Ne.symm n466))
  have f860 : Fld Z h830 b457 "com/example/glacis/glacis/analysis/Bdd$Computed" "result" "[I" (.ref zc0_) := Fld.other W833 f820 (Or.inl (Ne.symm n466))
  have f861 : Ar Z h830 xc0_ .int 0 (fun _ => .int 0) := f821.other W833 (Ne.symm n509)
  have f862 : Exa Z h830 b584 "com/example/glacis/glacis/analysis/Bdd$Computed" := Exa.wr W833 f822
  have f863 : Fld Z h830 b584 "com/example/glacis/glacis/analysis/Bdd$Computed" "first" "[I" (.ref xc1_) := Fld.other W833 f823 (Or.inl (Ne.symm n593))
  have f864 : Fld Z h830 b584 "com/example/glacis/glacis/analysis/Bdd$Computed" "second" "[I" (.ref yc1_) := Fld.other W833 f824 (Or.inl (Ne.symm n593))
  have f865 : Fld Z h830 b584 "com/example/glacis/glacis/analysis/Bdd$Computed" "result" "[I" (.ref zc1_) := Fld.other W833 f825 (Or.inl (Ne.symm n593))
  have f866 : Ar Z h830 xc1_ .int 0 (fun _ => .int 0) := f826.other W833 (Ne.symm n643)
  have f867 : Ar Z h830 b772 .int 64 (fun _ => (.int 0)) := f828.other W833 (Ne.symm n780)
  have z868 : n0 ≤ h830.size := by rw [Wr.size W833]; exact z827
  have f869 : Fld Z h830 a "com/example/glacis/glacis/analysis/Bdd" "stackFirst" "[I" (.ref b772) := Fld.same W833 f801
  have N870 : Fr n0 _ := Fr.snoc X831 N771 ga
  show Go p e below _ (T829.setTop (mkF m 106 #[.val (.ref a), .val (.int x1), .unset, .unset, .unset, .unset] []))
  refine Go.aloadN (pc' := 107) X831 hx hby d1_106 rfl rfl rfl ?_
  refine Go.bipush (pc' := 109) X831 hx hby d1_107 rfl (v := (64 : Int32)) (by decide) ?_
  refine Go.newarr (pc' := 111) (cap := 64) (z := 64) X831 hx hby hZ (hw _ (List.mem_of_getElem? (i := 11) rfl)) e832 d1_109 rfl (by decide) (by decide) (by decide) (by decide) (by decide) (by decide) ?_
  intro b871 T872 h873 g874 X875 e876 E877 A878
  have n879 : a ≠ b871 := Nat.ne_of_lt (by rw [g874]; exact f834.lt)
  have n880 : b4 ≠ b871 := Nat.ne_of_lt (by rw [g874]; exact f850.lt)
  have n881 : b61 ≠ b871 := Nat.ne_of_lt (by rw [g874]; exact f851.lt)
  have n882 : b121 ≠ b871 := Nat.ne_of_lt (by rw [g874]; exact f852.lt)
  have n883 : b184 ≠ b871 := Nat.ne_of_lt (by rw [g874]; exact f853.lt)
  have n884 : b250 ≠ b871 := Nat.ne_of_lt (by rw [g874]; exact f854.lt)
  have n885 : b345 ≠ b871 := Nat.ne_of_lt (by rw [g874]; exact f855.lt)
  have n886 : b414 ≠ b871 := Nat.ne_of_lt (by rw [g874]; exact f856.lt)
  have n887 : b457 ≠ b871 := Nat.ne_of_lt (by rw [g874]; exact f857.lt)
  have n888 : xc0_ ≠ b871 := Nat.ne_of_lt (by rw [g874]; exact f861.lt)
  have n889 : b584 ≠ b871 := Nat.ne_of_lt (by rw [g874]; exact f862.lt)
  have n890 : xc1_ ≠ b871 := Nat.ne_of_lt (by rw [g874]; exact f866.lt)
  have n891 : b772 ≠ b871 := Nat.ne_of_lt (by rw [g874]; exact f867.lt)
  have g892 : n0 ≤ b871 := by rw [g874]; exact z868
  have f893 : Exa Z h873 a "com/example/glacis/glacis/analysis/Bdd" := Exa.ext E877 f834
  have f894 : Fld Z h873 a "com/example/glacis/glacis/analysis/Bdd" "level" "[I" (.ref b4) := Fld.ext E877 f835
  have f895 : Fld Z h873 a "com/example/glacis/glacis/analysis/Bdd" "low" "[I" (.ref b61) := Fld.ext E877 f836
  have f896 : Fld Z h873 a "com/example/glacis/glacis/analysis/Bdd" "high" "[I" (.ref b121) := Fld.ext E877 f837
  have f897 : Fld Z h873 a "com/example/glacis/glacis/analysis/Bdd" "chain" "[I" (.ref b184) := Fld.ext E877 f838
  have f898 : Fld Z h873 a "com/example/glacis/glacis/analysis/Bdd" "buckets" "[I" (.ref b250) := Fld.ext E877 f839
  have f899 : Fld Z h873 a "com/example/glacis/glacis/analysis/Bdd" "probabilities" "[D" (.ref b345) := Fld.ext E877 f840
  have f900 : Fld Z h873 a "com/example/glacis/glacis/analysis/Bdd" "computed" "[Lcom/example/glacis/glacis/analysis/Bdd$Computed;" (.ref b414) := Fld.ext E877 f841
  have f901 : Fld Z h873 a "com/example/glacis/glacis/analysis/Bdd" "stackFirst" "[I" (.ref b772) := Fld.ext E877 f869
  have f902 : Fld Z h873 a "com/example/glacis/glacis/analysis/Bdd" "stackSecond" "[I" .null := Fld.ext E877 f842
  have f903 : Fld Z h873 a "com/example/glacis/glacis/analysis/Bdd" "stackLevel" "[I" .null := Fld.ext E877 f843
  have f904 : Fld Z h873 a "com/example/glacis/glacis/analysis/Bdd" "stackLow" "[I" .null := Fld.ext E877 f844
  have f905 : Fld Z h873 a "com/example/glacis/glacis/analysis/Bdd" "stackPhase" "[I" .null := Fld.ext E877 f845
  have f906 : Fld Z h873 a "com/example/glacis/glacis/analysis/Bdd" "size" "I" (.int (2 : Int32)) := Fld.ext E877 f846
  have f907 : Fld Z h873 a "com/example/glacis/glacis/analysis/Bdd" "variables" "I" (.int 0) := Fld.ext E877 f847
  have f908 : Fld Z h873 a "com/example/glacis/glacis/analysis/Bdd" "slack" "I" (.int 0) := Fld.ext E877 f848
  have f909 : Fld Z h873 a "com/example/glacis/glacis/analysis/Bdd" "collectAt" "I" (.int 0) := Fld.ext E877 f849
  have f910 : Ar Z h873 b4 .int 1024 (fun _ => (.int 0)) := f850.ext E877
  have f911 : Ar Z h873 b61 .int 1024 (fun _ => (.int 0)) := f851.ext E877
  have f912 : Ar Z h873 b121 .int 1024 (fun _ => (.int 0)) := f852.ext E877
  have f913 : Ar Z h873 b184 .int 1024 (fun _ => (.int 0)) := f853.ext E877
  have f914 : Ar Z h873 b250 .int 1024 (fun _ => (.int 0)) := f854.ext E877
  have f915 : Ar Z h873 b345 .double 16 (fun _ => (.double 0)) := f855.ext E877
  have f916 : Ar Z h873 b414 (.object "com/example/glacis/glacis/analysis/Bdd$Computed") 2 (fun q => if q = 1 then (.ref b584) else if q = 0 then (.ref b457) else .null) := f856.ext E877
  have f917 : Exa Z h873 b457 "com/example/glacis/glacis/analysis/Bdd$Computed" := Exa.ext E877 f857
  have f918 : Fld Z h873 b457 "com/example/glacis/glacis/analysis/Bdd$Computed" "first" "[I" (.ref xc0_) := Fld.ext E877 f858
  have f919 : Fld Z h873 b457 "com/example/glacis/glacis/analysis/Bdd$Computed" "second" "[I" (.ref yc0_) := Fld.ext E877 f859
  have f920 : Fld Z h873 b457 "com/example/glacis/glacis/analysis/Bdd$Computed" "result" "[I" (.ref zc0_) := Fld.ext E877 f860
  have f921 : Ar Z h873 xc0_ .int 0 (fun _ => .int 0) := f861.ext E877
  have f922 : Exa Z h873 b584 "com/example/glacis/glacis/analysis/Bdd$Computed" := Exa.ext E877 f862
  have f923 : Fld Z h873 b584 "com/example/glacis/glacis/analysis/Bdd$Computed" "first" "[I" (.ref xc1_) := Fld.ext E877 f863
  have f924 : Fld Z h873 b584 "com/example/glacis/glacis/analysis/Bdd$Computed" "second" "[I" (.ref yc1_) := Fld.ext E877 f864
  have f925 : Fld Z h873 b584 "com/example/glacis/glacis/analysis/Bdd$Computed" "result" "[I" (.ref zc1_) := Fld.ext E877 f865
  have f926 : Ar Z h873 xc1_ .int 0 (fun _ => .int 0) := f866.ext E877
  have f927 : Ar Z h873 b772 .int 64 (fun _ => (.int 0)) := f867.ext E877
  have z928 : n0 ≤ h873.size := Nat.le_trans z868 E877.1
  have f929 : Ar Z h873 b871 .int 64 (fun _ => (.int 0)) := A878
  show Go p e below _ (T872.setTop (mkF m 111 #[.val (.ref a), .val (.int x1), .unset, .unset, .unset, .unset] [(.ref b871), (.ref a)]))
  have l8_ : b772 < b871 := by rw [g874]; exact f867.lt
  refine Go.putF (pc' := 114) (ty := (.array .int)) X875 hx hby hZ hown (hw _ (List.mem_of_getElem? (i := 46) rfl)) Via.refl e876 f902 f893 (Or.inl (hw _ (List.mem_of_getElem? (i := 47) rfl))) (hw _ (List.mem_of_getElem? (i := 3) rfl)) (by decide) rfl rfl d1_111 rfl ?_
  intro T930 h931 X932 e933 W934
  have f935 : Exa Z h931 a "com/example/glacis/glacis/analysis/Bdd" := Exa.wr W934 f893
  have f936 : Fld Z h931 a "com/example/glacis/glacis/analysis/Bdd" "level" "[I" (.ref b4) := Fld.other W934 f894 (Or.inr (slot_ne (t := (.array .int)) (t' := (.array .int)) (Or.inl (hw _ (List.mem_of_getElem? (i := 13) rfl))) (Or.inl (hw _ (List.mem_of_getElem? (i := 47) rfl))) (by decide) (by decide) (by decide)))
  have f937 : Fld Z h931 a "com/example/glacis/glacis/analysis/Bdd" "low" "[I" (.ref b61) := Fld.other W934 f895 (Or.inr (slot_ne (t := (.array .int)) (t' := (.array .int)) (Or.inl (hw _ (List.mem_of_getElem? (i := 15) rfl))) (Or.inl (hw _ (List.mem_of_getElem? (i := 47) rfl))) (by decide) (by decide) (by decide)))
  have f938 : Fld Z h931 a "com/example/glacis/glacis/analysis/Bdd" "high" "[I" (.ref b121) := Fld.other W934 f896 (Or.inr (slot_ne (t := (.array .int)) (t' := (.array .int)) (Or.inl (hw _ (List.mem_of_getElem? (i := 17) rfl))) (Or.inl (hw _ (List.mem_of_getElem? (i := 47) rfl))) (by decide) (by decide) (by decide)))
  have f939 : Fld Z h931 a "com/example/glacis/glacis/analysis/Bdd" "chain" "[I" (.ref b184) := Fld.other W934 f897 (Or.inr (slot_ne (t := (.array .int)) (t' := (.array .int)) (Or.inl (hw _ (List.mem_of_getElem? (i := 19) rfl))) (Or.inl (hw _ (List.mem_of_getElem? (i := 47) rfl))) (by decide) (by decide) (by decide)))
  have f940 : Fld Z h931 a "com/example/glacis/glacis/analysis/Bdd" "buckets" "[I" (.ref b250) := Fld.other W934 f898 (Or.inr (slot_ne (t := (.array .int)) (t' := (.array .int)) (Or.inl (hw _ (List.mem_of_getElem? (i := 21) rfl))) (Or.inl (hw _ (List.mem_of_getElem? (i := 47) rfl))) (by decide) (by decide) (by decide)))
  have f941 : Fld Z h931 a "com/example/glacis/glacis/analysis/Bdd" "probabilities" "[D" (.ref b345) := Fld.other W934 f899 (Or.inr (slot_ne (t := (.array .double)) (t' := (.array .int)) (Or.inl (hw _ (List.mem_of_getElem? (i := 26) rfl))) (Or.inl (hw _ (List.mem_of_getElem? (i := 47) rfl))) (by decide) (by decide) (by decide)))
  have f942 : Fld Z h931 a "com/example/glacis/glacis/analysis/Bdd" "computed" "[Lcom/example/glacis/glacis/analysis/Bdd$Computed;" (.ref b414) := Fld.other W934 f900 (Or.inr (slot_ne (t := (.array (.object "com/example/glacis/glacis/analysis/Bdd$Computed"))) (t' := (.array .int)) (Or.inr (hw _ (List.mem_of_getElem? (i := 43) rfl))) (Or.inl (hw _ (List.mem_of_getElem? (i := 47) rfl))) (by decide) (by decide) (by decide)))
  have f943 : Fld Z h931 a "com/example/glacis/glacis/analysis/Bdd" "stackFirst" "[I" (.ref b772) := Fld.other W934 f901 (Or.inr (slot_ne (t := (.array .int)) (t' := (.array .int)) (Or.inl (hw _ (List.mem_of_getElem? (i := 45) rfl))) (Or.inl (hw _ (List.mem_of_getElem? (i := 47) rfl))) (by decide) (by decide) (by decide)))
  have f944 : Fld Z h931 a "com/example/glacis/glacis/analysis/Bdd" "stackLevel" "[I" .null := Fld.other W934 f903 (Or.inr (slot_ne (t := (.array .int)) (t' := (.array .int)) (Or.inl (hw _ (List.mem_of_getElem? (i := 49) rfl))) (Or.inl (hw _ (List.mem_of_getElem? (i := 47) rfl))) (by decide) (by decide) (by decide)))
  have f945 : Fld Z h931 a "com/example/glacis/glacis/analysis/Bdd" "stackLow" "[I" .null := Fld.other W934 f904 (Or.inr (slot_ne (t := (.array .int)) (t' := (.array .int)) (Or.inl (hw _ (List.mem_of_getElem? (i := 51) rfl))) (Or.inl (hw _ (List.mem_of_getElem? (i := 47) rfl))) (by decide) (by decide) (by decide)))
  have f946 : Fld Z h931 a "com/example/glacis/glacis/analysis/Bdd" "stackPhase" "[I" .null := Fld.other W934 f905 (Or.inr (slot_ne (t := (.array .int)) (t' := (.array .int)) (Or.inl (hw _ (List.mem_of_getElem? (i := 53) rfl))) (Or.inl (hw _ (List.mem_of_getElem? (i := 47) rfl))) (by decide) (by decide) (by decide)))
  have f947 : Fld Z h931 a "com/example/glacis/glacis/analysis/Bdd" "size" "I" (.int (2 : Int32)) := Fld.other W934 f906 (Or.inr (slot_ne (t := .int) (t' := (.array .int)) (Or.inl (hw _ (List.mem_of_getElem? (i := 23) rfl))) (Or.inl (hw _ (List.mem_of_getElem? (i := 47) rfl))) (by decide) (by decide) (by decide)))
  have f948 : Fld Z h931 a "com/example/glacis/glacis/analysis/Bdd" "variables" "I" (.int 0) := Fld.other W934 f907 (Or.inr (slot_ne (t := .int) (t' := (.array .int)) (Or.inl (hw _ (List.mem_of_getElem? (i := 80) rfl))) (Or.inl (hw _ (List.mem_of_getElem? (i := 47) rfl))) (by decide) (by decide) (by decide)))
  have f949 : Fld Z h931 a "com/example/glacis/glacis/analysis/Bdd" "slack" "I" (.int 0) := Fld.other W934 f908 (Or.inr (slot_ne (t := .int) (t' := (.array .int)) (Or.inr (hw _ (List.mem_of_getElem? (i := 55) rfl))) (Or.inl (hw _ (List.mem_of_getElem? (i := 47) rfl))) (by decide) (by decide) (by decide)))
  have f950 : Fld Z h931 a "com/example/glacis/glacis/analysis/Bdd" "collectAt" "I" (.int 0) := Fld.other W934 f909 (Or.inr (slot_ne (t := .int) (t' := (.array .int)) (Or.inl (hw _ (List.mem_of_getElem? (i := 57) rfl))) (Or.inl (hw _ (List.mem_of_getElem? (i := 47) rfl))) (by decide) (by decide) (by decide)))
  have f951 : Ar Z h931 b4 .int 1024 (fun _ => (.int 0)) := f910.other W934 (Ne.symm n12)
  have f952 : Ar Z h931 b61 .int 1024 (fun _ => (.int 0)) := f911.other W934 (Ne.symm n69)
  have f953 : Ar Z h931 b121 .int 1024 (fun _ => (.int 0)) := f912.other W934 (Ne.symm n129)
  have f954 : Ar Z h931 b184 .int 1024 (fun _ => (.int 0)) := f913.other W934 (Ne.symm n192)
  have f955 : Ar Z h931 b250 .int 1024 (fun _ => (.int 0)) := f914.other W934 (Ne.symm n258)
  have f956 : Ar Z h931 b345 .double 16 (fun _ => (.double 0)) := f915.other W934 (Ne.symm n353)
  have f957 : Ar Z h931 b414 (.object "com/example/glacis/glacis/analysis/Bdd$Computed") 2 (fun q => if q = 1 then (.ref b584) else if q = 0 then (.ref b457) else .null) := f916.other W934 (Ne.symm n423)
  have f958 : Exa Z h931 b457 "com/example/glacis/glacis/analysis/Bdd$Computed" := Exa.wr W934 f917
  have f959 : Fld Z h931 b457 "com/example/glacis/glacis/analysis/Bdd$Computed" "first" "[I" (.ref xc0_) := Fld.other W934 f918 (Or.inl (Ne.symm n466))
  have f960 : Fld Z h931 b457 "com/example/glacis/glacis/analysis/Bdd$Computed" "second" "[I" (.ref yc0_) := Fld.other W934 f919 (Or.inl (Ne.symm n466))
  have f961 : Fld Z h931 b457 "com/example/glacis/glacis/analysis/Bdd$Computed" "result" "[I" (.ref zc0_) := Fld.other W934 f920 (Or.inl (Ne.symm n466))
  have f962 : Ar Z h931 xc0_ .int 0 (fun _ => .int 0) := f921.other W934 (Ne.symm n509)
  have f963 : Exa Z h931 b584 "com/example/glacis/glacis/analysis/Bdd$Computed" := Exa.wr W934 f922
  have f964 : Fld Z h931 b584 "com/example/glacis/glacis/analysis/Bdd$Computed" "first" "[I" (.ref xc1_) := Fld.other W934 f923 (Or.inl (Ne.symm n593))
  have f965 : Fld Z h931 b584 "com/example/glacis/glacis/analysis/Bdd$Computed" "second" "[I" (.ref yc1_) := Fld.other W934 f924 (Or.inl (Ne.symm n593))
  have f966 : Fld Z h931 b584 "com/example/glacis/glacis/analysis/Bdd$Computed" "result" "[I" (.ref zc1_) := Fld.other W934 f925 (Or.inl (Ne.symm n593))
  have f967 : Ar Z h931 xc1_ .int 0 (fun _ => .int 0) := f926.other W934 (Ne.symm n643)
  have f968 : Ar Z h931 b772 .int 64 (fun _ => (.int 0)) := f927.other W934 (Ne.symm n780)
  have f969 : Ar Z h931 b871 .int 64 (fun _ => (.int 0)) := f929.other W934 (Ne.symm n879)
  have z970 : n0 ≤ h931.size := by rw [Wr.size W934]; exact z928
  have f971 : Fld Z h931 a "com/example/glacis/glacis/analysis/Bdd" "stackSecond" "[I" (.ref b871) := Fld.same W934 f902
  have N972 : Fr n0 _ := Fr.snoc X932 N870 ga
  show Go p e below _ (T930.setTop (mkF m 114 #[.val (.ref a), .val (.int x1), .unset, .unset, .unset, .unset] []))
  refine Go.aloadN (pc' := 115) X932 hx hby d1_114 rfl rfl rfl ?_
  refine Go.bipush (pc' := 117) X932 hx hby d1_115 rfl (v := (64 : Int32)) (by decide) ?_
  refine Go.newarr (pc' := 119) (cap := 64) (z := 64) X932 hx hby hZ (hw _ (List.mem_of_getElem? (i := 11) rfl)) e933 d1_117 rfl (by decide) (by decide) (by decide) (by decide) (by decide) (by decide) ?_
  intro b973 T974 h975 g976 X977 e978 E979 A980
  have n981 : a ≠ b973 := Nat.ne_of_lt (by rw [g976]; exact f935.lt)
  have n982 : b4 ≠ b973 := Nat.ne_of_lt (by rw [g976]; exact f951.lt)
  have n983 : b61 ≠ b973 := Nat.ne_of_lt (by rw [g976]; exact f952.lt)
  have n984 : b121 ≠ b973 := Nat.ne_of_lt (by rw [g976]; exact f953.lt)
  have n985 : b184 ≠ b973 := Nat.ne_of_lt (by rw [g976]; exact f954.lt)
  have n986 : b250 ≠ b973 := Nat.ne_of_lt (by rw [g976]; exact f955.lt)
  have n987 : b345 ≠ b973 := Nat.ne_of_lt (by rw [g976]; exact f956.lt)
  have n988 : b414 ≠ b973 := Nat.ne_of_lt (by rw [g976]; exact f957.lt)
  have n989 : b457 ≠ b973 := Nat.ne_of_lt (by rw [g976]; exact f958.lt)
  have n990 : xc0_ ≠ b973 := Nat.ne_of_lt (by rw [g976]; exact f962.lt)
  have n991 : b584 ≠ b973 := Nat.ne_of_lt (by rw [g976]; exact f963.lt)
  have n992 : xc1_ ≠ b973 := Nat.ne_of_lt (by rw [g976]; exact f967.lt)
  have n993 : b772 ≠ b973 := Nat.ne_of_lt (by rw [g976]; exact f968.lt)
  have n994 : b871 ≠ b973 := Nat.ne_of_lt (by rw [g976]; exact f969.lt)
  have g995 : n0 ≤ b973 := by rw [g976]; exact z970
  have f996 : Exa Z h975 a "com/example/glacis/glacis/analysis/Bdd" := Exa.ext E979 f935
  have f997 : Fld Z h975 a "com/example/glacis/glacis/analysis/Bdd" "level" "[I" (.ref b4) := Fld.ext E979 f936
  have f998 : Fld Z h975 a "com/example/glacis/glacis/analysis/Bdd" "low" "[I" (.ref b61) := Fld.ext E979 f937
  have f999 : Fld Z h975 a "com/example/glacis/glacis/analysis/Bdd" "high" "[I" (.ref b121) := Fld.ext E979 f938
  have f1000 : Fld Z h975 a "com/example/glacis/glacis/analysis/Bdd" "chain" "[I" (.ref b184) := Fld.ext E979 f939
  have f1001 : Fld Z h975 a "com/example/glacis/glacis/analysis/Bdd" "buckets" "[I" (.ref b250) := Fld.ext E979 f940
  have f1002 : Fld Z h975 a "com/example/glacis/glacis/analysis/Bdd" "probabilities" "[D" (.ref b345) := Fld.ext E979 f941
  have f1003 : Fld Z h975 a "com/example/glacis/glacis/analysis/Bdd" "computed" "[Lcom/example/glacis/glacis/analysis/Bdd$Computed;" (.ref b414) := Fld.ext E979 f942
  have f1004 : Fld Z h975 a "com/example/glacis/glacis/analysis/Bdd" "stackFirst" "[I" (.ref b772) := Fld.ext E979 f943
  have f1005 : Fld Z h975 a "com/example/glacis/glacis/analysis/Bdd" "stackSecond" "[I" (.ref b871) := Fld.ext E979 f971
  have f1006 : Fld Z h975 a "com/example/glacis/glacis/analysis/Bdd" "stackLevel" "[I" .null := Fld.ext E979 f944
  have f1007 : Fld Z h975 a "com/example/glacis/glacis/analysis/Bdd" "stackLow" "[I" .null := Fld.ext E979 f945
  have f1008 : Fld Z h975 a "com/example/glacis/glacis/analysis/Bdd" "stackPhase" "[I" .null := Fld.ext E979 f946
  have f1009 : Fld Z h975 a "com/example/glacis/glacis/analysis/Bdd" "size" "I" (.int (2 : Int32)) := Fld.ext E979 f947
  have f1010 : Fld Z h975 a "com/example/glacis/glacis/analysis/Bdd" "variables" "I" (.int 0) := Fld.ext E979 f948
  have f1011 : Fld Z h975 a "com/example/glacis/glacis/analysis/Bdd" "slack" "I" (.int 0) := Fld.ext E979 f949
  have f1012 : Fld Z h975 a "com/example/glacis/glacis/analysis/Bdd" "collectAt" "I" (.int 0) := Fld.ext E979 f950
  have f1013 : Ar Z h975 b4 .int 1024 (fun _ => (.int 0)) := f951.ext E979
  have f1014 : Ar Z h975 b61 .int 1024 (fun _ => (.int 0)) := f952.ext E979
  have f1015 : Ar Z h975 b121 .int 1024 (fun _ => (.int 0)) := f953.ext E979
  have f1016 : Ar Z h975 b184 .int 1024 (fun _ => (.int 0)) := f954.ext E979
  have f1017 : Ar Z h975 b250 .int 1024 (fun _ => (.int 0)) := f955.ext E979
  have f1018 : Ar Z h975 b345 .double 16 (fun _ => (.double 0)) := f956.ext E979
  have f1019 : Ar Z h975 b414 (.object "com/example/glacis/glacis/analysis/Bdd$Computed") 2 (fun q => if q = 1 then (.ref b584) else if q = 0 then (.ref b457) else .null) := f957.ext E979
  have f1020 : Exa Z h975 b457 "com/example/glacis/glacis/analysis/Bdd$Computed" := Exa.ext E979 f958
  have f1021 : Fld Z h975 b457 "com/example/glacis/glacis/analysis/Bdd$Computed" "first" "[I" (.ref xc0_) := Fld.ext E979 f959
  have f1022 : Fld Z h975 b457 "com/example/glacis/glacis/analysis/Bdd$Computed" "second" "[I" (.ref yc0_) := Fld.ext E979 f960
  have f1023 : Fld Z h975 b457 "com/example/glacis/glacis/analysis/Bdd$Computed" "result" "[I" (.ref zc0_) := Fld.ext E979 f961
  have f1024 : Ar Z h975 xc0_ .int 0 (fun _ => .int 0) := f962.ext E979
  have f1025 : Exa Z h975 b584 "com/example/glacis/glacis/analysis/Bdd$Computed" := Exa.ext E979 f963
  have f1026 : Fld Z h975 b584 "com/example/glacis/glacis/analysis/Bdd$Computed" "first" "[I" (.ref xc1_) := Fld.ext E979 f964
  have f1027 : Fld Z h975 b584 "com/example/glacis/glacis/analysis/Bdd$Computed" "second" "[I" (.ref yc1_) := Fld.ext E979 f965
  have f1028 : Fld Z h975 b584 "com/example/glacis/glacis/analysis/Bdd$Computed" "result" "[I" (.ref zc1_) := Fld.ext E979 f966
  have f1029 : Ar Z h975 xc1_ .int 0 (fun _ => .int 0) := f967.ext E979
  have f1030 : Ar Z h975 b772 .int 64 (fun _ => (.int 0)) := f968.ext E979
  have f1031 : Ar Z h975 b871 .int 64 (fun _ => (.int 0)) := f969.ext E979
  have z1032 : n0 ≤ h975.size := Nat.le_trans z970 E979.1
  have f1033 : Ar Z h975 b973 .int 64 (fun _ => (.int 0)) := A980
  show Go p e below _ (T974.setTop (mkF m 119 #[.val (.ref a), .val (.int x1), .unset, .unset, .unset, .unset] [(.ref b973), (.ref a)]))
  have l9_ : b871 < b973 := by rw [g976]; exact f969.lt
  refine Go.putF (pc' := 122) (ty := (.array .int)) X977 hx hby hZ hown (hw _ (List.mem_of_getElem? (i := 48) rfl)) Via.refl e978 f1006 f996 (Or.inl (hw _ (List.mem_of_getElem? (i := 49) rfl))) (hw _ (List.mem_of_getElem? (i := 3) rfl)) (by decide) rfl rfl d1_119 rfl ?_
  intro T1034 h1035 X1036 e1037 W1038
  have f1039 : Exa Z h1035 a "com/example/glacis/glacis/analysis/Bdd" := Exa.wr W1038 f996
  have f1040 : Fld Z h1035 a "com/example/glacis/glacis/analysis/Bdd" "level" "[I" (.ref b4) := Fld.other W1038 f997 (Or.inr (slot_ne (t := (.array .int)) (t' := (.array .int)) (Or.inl (hw _ (List.mem_of_getElem? (i := 13) rfl))) (Or.inl (hw _ (List.mem_of_getElem? (i := 49) rfl))) (by decide) (by decide) (by decide)))
  have f1041 : Fld Z h1035 a "com/example/glacis/glacis/analysis/Bdd" "low" "[I" (.ref b61) := Fld.other W1038 f998 (Or.inr (slot_ne (t := (.array .int)) (t' := (.array .int)) (Or.inl (hw _ (List.mem_of_getElem? (i := 15) rfl))) (Or.inl (hw _ (List.mem_of_getElem? (i := 49) rfl))) (by decide) (by decide) (by decide)))
  have f1042 : Fld Z h1035 a "com/example/glacis/glacis/analysis/Bdd" "high" "[I" (.ref b121) := Fld.other W1038 f999 (Or.inr (slot_ne (t := (.array .int)) (t' := (.array .int)) (Or.inl (hw _ (List.mem_of_getElem? (i := 17) rfl))) (Or.inl (hw _ (List.mem_of_getElem? (i := 49) rfl))) (by decide) (by decide) (by decide)))
  have f1043 : Fld Z h1035 a "com/example/glacis/glacis/analysis/Bdd" "chain" "[I" (.ref b184) := Fld.other W1038 f1000 (Or.inr (slot_ne (t := (.array .int)) (t' := (.array .int)) (Or.inl (hw _ (List.mem_of_getElem? (i := 19) rfl))) (Or.inl (hw _ (List.mem_of_getElem? (i := 49) rfl))) (by decide) (by decide) (by decide)))
  have f1044 : Fld Z h1035 a "com/example/glacis/glacis/analysis/Bdd" "buckets" "[I" (.ref b250) := Fld.other W1038 f1001 (Or.inr (slot_ne (t := (.array .int)) (t' := (.array .int)) (Or.inl (hw _ (List.mem_of_getElem? (i := 21) rfl))) (Or.inl (hw _ (List.mem_of_getElem? (i := 49) rfl))) (by decide) (by decide) (by decide)))
  have f1045 : Fld Z h1035 a "com/example/glacis/glacis/analysis/Bdd" "probabilities" "[D" (.ref b345) := Fld.other W1038 f1002 (Or.inr (slot_ne (t := (.array .double)) (t' := (.array .int)) (Or.inl (hw _ (List.mem_of_getElem? (i := 26) rfl))) (Or.inl (hw _ (List.mem_of_getElem? (i := 49) rfl))) (by decide) (by decide) (by decide)))
  have f1046 : Fld Z h1035 a "com/example/glacis/glacis/analysis/Bdd" "computed" "[Lcom/example/glacis/glacis/analysis/Bdd$Computed;" (.ref b414) := Fld.other W1038 f1003 (Or.inr (slot_ne (t := (.array (.object "com/example/glacis/glacis/analysis/Bdd$Computed"))) (t' := (.array .int)) (Or.inr (hw _ (List.mem_of_getElem? (i := 43) rfl))) (Or.inl (hw _ (List.mem_of_getElem? (i := 49) rfl))) (by decide) (by decide) (by decide)))
  have f1047 : Fld Z h1035 a "com/example/glacis/glacis/analysis/Bdd" "stackFirst" "[I" (.ref b772) := Fld.other W1038 f1004 (Or.inr (slot_ne (t := (.array .int)) (t' := (.array .int)) (Or.inl (hw _ (List.mem_of_getElem? (i := 45) rfl))) (Or.inl (hw _ (List.mem_of_getElem? (i := 49) rfl))) (by decide) (by decide) (by decide)))
  have f1048 : Fld Z h1035 a "com/example/glacis/glacis/analysis/Bdd" "stackSecond" "[I" (.ref b871) := Fld.other W1038 f1005 (Or.inr (slot_ne (t := (.array .int)) (t' := (.array .int)) (Or.inl (hw _ (List.mem_of_getElem? (i := 47) rfl))) (Or.inl (hw _ (List.mem_of_getElem? (i := 49) rfl))) (by decide) (by decide) (by decide)))
  have f1049 : Fld Z h1035 a "com/example/glacis/glacis/analysis/Bdd" "stackLow" "[I" .null := Fld.other W1038 f1007 (Or.inr (slot_ne (t := (.array .int)) (t' := (.array .int)) (Or.inl (hw _ (List.mem_of_getElem? (i := 51) rfl))) (Or.inl (hw _ (List.mem_of_getElem? (i := 49) rfl))) (by decide) (by decide) (by decide)))
  have f1050 : Fld Z h1035 a "com/example/glacis/glacis/analysis/Bdd" "stackPhase" "[I" .null := Fld.other W1038 f1008 (Or.inr (slot_ne (t := (.array .int)) (t' := (.array .int)) (Or.inl (hw _ (List.mem_of_getElem? (i := 53) rfl))) (Or.inl (hw _ (List.mem_of_getElem? (i := 49) rfl))) (by decide) (by decide) (by decide)))
  have f1051 : Fld Z h1035 a "com/example/glacis/glacis/analysis/Bdd" "size" "I" (.int (2 : Int32)) := Fld.other W1038 f1009 (Or.inr (slot_ne (t := .int) (t' := (.array .int)) (Or.inl (hw _ (List.mem_of_getElem? (i := 23) rfl))) (Or.inl (hw _ (List.mem_of_getElem? (i := 49) rfl))) (by decide) (by decide) (by decide)))
  have f1052 : Fld Z h1035 a "com/example/glacis/glacis/analysis/Bdd" "variables" "I" (.int 0) := Fld.other W1038 f1010 (Or.inr (slot_ne (t := .int) (t' := (.array .int)) (Or.inl (hw _ (List.mem_of_getElem? (i := 80) rfl))) (Or.inl (hw _ (List.mem_of_getElem? (i := 49) rfl))) (by decide) (by decide) (by decide)))
  have f1053 : Fld Z h1035 a "com/example/glacis/glacis/analysis/Bdd" "slack" "I" (.int 0) := Fld.other W1038 f1011 (Or.inr (slot_ne (t := .int) (t' := (.array .int)) (Or.inr (hw _ (List.mem_of_getElem? (i := 55) rfl))) (Or.inl (hw _ (List.mem_of_getElem? (i := 49) rfl))) (by decide) (by decide) (by decide)))
  have f1054 : Fld Z h1035 a "com/example/glacis/glacis/analysis/Bdd" "collectAt" "I" (.int 0) := Fld.other W1038 f1012 (Or.inr (slot_ne (t := .int) (t' := (.array .int)) (Or.inl (hw _ (List.mem_of_getElem? (i := 57) rfl))) (Or.inl (hw _ (List.mem_of_getElem? (i := 49) rfl))) (by decide) (by decide) (by decide)))
  have f1055 : Ar Z h1035 b4 .int 1024 (fun _ => (.int 0)) := f1013.other W1038 (Ne.symm n12)
  have f1056 : Ar Z h1035 b61 .int 1024 (fun _ => (.int 0)) := f1014.other W1038 (Ne.symm n69)
  have f1057 : Ar Z h1035 b121 .int 1024 (fun _ => (.int 0)) := f1015.other W1038 (Ne.symm n129)
  have f1058 : Ar Z h1035 b184 .int 1024 (fun _ => (.int 0)) := f1016.other W1038 (Ne.symm n192)
  have f1059 : Ar Z h1035 b250 .int 1024 (fun _ => (.int 0)) := f1017.other W1038 (Ne.symm n258)
  have f1060 : Ar Z h1035 b345 .double 16 (fun _ => (.double 0)) := f1018.other W1038 (Ne.symm n353)
  have f1061 : Ar Z h1035 b414 (.object "com/example/glacis/glacis/analysis/Bdd$Computed") 2 (fun q => if q = 1 then (.ref b584) else if q = 0 then (.ref b457) else .null) := f1019.other W1038 (Ne.symm n423)
  have f1062 : Exa Z h1035 b457 "com/example/glacis/glacis/analysis/Bdd$Computed" := Exa.wr W1038 f1020
  have f1063 : Fld Z h1035 b457 "com/example/glacis/glacis/analysis/Bdd$Computed" "first" "[I" (.ref xc0_) := Fld.other W1038 f1021 (Or.inl (Ne.symm n466))
  have f1064 : Fld Z h1035 b457 "com/example/glacis/glacis/analysis/Bdd$Computed" "second" "[I" (.ref yc0_) := Fld.other W1038 f1022 (Or.inl (Ne.symm n466))
  have f1065 : Fld Z h1035 b457 "com/example/glacis/glacis/analysis/Bdd$Computed" "result" "[I" (.ref zc0_) := Fld.other W1038 f1023 (Or.inl (Ne.symm n466))
  have f1066 : Ar Z h1035 xc0_ .int 0 (fun _ => .int 0) := f1024.other W1038 (Ne.symm n509)
  have f1067 : Exa Z h1035 b584 "com/example/glacis/glacis/analysis/Bdd$Computed" := Exa.wr W1038 f1025
  have f1068 : Fld Z h1035 b584 "com/example/glacis/glacis/analysis/Bdd$Computed" "first" "[I" (.ref xc1_) := Fld.other W1038 f1026 (Or.inl (Ne.symm n593))
  have f1069 : Fld Z h1035 b584 "com/example/glacis/glacis/analysis/Bdd$Computed" "second" "[I" (.ref yc1_) := Fld.other W1038 f1027 (Or.inl (Ne.symm n593))
  have f1070 : Fld Z h1035 b584 "com/example/glacis/glacis/analysis/Bdd$Computed" "result" "[I" (.ref zc1_) := Fld.other W1038 f1028 (Or.inl (Ne.symm n593))
  have f1071 : Ar Z h1035 xc1_ .int 0 (fun _ => .int 0) := f1029.other W1038 (Ne.symm n643)
  have f1072 : Ar Z h1035 b772 .int 64 (fun _ => (.int 0)) := f1030.other W1038 (Ne.symm n780)
  have f1073 : Ar Z h1035 b871 .int 64 (fun _ => (.int 0)) := f1031.other W1038 (Ne.symm n879)
  have f1074 : Ar Z h1035 b973 .int 64 (fun _ => (.int 0)) := f1033.other W1038 (Ne.symm n981)
  have z1075 : n0 ≤ h1035.size := by rw [Wr.size W1038]; exact z1032
  have f1076 : Fld Z h1035 a "com/example/glacis/glacis/analysis/Bdd" "stackLevel" "[I" (.ref b973) := Fld.same W1038 f1006
  have N1077 : Fr n0 _ := Fr.snoc X1036 N972 ga
  show Go p e below _ (T1034.setTop (mkF m 122 #[.val (.ref a), .val (.int x1), .unset, .unset, .unset, .unset] []))
  refine Go.aloadN (pc' := 123) X1036 hx hby d1_122 rfl rfl rfl ?_
  refine Go.bipush (pc' := 125) X1036 hx hby d1_123 rfl (v := (64 : Int32)) (by decide) ?_
  refine Go.newarr (pc' := 127) (cap := 64) (z := 64) X1036 hx hby hZ (hw _ (List.mem_of_getElem? (i := 11) rfl)) e1037 d1_125 rfl (by decide) (by decide) (by decide) (by decide) (by decide) (by decide) ?_
  intro b1078 T1079 h1080 g1081 X1082 e1083 E1084 A1085
  have n1086 : a ≠ b1078 := Nat.ne_of_lt (by rw [g1081]; exact f1039.lt)
  have n1087 : b4 ≠ b1078 := Nat.ne_of_lt (by rw [g1081]; exact f1055.lt)
  have n1088 : b61 ≠ b1078 := Nat.ne_of_lt (by rw [g1081]; exact f1056.lt)
  have n1089 : b121 ≠ b1078 := Nat.ne_of_lt (by rw [g1081]; exact f1057.lt)
  have n1090 : b184 ≠ b1078 := Nat.ne_of_lt (by rw [g1081]; exact f1058.lt)
  have n1091 : b250 ≠ b1078 := Nat.ne_of_lt (by rw [g1081]; exact f1059.lt)
  have n1092 : b345 ≠ b1078 := Nat.ne_of_lt (by rw [g1081]; exact f1060.lt)
  have n1093 : b414 ≠ b1078 := Nat.ne_of_lt (by rw [g1081]; exact f1061.lt)
  have n1094 : b457 ≠ b1078 := Nat.ne_of_lt (by rw [g1081]; exact f1062.lt)
  have n1095 : xc0_ ≠ b1078 := Nat.ne_of_lt (by rw [g1081]; exact f1066.lt)
  have n1096 : b584 ≠ b1078 := Nat.ne_of_lt (by rw [g1081]; exact f1067.lt)
  have n1097 : xc1_ ≠ b1078 := Nat.ne_of_lt (by rw [g1081]; exact f1071.lt)
  have n1098 : b772 ≠ b1078 := Nat.ne_of_lt (by rw [g1081]; exact f1072.lt)
  have n1099 : b871 ≠ b1078 := Nat.ne_of_lt (by rw [g1081]; exact f1073.lt)
  have n1100 : b973 ≠ b1078 := Nat.ne_of_lt (by rw [g1081]; exact f1074.lt)
  have g1101 : n0 ≤ b1078 := by rw [g1081]; exact z1075
  have f1102 : Exa Z h1080 a "com/example/glacis/glacis/analysis/Bdd" := Exa.ext E1084 f1039
  have f1103 : Fld Z h1080 a "com/example/glacis/glacis/analysis/Bdd" "level" "[I" (.ref b4) := Fld.ext E1084 f1040
  have f1104 : Fld Z h1080 a "com/example/glacis/glacis/analysis/Bdd" "low" "[I" (.ref b61) := Fld.ext E1084 f1041
  have f1105 : Fld Z h1080 a "com/example/glacis/glacis/analysis/Bdd" "high" "[I" (.ref b121) := Fld.ext E1084 f1042
  have f1106 : Fld Z h1080 a "com/example/glacis/glacis/analysis/Bdd" "chain" "[I" (.ref b184) := Fld.ext E1084 f1043
  have f1107 : Fld Z h1080 a "com/example/glacis/glacis/analysis/Bdd" "buckets" "[I" (.ref b250) := Fld.ext E1084 f1044
  have f1108 : Fld Z h1080 a "com/example/glacis/glacis/analysis/Bdd" "probabilities" "[D" (.ref b345) := Fld.ext E1084 f1045
  have f1109 : Fld Z h1080 a "com/example/glacis/glacis/analysis/Bdd" "computed" "[Lcom/example/glacis/glacis/analysis/Bdd$Computed;" (.ref b414) := Fld.ext E1084 f1046
  have f1110 : Fld Z h1080 a "com/example/glacis/glacis/analysis/Bdd" "stackFirst" "[I" (.ref b772) := Fld.ext E1084 f1047
  have f1111 : Fld Z h1080 a "com/example/glacis/glacis/analysis/Bdd" "stackSecond" "[I" (.ref b871) := Fld.ext E1084 f1048
  have f1112 : Fld Z h1080 a "com/example/glacis/glacis/analysis/Bdd" "stackLevel" "[I" (.ref b973) := Fld.ext E1084 f1076
  have f1113 : Fld Z h1080 a "com/example/glacis/glacis/analysis/Bdd" "stackLow" "[I" .null := Fld.ext E1084 f1049
  have f1114 : Fld Z h1080 a "com/example/glacis/glacis/analysis/Bdd" "stackPhase" "[I" .null := Fld.ext E1084 f1050
  have f1115 : Fld Z h1080 a "com/example/glacis/glacis/analysis/Bdd" "size" "I" (.int (2 : Int32)) := Fld.ext E1084 f1051
  have f1116 : Fld Z h1080 a "com/example/glacis/glacis/analysis/Bdd" "variables" "I" (.int 0) := Fld.ext E1084 f1052
  have f1117 : Fld Z h1080 a "com/example/glacis/glacis/analysis/Bdd" "slack" "I" (.int 0) := Fld.ext E1084 f1053
  have f1118 : Fld Z h1080 a "com/example/glacis/glacis/analysis/Bdd" "collectAt" "I" (.int 0) := Fld.ext E1084 f1054
  have f1119 : Ar Z h1080 b4 .int 1024 (fun _ => (.int 0)) := f1055.ext E1084
  have f1120 : Ar Z h1080 b61 .int 1024 (fun _ => (.int 0)) := f1056.ext E1084
  have f1121 : Ar Z h1080 b121 .int 1024 (fun _ => (.int 0)) := f1057.ext E1084
  have f1122 : Ar Z h1080 b184 .int 1024 (fun _ => (.int 0)) := f1058.ext E1084
  have f1123 : Ar Z h1080 b250 .int 1024 (fun _ => (.int 0)) := f1059.ext E1084
  have f1124 : Ar Z h1080 b345 .double 16 (fun _ => (.double 0)) := f1060.ext E1084
  have f1125 : Ar Z h1080 b414 (.object "com/example/glacis/glacis/analysis/Bdd$Computed") 2 (fun q => if q = 1 then (.ref b584) else if q = 0 then (.ref b457) else .null) := f1061.ext E1084
  have f1126 : Exa Z h1080 b457 "com/example/glacis/glacis/analysis/Bdd$Computed" := Exa.ext E1084 f1062
  have f1127 : Fld Z h1080 b457 "com/example/glacis/glacis/analysis/Bdd$Computed" "first" "[I" (.ref xc0_) := Fld.ext E1084 f1063
  have f1128 : Fld Z h1080 b457 "com/example/glacis/glacis/analysis/Bdd$Computed" "second" "[I" (.ref yc0_) := Fld.ext E1084 f1064
  have f1129 : Fld Z h1080 b457 "com/example/glacis/glacis/analysis/Bdd$Computed" "result" "[I" (.ref zc0_) := Fld.ext E1084 f1065
  have f1130 : Ar Z h1080 xc0_ .int 0 (fun _ => .int 0) := f1066.ext E1084
  have f1131 : Exa Z h1080 b584 "com/example/glacis/glacis/analysis/Bdd$Computed" := Exa.ext E1084 f1067
  have f1132 : Fld Z h1080 b584 "com/example/glacis/glacis/analysis/Bdd$Computed" "first" "[I" (.ref xc1_) := Fld.ext E1084 f1068
  have f1133 : Fld Z h1080 b584 "com/example/glacis/glacis/analysis/Bdd$Computed" "second" "[I" (.ref yc1_) := Fld.ext E1084 f1069
  have f1134 : Fld Z h1080 b584 "com/example/glacis/glacis/analysis/Bdd$Computed" "result" "[I" (.ref zc1_) := Fld.ext E1084 f1070
  have f1135 : Ar Z h1080 xc1_ .int 0 (fun _ => .int 0) := f1071.ext E1084
  have f1136 : Ar Z h1080 b772 .int 64 (fun _ => (.int 0)) := f1072.ext E1084
  have f1137 : Ar Z h1080 b871 .int 64 (fun _ => (.int 0)) := f1073.ext E1084
  have f1138 : Ar Z h1080 b973 .int 64 (fun _ => (.int 0)) := f1074.ext E1084
  have z1139 : n0 ≤ h1080.size := Nat.le_trans z1075 E1084.1
  have f1140 : Ar Z h1080 b1078 .int 64 (fun _ => (.int 0)) := A1085
  show Go p e below _ (T1079.setTop (mkF m 127 #[.val (.ref a), .val (.int x1), .unset, .unset, .unset, .unset] [(.ref b1078), (.ref a)]))
  have l10_ : b973 < b1078 := by rw [g1081]; exact f1074.lt
  refine Go.putF (pc' := 130) (ty := (.array .int)) X1082 hx hby hZ hown (hw _ (List.mem_of_getElem? (i := 50) rfl)) Via.refl e1083 f1113 f1102 (Or.inl (hw _ (List.mem_of_getElem? (i := 51) rfl))) (hw _ (List.mem_of_getElem? (i := 3) rfl)) (by decide) rfl rfl d1_127 rfl ?_
  intro T1141 h1142 X1143 e1144 W1145
  have f1146 : Exa Z h1142 a "com/example/glacis/glacis/analysis/Bdd" := Exa.wr W1145 f1102
  have f1147 : Fld Z h1142 a "com/example/glacis/glacis/analysis/Bdd" "level" "[I" (.ref b4) := Fld.other W1145 f1103 (Or.inr (slot_ne (t := (.array .int)) (t' := (.array .int)) (Or.inl (hw _ (List.mem_of_getElem? (i := 13) rfl))) (Or.inl (hw _ (List.mem_of_getElem? (i := 51) rfl))) (by decide) (by decide) (by decide)))
  have f1148 : Fld Z h1142 a "com/example/glacis/glacis/analysis/Bdd" "low" "[I" (.ref b61) := Fld.other W1145 f1104 (Or.inr (slot_ne (t := (.array .int)) (t' := (.array .int)) (Or.inl (hw _ (List.mem_of_getElem? (i := 15) rfl))) (Or.inl (hw _ (List.mem_of_getElem? (i := 51) rfl))) (by decide) (by decide) (by decide)))
  have f1149 : Fld Z h1142 a "com/example/glacis/glacis/analysis/Bdd" "high" "[I" (.ref b121) := Fld.other W1145 f1105 (Or.inr (slot_ne (t := (.array .int)) (t' := (.array .int)) (Or.inl (hw _ (List.mem_of_getElem? (i := 17) rfl))) (Or.inl (hw _ (List.mem_of_getElem? (i := 51) rfl))) (by decide) (by decide) (by decide)))
  have f1150 : Fld Z h1142 a "com/example/glacis/glacis/analysis/Bdd" "chain" "[I" (.ref b184) := Fld.other W1145 f1106 (Or.inr (slot_ne (t := (.array .int)) (t' := (.array .int)) (Or.inl (hw _ (List.mem_of_getElem? (i := 19) rfl))) (Or.inl (hw _ (List.mem_of_getElem? (i := 51) rfl))) (by decide) (by decide) (by decide)))
  have f1151 : Fld Z h1142 a "com/example/glacis/glacis/analysis/Bdd" "buckets" "[I" (.ref b250) := Fld.other W1145 f1107 (Or.inr (slot_ne (t := (.array .int)) (t' := (.array .int)) (Or.inl (hw _ (List.mem_of_getElem? (i := 21) rfl))) (Or.inl (hw _ (List.mem_of_getElem? (i := 51) rfl))) (by decide) (by decide) (by decide)))
  have f1152 : Fld Z h1142 a "com/example/glacis/glacis/analysis/Bdd" "probabilities" "[D" (.ref b345) := Fld.other W1145 f1108 (Or.inr (slot_ne (t := (.array .double)) (t' := (.array .int)) (Or.inl (hw _ (List.mem_of_getElem? (i := 26) rfl))) (Or.inl (hw _ (List.mem_of_getElem? (i := 51) rfl))) (by decide) (by decide) (by decide)))
  have f1153 : Fld Z h1142 a "com/example/glacis/glacis/analysis/Bdd" "computed" "[Lcom/example/glacis/glacis/analysis/Bdd$Computed;" (.ref b414) := Fld.other W1145 f1109 (Or.inr (slot_ne (t := (.array (.object "com/example/glacis/glacis/analysis/Bdd$Computed"))) (t' := (.array .int)) (Or.inr (hw _ (List.mem_of_getElem? (i := 43) rfl))) (Or.inl (hw _ (List.mem_of_getElem? (i := 51) rfl))) (by decide) (by decide) (by decide)))
  have f1154 : Fld Z h1142 a "com/example/glacis/glacis/analysis/Bdd" "stackFirst" "[I" (.ref b772) := Fld.other W1145 f1110 (Or.inr (slot_ne (t := (.array .int)) (t' := (.array .int)) (Or.inl (hw _ (List.mem_of_getElem? (i := 45) rfl))) (Or.inl (hw _ (List.mem_of_getElem? (i := 51) rfl))) (by decide) (by decide) (by decide)))
  have f1155 : Fld Z h1142 a "com/example/glacis/glacis/analysis/Bdd" "stackSecond" "[I" (.ref b871) := Fld.other W1145 f1111 (Or.inr (slot_ne (t := (.array .int)) (t' := (.array .int)) (Or.inl (hw _ (List.mem_of_getElem? (i := 47) rfl))) (Or.inl (hw _ (List.mem_of_getElem? (i := 51) rfl))) (by decide) (by decide) (by decide)))
  have f1156 : Fld Z h1142 a "com/example/glacis/glacis/analysis/Bdd" "stackLevel" "[I" (.ref b973) := Fld.other W1145 f1112 (Or.inr (slot_ne (t := (.array .int)) (t' := (.array .int)) (Or.inl (hw _ (List.mem_of_getElem? (i := 49) rfl))) (Or.inl (hw _ (List.mem_of_getElem? (i := 51) rfl))) (by decide) (by decide) (by decide)))
  have f1157 : Fld Z h1142 a "com/example/glacis/glacis/analysis/Bdd" "stackPhase" "[I" .null := Fld.other W1145 f1114 (Or.inr (slot_ne (t := (.array .int)) (t' := (.array .int)) (Or.inl (hw _ (List.mem_of_getElem? (i := 53) rfl))) (Or.inl (hw _ (List.mem_of_getElem? (i := 51) rfl))) (by decide) (by decide) (by decide)))
  have f1158 : Fld Z h1142 a "com/example/glacis/glacis/analysis/Bdd" "size" "I" (.int (2 : Int32)) := Fld.other W1145 f1115 (Or.inr (slot_ne (t := .int) (t' := (.array .int)) (Or.inl (hw _ (List.mem_of_getElem? (i := 23) rfl))) (Or.inl (hw _ (List.mem_of_getElem? (i := 51) rfl))) (by decide) (by decide) (by decide)))
  have f1159 : Fld Z h1142 a "com/example/glacis/glacis/analysis/Bdd" "variables" "I" (.int 0) := Fld.other W1145 f1116 (Or.inr (slot_ne (t := .int) (t' := (.array .int)) (Or.inl (hw _ (List.mem_of_getElem? (i := 80) rfl))) (Or.inl (hw _ (List.mem_of_getElem? (i := 51) rfl))) (by decide) (by decide) (by decide)))
  have f1160 : Fld Z h1142 a "com/example/glacis/glacis/analysis/Bdd" "slack" "I" (.int 0) := Fld.other W1145 f1117 (Or.inr (slot_ne (t := .int) (t' := (.array .int)) (Or.inr (hw _ (List.mem_of_getElem? (i := 55) rfl))) (Or.inl (hw _ (List.mem_of_getElem? (i := 51) rfl))) (by decide) (by decide) (by decide)))
  have f1161 : Fld Z h1142 a "com/example/glacis/glacis/analysis/Bdd" "collectAt" "I" (.int 0) := Fld.other W1145 f1118 (Or.inr (slot_ne (t := .int) (t' := (.array .int)) (Or.inl (hw _ (List.mem_of_getElem? (i := 57) rfl))) (Or.inl (hw _ (List.mem_of_getElem? (i := 51) rfl))) (by decide) (by decide) (by decide)))
  have f1162 : Ar Z h1142 b4 .int 1024 (fun _ => (.int 0)) := f1119.other W1145 (Ne.symm n12)
  have f1163 : Ar Z h1142 b61 .int 1024 (fun _ => (.int 0)) := f1120.other W1145 (Ne.symm n69)
  have f1164 : Ar Z h1142 b121 .int 1024 (fun _ => (.int 0)) := f1121.other W1145 (Ne.symm n129)
  have f1165 : Ar Z h1142 b184 .int 1024 (fun _ => (.int 0)) := f1122.other W1145 (Ne.symm n192)
  have f1166 : Ar Z h1142 b250 .int 1024 (fun _ => (.int 0)) := f1123.other W1145 (Ne.symm n258)
  have f1167 : Ar Z h1142 b345 .double 16 (fun _ => (.double 0)) := f1124.other W1145 (Ne.symm n353)
  have f1168 : Ar Z h1142 b414 (.object "com/example/glacis/glacis/analysis/Bdd$Computed") 2 (fun q => if q = 1 then (.ref b584) else if q = 0 then (.ref b457) else .null) := f1125.other W1145 (Ne.symm n423)
  have f1169 : Exa Z h1142 b457 "com/example/glacis/glacis/analysis/Bdd$Computed" := Exa.wr W1145 f1126
  have f1170 : Fld Z h1142 b457 "com/example/glacis/glacis/analysis/Bdd$Computed" "first" "[I" (.ref xc0_) := Fld.other W1145 f1127 (Or.inl (Ne.symm n466))
  have f1171 : Fld Z h1142 b457 "com/example/glacis/glacis/analysis/Bdd$Computed" "second" "[I" (.ref yc0_) := Fld.other W1145 f1128 (Or.inl (Ne.symm n466))
  have f1172 : Fld Z h1142 b457 "com/example/glacis/glacis/analysis/Bdd$Computed" "result" "[I" (.ref zc0_) := Fld.other W1145 f1129 (Or.inl (Ne.symm n466))
  have f1173 : Ar Z h1142 xc0_ .int 0 (fun _ => .int 0) := f1130.other W1145 (Ne.symm n509)
  have f1174 : Exa Z h1142 b584 "com/example/glacis/glacis/analysis/Bdd$Computed" := Exa.wr W1145 f1131
  have f1175 : Fld Z h1142 b584 "com/example/glacis/glacis/analysis/Bdd$Computed" "first" "[I" (.ref xc1_) := Fld.other W1145 f1132 (Or.inl (Ne.symm n593))
  have f1176 : Fld Z h1142 b584 "com/example/glacis/glacis/analysis/Bdd$Computed" "second" "[I" (.ref yc1_) := Fld.other W1145 f1133 (Or.inl (Ne.symm n593))
  have f1177 : Fld Z h1142 b584 "com/example/glacis/glacis/analysis/Bdd$Computed" "result" "[I" (.ref zc1_) := Fld.other W1145 f1134 (Or.inl (Ne.symm n593))
  have f1178 : Ar Z h1142 xc1_ .int 0 (fun _ => .int 0) := f1135.other W1145 (Ne.symm n643)
  have f1179 : Ar Z h1142 b772 .int 64 (fun _ => (.int 0)) := f1136.other W1145 (Ne.symm n780)
  have f1180 : Ar Z h1142 b871 .int 64 (fun _ => (.int 0)) := f1137.other W1145 (Ne.symm n879)
  have f1181 : Ar Z h1142 b973 .int 64 (fun _ => (.int 0)) := f1138.other W1145 (Ne.symm n981)
  have f1182 : Ar Z h1142 b1078 .int 64 (fun _ => (.int 0)) := f1140.other W1145 (Ne.symm n1086)
  have z1183 : n0 ≤ h1142.size := by rw [Wr.size W1145]; exact z1139
  have f1184 : Fld Z h1142 a "com/example/glacis/glacis/analysis/Bdd" "stackLow" "[I" (.ref b1078) := Fld.same W1145 f1113
  have N1185 : Fr n0 _ := Fr.snoc X1143 N1077 ga
  show Go p e below _ (T1141.setTop (mkF m 130 #[.val (.ref a), .val (.int x1), .unset, .unset, .unset, .unset] []))
  refine Go.aloadN (pc' := 131) X1143 hx hby d1_130 rfl rfl rfl ?_
  refine Go.bipush (pc' := 133) X1143 hx hby d1_131 rfl (v := (64 : Int32)) (by decide) ?_
  refine Go.newarr (pc' := 135) (cap := 64) (z := 64) X1143 hx hby hZ (hw _ (List.mem_of_getElem? (i := 11) rfl)) e1144 d1_133 rfl (by decide) (by decide) (by decide) (by decide) (by decide) (by decide) ?_
  intro b1186 T1187 h1188 g1189 X1190 e1191 E1192 A1193
  have n1194 : a ≠ b1186 := Nat.ne_of_lt (by rw [g1189]; exact f1146.lt)
  have n1195 : b4 ≠ b1186 := Nat.ne_of_lt (by rw [g1189]; exact f1162.lt)
  have n1196 : b61 ≠ b1186 := Nat.ne_of_lt (by rw [g1189]; exact f1163.lt)
  have n1197 : b121 ≠ b1186 := Nat.ne_of_lt (by rw [g1189]; exact f1164.lt)
  have n1198 : b184 ≠ b1186 := Nat.ne_of_lt (by rw [g1189]; exact f1165.lt)
  have n1199 : b250 ≠ b1186 := Nat.ne_of_lt (by rw [g1189]; exact f1166.lt)
  have n1200 : b345 ≠ b1186 := Nat.ne_of_lt (by rw [g1189]; exact f1167.lt)
  have n1201 : b414 ≠ b1186 := Nat.ne_of_lt (by rw [g1189]; exact f1168.lt)
  have n1202 : b457 ≠ b1186 := Nat.ne_of_lt (by rw [g1189]; exact f1169.lt)
  have n1203 : xc0_ ≠ b1186 := Nat.ne_of_lt (by rw [g1189]; exact f1173.lt)
  have n1204 : b584 ≠ b1186 := Nat.ne_of_lt (by rw [g1189]; exact f1174.lt)
  have n1205 : xc1_ ≠ b1186 := Nat.ne_of_lt (by rw [g1189]; exact f1178.lt)
  have n1206 : b772 ≠ b1186 := Nat.ne_of_lt (by rw [g1189]; exact f1179.lt)
  have n1207 : b871 ≠ b1186 := Nat.ne_of_lt (by rw [g1189]; exact f1180.lt)
  have n1208 : b973 ≠ b1186 := Nat.ne_of_lt (by rw [g1189]; exact f1181.lt)
  have n1209 : b1078 ≠ b1186 := Nat.ne_of_lt (by rw [g1189]; exact f1182.lt)
  have g1210 : n0 ≤ b1186 := by rw [g1189]; exact z1183
  have f1211 : Exa Z h1188 a "com/example/glacis/glacis/analysis/Bdd" := Exa.ext E1192 f1146
  have f1212 : Fld Z h1188 a "com/example/glacis/glacis/analysis/Bdd" "level" "[I" (.ref b4) := Fld.ext E1192 f1147
  have f1213 : Fld Z h1188 a "com/example/glacis/glacis/analysis/Bdd" "low" "[I" (.ref b61) := Fld.ext E1192 f1148
  have f1214 : Fld Z h1188 a "com/example/glacis/glacis/analysis/Bdd" "high" "[I" (.ref b121) := Fld.ext E1192 f1149
  have f1215 : Fld Z h1188 a "com/example/glacis/glacis/analysis/Bdd" "chain" "[I" (.ref b184) := Fld.ext E1192 f1150
  have f1216 : Fld Z h1188 a "com/example/glacis/glacis/analysis/Bdd" "buckets" "[I" (.ref b250) := Fld.ext E1192 f1151
  have f1217 : Fld Z h1188 a "com/example/glacis/glacis/analysis/Bdd" "probabilities" "[D" (.ref b345) := Fld.ext E1192 f1152
  have f1218 : Fld Z h1188 a "com/example/glacis/glacis/analysis/Bdd" "computed" "[Lcom/example/glacis/glacis/analysis/Bdd$Computed;" (.ref b414) := Fld.ext E1192 f1153
  have f1219 : Fld Z h1188 a "com/example/glacis/glacis/analysis/Bdd" "stackFirst" "[I" (.ref b772) := Fld.ext E1192 f1154
  have f1220 : Fld Z h1188 a "com/example/glacis/glacis/analysis/Bdd" "stackSecond" "[I" (.ref b871) := Fld.ext E1192 f1155
  have f1221 : Fld Z h1188 a "com/example/glacis/glacis/analysis/Bdd" "stackLevel" "[I" (.ref b973) := Fld.ext E1192 f1156
  have f1222 : Fld Z h1188 a "com/example/glacis/glacis/analysis/Bdd" "stackLow" "[I" (.ref b1078) := Fld.ext E1192 f1184
  have f1223 : Fld Z h1188 a "com/example/glacis/glacis/analysis/Bdd" "stackPhase" "[I" .null := Fld.ext E1192 f1157
  have f1224 : Fld Z h1188 a "com/example/glacis/glacis/analysis/Bdd" "size" "I" (.int (2 : Int32)) := Fld.ext E1192 f1158
  have f1225 : Fld Z h1188 a "com/example/glacis/glacis/analysis/Bdd" "variables" "I" (.int 0) := Fld.ext E1192 f1159
  have f1226 : Fld Z h1188 a "com/example/glacis/glacis/analysis/Bdd" "slack" "I" (.int 0) := Fld.ext E1192 f1160
  have f1227 : Fld Z h1188 a "com/example/glacis/glacis/analysis/Bdd" "collectAt" "I" (.int 0) := Fld.ext E1192 f1161
  have f1228 : Ar Z h1188 b4 .int 1024 (fun _ => (.int 0)) := f1162.ext E1192
  have f1229 : Ar Z h1188 b61 .int 1024 (fun _ => (.int 0)) := f1163.ext E1192
  have f1230 : Ar Z h1188 b121 .int 1024 (fun _ => (.int 0)) := f1164.ext E1192
  have f1231 : Ar Z h1188 b184 .int 1024 (fun _ => (.int 0)) := f1165.ext E1192
  have f1232 : Ar Z h1188 b250 .int 1024 (fun _ => (.int 0)) := f1166.ext E1192
  have f1233 : Ar Z h1188 b345 .double 16 (fun _ => (.double 0)) := f1167.ext E1192
  have f1234 : Ar Z h1188 b414 (.object "com/example/glacis/glacis/analysis/Bdd$Computed") 2 (fun q => if q = 1 then (.ref b584) else if q = 0 then (.ref b457) else .null) := f1168.ext E1192
  have f1235 : Exa Z h1188 b457 "com/example/glacis/glacis/analysis/Bdd$Computed" := Exa.ext E1192 f1169
  have f1236 : Fld Z h1188 b457 "com/example/glacis/glacis/analysis/Bdd$Computed" "first" "[I" (.ref xc0_) := Fld.ext E1192 f1170
  have f1237 : Fld Z h1188 b457 "com/example/glacis/glacis/analysis/Bdd$Computed" "second" "[I" (.ref yc0_) := Fld.ext E1192 f1171
  have f1238 : Fld Z h1188 b457 "com/example/glacis/glacis/analysis/Bdd$Computed" "result" "[I" (.ref zc0_) := Fld.ext E1192 f1172
  have f1239 : Ar Z h1188 xc0_ .int 0 (fun _ => .int 0) := f1173.ext E1192
  have f1240 : Exa Z h1188 b584 "com/example/glacis/glacis/analysis/Bdd$Computed" := Exa.ext E1192 f1174
  have f1241 : Fld Z h1188 b584 "com/example/glacis/glacis/analysis/Bdd$Computed" "first" "[I" (.ref xc1_) := Fld.ext E1192 f1175
  have f1242 : Fld Z h1188 b584 "com/example/glacis/glacis/analysis/Bdd$Computed" "second" "[I" (.ref yc1_) := Fld.ext E1192 f1176
  have f1243 : Fld Z h1188 b584 "com/example/glacis/glacis/analysis/Bdd$Computed" "result" "[I" (.ref zc1_) := Fld.ext E1192 f1177
  have f1244 : Ar Z h1188 xc1_ .int 0 (fun _ => .int 0) := f1178.ext E1192
  have f1245 : Ar Z h1188 b772 .int 64 (fun _ => (.int 0)) := f1179.ext E1192
  have f1246 : Ar Z h1188 b871 .int 64 (fun _ => (.int 0)) := f1180.ext E1192
  have f1247 : Ar Z h1188 b973 .int 64 (fun _ => (.int 0)) := f1181.ext E1192
  have f1248 : Ar Z h1188 b1078 .int 64 (fun _ => (.int 0)) := f1182.ext E1192
  have z1249 : n0 ≤ h1188.size := Nat.le_trans z1183 E1192.1
  have f1250 : Ar Z h1188 b1186 .int 64 (fun _ => (.int 0)) := A1193
  show Go p e below _ (T1187.setTop (mkF m 135 #[.val (.ref a), .val (.int x1), .unset, .unset, .unset, .unset] [(.ref b1186), (.ref a)]))
  have l11_ : b1078 < b1186 := by rw [g1189]; exact f1182.lt
  refine Go.putF (pc' := 138) (ty := (.array .int)) X1190 hx hby hZ hown (hw _ (List.mem_of_getElem? (i := 52) rfl)) Via.refl e1191 f1223 f1211 (Or.inl (hw _ (List.mem_of_getElem? (i := 53) rfl))) (hw _ (List.mem_of_getElem? (i := 3) rfl)) (by decide) rfl rfl d1_135 rfl ?_
  intro T1251 h1252 X1253 e1254 W1255
  have f1256 : Exa Z h1252 a "com/example/glacis/glacis/analysis/Bdd" := Exa.wr W1255 f1211
  have f1257 : Fld Z h1252 a "com/example/glacis/glacis/analysis/Bdd" "level" "[I" (.ref b4) := Fld.other W1255 f1212 (Or.inr (slot_ne (t := (.array .int)) (t' := (.array .int)) (Or.inl (hw _ (List.mem_of_getElem? (i := 13) rfl))) (Or.inl (hw _ (List.mem_of_getElem? (i := 53) rfl))) (by decide) (by decide) (by decide)))
  have f1258 : Fld Z h1252 a "com/example/glacis/glacis/analysis/Bdd" "low" "[I" (.ref b61) := Fld.other W1255 f1213 (Or.inr (slot_ne (t := (.array .int)) (t' := (.array .int)) (Or.inl (hw _ (List.mem_of_getElem? (i := 15) rfl))) (Or.inl (hw _ (List.mem_of_getElem? (i := 53) rfl))) (by decide) (by decide) (by decide)))
  have f1259 : Fld Z h1252 a "com/example/glacis/glacis/analysis/Bdd" "high" "[I" (.ref b121) := Fld.other W1255 f1214 (Or.inr (slot_ne (t := (.array .int)) (t' := (.array .int)) (Or.inl (hw _ (List.mem_of_getElem? (i := 17) rfl))) (Or.inl (hw _ (List.mem_of_getElem? (i := 53) rfl))) (by decide) (by decide) (by decide)))
  have f1260 : Fld Z h1252 a "com/example/glacis/glacis/analysis/Bdd" "chain" "[I" (.ref b184) := Fld.other W1255 f1215 (Or.inr (slot_ne (t := (.array .int)) (t' := (.array .int)) (Or.inl (hw _ (List.mem_of_getElem? (i := 19) rfl))) (Or.inl (hw _ (List.mem_of_getElem? (i := 53) rfl))) (by decide) (by decide) (by decide)))
  have f1261 : Fld Z h1252 a "com/example/glacis/glacis/analysis/Bdd" "buckets" "[I" (.ref b250) := Fld.other W1255 f1216 (Or.inr (slot_ne (t := (.array .int)) (t' := (.array .int)) (Or.inl (hw _ (List.mem_of_getElem? (i := 21) rfl))) (Or.inl (hw _ (List.mem_of_getElem? (i := 53) rfl))) (by decide) (by decide) (by decide)))
  have f1262 : Fld Z h1252 a "com/example/glacis/glacis/analysis/Bdd" "probabilities" "[D" (.ref b345) := Fld.other W1255 f1217 (Or.inr (slot_ne (t := (.array .double)) (t' := (.array .int)) (Or.inl (hw _ (List.mem_of_getElem? (i := 26) rfl))) (Or.inl (hw _ (List.mem_of_getElem? (i := 53) rfl))) (by decide) (by decide) (by decide)))
  have f1263 : Fld Z h1252 a "com/example/glacis/glacis/analysis/Bdd" "computed" "[Lcom/example/glacis/glacis/analysis/Bdd$Computed;" (.ref b414) := Fld.other W1255 f1218 (Or.inr (slot_ne (t := (.array (.object "com/example/glacis/glacis/analysis/Bdd$Computed"))) (t' := (.array .int)) (Or.inr (hw _ (List.mem_of_getElem? (i := 43) rfl))) (Or.inl (hw _ (List.mem_of_getElem? (i := 53) rfl))) (by decide) (by decide) (by decide)))
  have f1264 : Fld Z h1252 a "com/example/glacis/glacis/analysis/Bdd" "stackFirst" "[I" (.ref b772) := Fld.other W1255 f1219 (Or.inr (slot_ne (t := (.array .int)) (t' := (.array .int)) (Or.inl (hw _ (List.mem_of_getElem? (i := 45) rfl))) (Or.inl (hw _ (List.mem_of_getElem? (i := 53) rfl))) (by decide) (by decide) (by decide)))
  have f1265 : Fld Z h1252 a "com/example/glacis/glacis/analysis/Bdd" "stackSecond" "[I" (.ref b871) := Fld.other W1255 f1220 (Or.inr (slot_ne (t := (.array .int)) (t' := (.array .int)) (Or.inl (hw _ (List.mem_of_getElem? (i := 47) rfl))) (Or.inl (hw _ (List.mem_of_getElem? (i := 53) rfl))) (by decide) (by decide) (by decide)))
  have f1266 : Fld Z h1252 a "com/example/glacis/glacis/analysis/Bdd" "stackLevel" "[I" (.ref b973) := Fld.other W1255 f1221 (Or.inr (slot_ne (t := (.array .int)) (t' := (.array .int)) (Or.inl (hw _ (List.mem_of_getElem? (i := 49) rfl))) (Or.inl (hw _ (List.mem_of_getElem? (i := 53) rfl))) (by decide) (by decide) (by decide)))
  have f1267 : Fld Z h1252 a "com/example/glacis/glacis/analysis/Bdd" "stackLow" "[I" (.ref b1078) := Fld.other W1255 f1222 (Or.inr (slot_ne (t := (.array .int)) (t' := (.array .int)) (Or.inl (hw _ (List.mem_of_getElem? (i := 51) rfl))) (Or.inl (hw _ (List.mem_of_getElem? (i := 53) rfl))) (by decide) (by decide) (by decide)))
  have f1268 : Fld Z h1252 a "com/example/glacis/glacis/analysis/Bdd" "size" "I" (.int (2 : Int32)) := Fld.other W1255 f1224 (Or.inr (slot_ne (t := .int) (t' := (.array .int)) (Or.inl (hw _ (List.mem_of_getElem? (i := 23) rfl))) (Or.inl (hw _ (List.mem_of_getElem? (i := 53) rfl))) (by decide) (by decide) (by decide)))
  have f1269 : Fld Z h1252 a "com/example/glacis/glacis/analysis/Bdd" "variables" "I" (.int 0) := Fld.other W1255 f1225 (Or.inr (slot_ne (t := .int) (t' := (.array .int)) (Or.inl (hw _ (List.mem_of_getElem? (i := 80) rfl))) (Or.inl (hw _ (List.mem_of_getElem? (i := 53) rfl))) (by decide) (by decide) (by decide)))
  have f1270 : Fld Z h1252 a "com/example/glacis/glacis/analysis/Bdd" "slack" "I" (.int 0) := Fld.other W1255 f1226 (Or.inr (slot_ne (t := .int) (t' := (.array .int)) (Or.inr (hw _ (List.mem_of_getElem? (i := 55) rfl))) (Or.inl (hw _ (List.mem_of_getElem? (i := 53) rfl))) (by decide) (by decide) (by decide)))
  have f1271 : Fld Z h1252 a "com/example/glacis/glacis/analysis/Bdd" "collectAt" "I" (.int 0) := Fld.other W1255 f1227 (Or.inr (slot_ne (t := .int) (t' := (.array .int)) (Or.inl (hw _ (List.mem_of_getElem? (i := 57) rfl))) (Or.inl (hw _ (List.mem_of_getElem? (i := 53) rfl))) (by decide) (by decide) (by decide)))
  have f1272 : Ar Z h1252 b4 .int 1024 (fun _ => (.int 0)) := f1228.other W1255 (Ne.symm n12)
  have f1273 : Ar Z h1252 b61 .int 1024 (fun _ => (.int 0)) := f1229.other W1255 (Ne.symm n69)
  have f1274 : Ar Z h1252 b121 .int 1024 (fun _ => (.int 0)) := f1230.other W1255 (Ne.symm n129)
  have f1275 : Ar Z h1252 b184 .int 1024 (fun _ => (.int 0)) := f1231.other W1255 (Ne.symm n192)
  have f1276 : Ar Z h1252 b250 .int 1024 (fun _ => (.int 0)) := f1232.other W1255 (Ne.symm n258)
  have f1277 : Ar Z h1252 b345 .double 16 (fun _ => (.double 0)) := f1233.other W1255 (Ne.symm n353)
  have f1278 : Ar Z h1252 b414 (.object "com/example/glacis/glacis/analysis/Bdd$Computed") 2 (fun q => if q = 1 then (.ref b584) else if q = 0 then (.ref b457) else .null) := f1234.other W1255 (Ne.symm n423)
  have f1279 : Exa Z h1252 b457 "com/example/glacis/glacis/analysis/Bdd$Computed" := Exa.wr W1255 f1235
  have f1280 : Fld Z h1252 b457 "com/example/glacis/glacis/analysis/Bdd$Computed" "first" "[I" (.ref xc0_) := Fld.other W1255 f1236 (Or.inl (Ne.symm n466))
  have f1281 : Fld Z h1252 b457 "com/example/glacis/glacis/analysis/Bdd$Computed" "second" "[I" (.ref yc0_) := Fld.other W1255 f1237 (Or.inl (Ne.symm n466))
  have f1282 : Fld Z h1252 b457 "com/example/glacis/glacis/analysis/Bdd$Computed" "result" "[I" (.ref zc0_) := Fld.other W1255 f1238 (Or.inl (Ne.symm n466))
  have f1283 : Ar Z h1252 xc0_ .int 0 (fun _ => .int 0) := f1239.other W1255 (Ne.symm n509)
  have f1284 : Exa Z h1252 b584 "com/example/glacis/glacis/analysis/Bdd$Computed" := Exa.wr W1255 f1240
  have f1285 : Fld Z h1252 b584 "com/example/glacis/glacis/analysis/Bdd$Computed" "first" "[I" (.ref xc1_) := Fld.other W1255 f1241 (Or.inl (Ne.symm n593))
  have f1286 : Fld Z h1252 b584 "com/example/glacis/glacis/analysis/Bdd$Computed" "second" "[I" (.ref yc1_) := Fld.other W1255 f1242 (Or.inl (Ne.symm n593))
  have f1287 : Fld Z h1252 b584 "com/example/glacis/glacis/analysis/Bdd$Computed" "result" "[I" (.ref zc1_) := Fld.other W1255 f1243 (Or.inl (Ne.symm n593))
  have f1288 : Ar Z h1252 xc1_ .int 0 (fun _ => .int 0) := f1244.other W1255 (Ne.symm n643)
  have f1289 : Ar Z h1252 b772 .int 64 (fun _ => (.int 0)) := f1245.other W1255 (Ne.symm n780)
  have f1290 : Ar Z h1252 b871 .int 64 (fun _ => (.int 0)) := f1246.other W1255 (Ne.symm n879)
  have f1291 : Ar Z h1252 b973 .int 64 (fun _ => (.int 0)) := f1247.other W1255 (Ne.symm n981)
  have f1292 : Ar Z h1252 b1078 .int 64 (fun _ => (.int 0)) := f1248.other W1255 (Ne.symm n1086)
  have f1293 : Ar Z h1252 b1186 .int 64 (fun _ => (.int 0)) := f1250.other W1255 (Ne.symm n1194)
  have z1294 : n0 ≤ h1252.size := by rw [Wr.size W1255]; exact z1249
  have f1295 : Fld Z h1252 a "com/example/glacis/glacis/analysis/Bdd" "stackPhase" "[I" (.ref b1186) := Fld.same W1255 f1223
  have N1296 : Fr n0 _ := Fr.snoc X1253 N1185 ga
  show Go p e below _ (T1251.setTop (mkF m 138 #[.val (.ref a), .val (.int x1), .unset, .unset, .unset, .unset] []))
  refine Go.aloadN (pc' := 139) X1253 hx hby d1_138 rfl rfl rfl ?_
  refine Go.iloadN (pc' := 140) X1253 hx hby d1_139 rfl rfl ?_
  refine Go.putF (pc' := 143) (ty := .int) X1253 hx hby hZ hown (hw _ (List.mem_of_getElem? (i := 54) rfl)) Via.refl e1254 f1270 f1256 (Or.inr ⟨(hw _ (List.mem_of_getElem? (i := 55) rfl)), rfl, hnm⟩) (hw _ (List.mem_of_getElem? (i := 3) rfl)) (by decide) rfl rfl d1_140 rfl ?_
  intro T1297 h1298 X1299 e1300 W1301
  have f1302 : Exa Z h1298 a "com/example/glacis/glacis/analysis/Bdd" := Exa.wr W1301 f1256
  have f1303 : Fld Z h1298 a "com/example/glacis/glacis/analysis/Bdd" "level" "[I" (.ref b4) := Fld.other W1301 f1257 (Or.inr (slot_ne (t := (.array .int)) (t' := .int) (Or.inl (hw _ (List.mem_of_getElem? (i := 13) rfl))) (Or.inr (hw _ (List.mem_of_getElem? (i := 55) rfl))) (by decide) (by decide) (by decide)))
  have f1304 : Fld Z h1298 a "com/example/glacis/glacis/analysis/Bdd" "low" "[I" (.ref b61) := Fld.other W1301 f1258 (Or.inr (slot_ne (t := (.array .int)) (t' := .int) (Or.inl (hw _ (List.mem_of_getElem? (i := 15) rfl))) (Or.inr (hw _ (List.mem_of_getElem? (i := 55) rfl))) (by decide) (by decide) (by decide)))
  have f1305 : Fld Z h1298 a "com/example/glacis/glacis/analysis/Bdd" "high" "[I" (.ref b121) := Fld.other W1301 f1259 (Or.inr (slot_ne (t := (.array .int)) (t' := .int) (Or.inl (hw _ (List.mem_of_getElem? (i := 17) rfl))) (Or.inr (hw _ (List.mem_of_getElem? (i := 55) rfl))) (by decide) (by decide) (by decide)))
  have f1306 : Fld Z h1298 a "com/example/glacis/glacis/analysis/Bdd" "chain" "[I" (.ref b184) := Fld.other W1301 f1260 (Or.inr (slot_ne (t := (.array .int)) (t' := .int) (Or.inl (hw _ (List.mem_of_getElem? (i := 19) rfl))) (Or.inr (hw _ (List.mem_of_getElem? (i := 55) rfl))) (by decide) (by decide) (by decide)))
  have f1307 : Fld Z h1298 a "com/example/glacis/glacis/analysis/Bdd" "buckets" "[I" (.ref b250) := Fld.other W1301 f1261 (Or.inr (slot_ne (t := (.array .int)) (t' := .int) (Or.inl (hw _ (List.mem_of_getElem? (i := 21) rfl))) (Or.inr (hw _ (List.mem_of_getElem? (i := 55) rfl))) (by decide) (by decide) (by decide)))
  have f1308 : Fld Z h1298 a "com/example/glacis/glacis/analysis/Bdd" "probabilities" "[D" (.ref b345) := Fld.other W1301 f1262 (Or.inr (slot_ne (t := (.array .double)) (t' := .int) (Or.inl (hw _ (List.mem_of_getElem? (i := 26) rfl))) (Or.inr (hw _ (List.mem_of_getElem? (i := 55) rfl))) (by decide) (by decide) (by decide)))
  have f1309 : Fld Z h1298 a "com/example/glacis/glacis/analysis/Bdd" "computed" "[Lcom/example/glacis/glacis/analysis/Bdd$Computed;" (.ref b414) := Fld.other W1301 f1263 (Or.inr (slot_ne (t := (.array (.object "com/example/glacis/glacis/analysis/Bdd$Computed"))) (t' := .int) (Or.inr (hw _ (List.mem_of_getElem? (i := 43) rfl))) (Or.inr (hw _ (List.mem_of_getElem? (i := 55) rfl))) (by decide) (by decide) (by decide)))
  have f1310 : Fld Z h1298 a "com/example/glacis/glacis/analysis/Bdd" "stackFirst" "[I" (.ref b772) := Fld.other W1301 f1264 (Or.inr (slot_ne (t := (.array .int)) (t' := .int) (Or.inl (hw _ (List.mem_of_getElem? (i := 45) rfl))) (Or.inr (hw _ (List.mem_of_getElem? (i := 55) rfl))) (by decide) (by decide) (by decide)))
  have f1311 : Fld Z h1298 a "com/example/glacis/glacis/analysis/Bdd" "stackSecond" "[I" (.ref b871) := Fld.other W1301 f1265 (Or.inr (slot_ne (t := (.array .int)) (t' := .int) (Or.inl (hw _ (List.mem_of_getElem? (i := 47) rfl))) (Or.inr (hw _ (List.mem_of_getElem? (i := 55) rfl))) (by decide) (by decide) (by decide)))
  have f1312 : Fld Z h1298 a "com/example/glacis/glacis/analysis/Bdd" "stackLevel" "[I" (.ref b973) := Fld.other W1301 f1266 (Or.inr (slot_ne (t := (.array .int)) (t' := .int) (Or.inl (hw _ (List.mem_of_getElem? (i := 49) rfl))) (Or.inr (hw _ (List.mem_of_getElem? (i := 55) rfl))) (by decide) (by decide) (by decide)))
  have f1313 : Fld Z h1298 a "com/example/glacis/glacis/analysis/Bdd" "stackLow" "[I" (.ref b1078) := Fld.other W1301 f1267 (Or.inr (slot_ne (t := (.array .int)) (t' := .int) (Or.inl (hw _ (List.mem_of_getElem? (i := 51) rfl))) (Or.inr (hw _ (List.mem_of_getElem? (i := 55) rfl))) (by decide) (by decide) (by decide)))
  have f1314 : Fld Z h1298 a "com/example/glacis/glacis/analysis/Bdd" "stackPhase" "[I" (.ref b1186) := Fld.other W1301 f1295 (Or.inr (slot_ne (t := (.array .int)) (t' := .int) (Or.inl (hw _ (List.mem_of_getElem? (i := 53) rfl))) (Or.inr (hw _ (List.mem_of_getElem? (i := 55) rfl))) (by decide) (by decide) (by decide)))
  have f1315 : Fld Z h1298 a "com/example/glacis/glacis/analysis/Bdd" "size" "I" (.int (2 : Int32)) := Fld.other W1301 f1268 (Or.inr (slot_ne (t := .int) (t' := .int) (Or.inl (hw _ (List.mem_of_getElem? (i := 23) rfl))) (Or.inr (hw _ (List.mem_of_getElem? (i := 55) rfl))) (by decide) (by decide) (by decide)))
  have f1316 : Fld Z h1298 a "com/example/glacis/glacis/analysis/Bdd" "variables" "I" (.int 0) := Fld.other W1301 f1269 (Or.inr (slot_ne (t := .int) (t' := .int) (Or.inl (hw _ (List.mem_of_getElem? (i := 80) rfl))) (Or.inr (hw _ (List.mem_of_getElem? (i := 55) rfl))) (by decide) (by decide) (by decide)))
  have f1317 : Fld Z h1298 a "com/example/glacis/glacis/analysis/Bdd" "collectAt" "I" (.int 0) := Fld.other W1301 f1271 (Or.inr (slot_ne (t := .int) (t' := .int) (Or.inl (hw _ (List.mem_of_getElem? (i := 57) rfl))) (Or.inr (hw _ (List.mem_of_getElem? (i := 55) rfl))) (by decide) (by decide) (by decide)))
  have f1318 : Ar Z h1298 b4 .int 1024 (fun _ => (.int 0)) := f1272.other W1301 (Ne.symm n12)
  have f1319 : Ar Z h1298 b61 .int 1024 (fun _ => (.int 0)) := f1273.other W1301 (Ne.symm n69)
  have f1320 : Ar Z h1298 b121 .int 1024 (fun _ => (.int 0)) := f1274.other W1301 (Ne.symm n129)
  have f1321 : Ar Z h1298 b184 .int 1024 (fun _ => (.int 0)) := f1275.other W1301 (Ne.symm n192)
  have f1322 : Ar Z h1298 b250 .int 1024 (fun _ => (.int 0)) := f1276.other W1301 (Ne.symm n258)
  have f1323 : Ar Z h1298 b345 .double 16 (fun _ => (.double 0)) := f1277.other W1301 (Ne.symm n353)
  have f1324 : Ar Z h1298 b414 (.object "com/example/glacis/glacis/analysis/Bdd$Computed") 2 (fun q => if q = 1 then (.ref b584) else if q = 0 then (.ref b457) else .null) := f1278.other W1301 (Ne.symm n423)
  have f1325 : Exa Z h1298 b457 "com/example/glacis/glacis/analysis/Bdd$Computed" := Exa.wr W1301 f1279
  have f1326 : Fld Z h1298 b457 "com/example/glacis/glacis/analysis/Bdd$Computed" "first" "[I" (.ref xc0_) := Fld.other W1301 f1280 (Or.inl (Ne.symm n466))
  have f1327 : Fld Z h1298 b457 "com/example/glacis/glacis/analysis/Bdd$Computed" "second" "[I" (.ref yc0_) := Fld.other W1301 f1281 (Or.inl (Ne.symm n466))
  have f1328 : Fld Z h1298 b457 "com/example/glacis/glacis/analysis/Bdd$Computed" "result" "[I" (.ref zc0_) := Fld.other W1301 f1282 (Or.inl (Ne.symm n466))
  have f1329 : Ar Z h1298 xc0_ .int 0 (fun _ => .int 0) := f1283.other W1301 (Ne.symm n509)
  have f1330 : Exa Z h1298 b584 "com/example/glacis/glacis/analysis/Bdd$Computed" := Exa.wr W1301 f1284
  have f1331 : Fld Z h1298 b584 "com/example/glacis/glacis/analysis/Bdd$Computed" "first" "[I" (.ref xc1_) := Fld.other W1301 f1285 (Or.inl (Ne.symm n593))
  have f1332 : Fld Z h1298 b584 "com/example/glacis/glacis/analysis/Bdd$Computed" "second" "[I" (.ref yc1_) := Fld.other W1301 f1286 (Or.inl (Ne.symm n593))
  have f1333 : Fld Z h1298 b584 "com/example/glacis/glacis/analysis/Bdd$Computed" "result" "[I" (.ref zc1_) := Fld.other W1301 f1287 (Or.inl (Ne.symm n593))
  have f1334 : Ar Z h1298 xc1_ .int 0 (fun _ => .int 0) := f1288.other W1301 (Ne.symm n643)
  have f1335 : Ar Z h1298 b772 .int 64 (fun _ => (.int 0)) := f1289.other W1301 (Ne.symm n780)
  have f1336 : Ar Z h1298 b871 .int 64 (fun _ => (.int 0)) := f1290.other W1301 (Ne.symm n879)
  have f1337 : Ar Z h1298 b973 .int 64 (fun _ => (.int 0)) := f1291.other W1301 (Ne.symm n981)
  have f1338 : Ar Z h1298 b1078 .int 64 (fun _ => (.int 0)) := f1292.other W1301 (Ne.symm n1086)
  have f1339 : Ar Z h1298 b1186 .int 64 (fun _ => (.int 0)) := f1293.other W1301 (Ne.symm n1194)
  have z1340 : n0 ≤ h1298.size := by rw [Wr.size W1301]; exact z1294
  have f1341 : Fld Z h1298 a "com/example/glacis/glacis/analysis/Bdd" "slack" "I" (.int x1) := Fld.same W1301 f1270
  have N1342 : Fr n0 _ := Fr.snoc X1299 N1296 ga
  show Go p e below _ (T1297.setTop (mkF m 143 #[.val (.ref a), .val (.int x1), .unset, .unset, .unset, .unset] []))
  refine Go.aloadN (pc' := 144) X1299 hx hby d1_143 rfl rfl rfl ?_
  refine Go.iloadN (pc' := 145) X1299 hx hby d1_144 rfl rfl ?_
  refine Go.putF (pc' := 148) (ty := .int) X1299 hx hby hZ hown (hw _ (List.mem_of_getElem? (i := 56) rfl)) Via.refl e1300 f1317 f1302 (Or.inl (hw _ (List.mem_of_getElem? (i := 57) rfl))) (hw _ (List.mem_of_getElem? (i := 3) rfl)) (by decide) rfl rfl d1_145 rfl ?_
  intro T1343 h1344 X1345 e1346 W1347
  have f1348 : Exa Z h1344 a "com/example/glacis/glacis/analysis/Bdd" := Exa.wr W1347 f1302
  have f1349 : Fld Z h1344 a "com/example/glacis/glacis/analysis/Bdd" "level" "[I" (.ref b4) := Fld.other W1347 f1303 (Or.inr (slot_ne (t := (.array .int)) (t' := .int) (Or.inl (hw _ (List.mem_of_getElem? (i := 13) rfl))) (Or.inl (hw _ (List.mem_of_getElem? (i := 57) rfl))) (by decide) (by decide) (by decide)))
  have f1350 : Fld Z h1344 a "com/example/glacis/glacis/analysis/Bdd" "low" "[I" (.ref b61) := Fld.other W1347 f1304 (Or.inr (slot_ne (t := (.array .int)) (t' := .int) (Or.inl (hw _ (List.mem_of_getElem? (i := 15) rfl))) (Or.inl (hw _ (List.mem_of_getElem? (i := 57) rfl))) (by decide) (by decide) (by decide)))
  have f1351 : Fld Z h1344 a "com/example/glacis/glacis/analysis/Bdd" "high" "[I" (.ref b121) := Fld.other W1347 f1305 (Or.inr (slot_ne (t := (.array .int)) (t' := .int) (Or.inl (hw _ (List.mem_of_getElem? (i := 17) rfl))) (Or.inl (hw _ (List.mem_of_getElem? (i := 57) rfl))) (by decide) (by decide) (by decide)))
  have f1352 : Fld Z h1344 a "com/example/glacis/glacis/analysis/Bdd" "chain" "[I" (.ref b184) := Fld.other W1347 f1306 (Or.inr (slot_ne (t := (.array .int)) (t' := .int) (Or.inl (hw _ (List.mem_of_getElem? (i := 19) rfl))) (Or.inl (hw _ (List.mem_of_getElem? (i := 57) rfl))) (by decide) (by decide) (by decide)))
  have f1353 : Fld Z h1344 a "com/example/glacis/glacis/analysis/Bdd" "buckets" "[I" (.ref b250) := Fld.other W1347 f1307 (Or.inr (slot_ne (t := (.array .int)) (t' := .int) (Or.inl (hw _ (List.mem_of_getElem? (i := 21) rfl))) (Or.inl (hw _ (List.mem_of_getElem? (i := 57) rfl))) (by decide) (by decide) (by decide)))
  have f1354 : Fld Z h1344 a "com/example/glacis/glacis/analysis/Bdd" "probabilities" "[D" (.ref b345) := Fld.other W1347 f1308 (Or.inr (slot_ne (t := (.array .double)) (t' := .int) (Or.inl (hw _ (List.mem_of_getElem? (i := 26) rfl))) (Or.inl (hw _ (List.mem_of_getElem? (i := 57) rfl))) (by decide) (by decide) (by decide)))
  have f1355 : Fld Z h1344 a "com/example/glacis/glacis/analysis/Bdd" "computed" "[Lcom/example/glacis/glacis/analysis/Bdd$Computed;" (.ref b414) := Fld.other W1347 f1309 (Or.inr (slot_ne (t := (.array (.object "com/example/glacis/glacis/analysis/Bdd$Computed"))) (t' := .int) (Or.inr (hw _ (List.mem_of_getElem? (i := 43) rfl))) (Or.inl (hw _ (List.mem_of_getElem? (i := 57) rfl))) (by decide) (by decide) (by decide)))
  have f1356 : Fld Z h1344 a "com/example/glacis/glacis/analysis/Bdd" "stackFirst" "[I" (.ref b772) := Fld.other W1347 f1310 (Or.inr (slot_ne (t := (.array .int)) (t' := .int) (Or.inl (hw _ (List.mem_of_getElem? (i := 45) rfl))) (Or.inl (hw _ (List.mem_of_getElem? (i := 57) rfl))) (by decide) (by decide) (by decide)))
  have f1357 : Fld Z h1344 a "com/example/glacis/glacis/analysis/Bdd" "stackSecond" "[I" (.ref b871) := Fld.other W1347 f1311 (Or.inr (slot_ne (t := (.array .int)) (t' := .int) (Or.inl (hw _ (List.mem_of_getElem? (i := 47) rfl))) (Or.inl (hw _ (List.mem_of_getElem? (i := 57) rfl))) (by decide) (by decide) (by decide)))
  have f1358 : Fld Z h1344 a "com/example/glacis/glacis/analysis/Bdd" "stackLevel" "[I" (.ref b973) := Fld.other W1347 f1312 (Or.inr (slot_ne (t := (.array .int)) (t' := .int) (Or.inl (hw _ (List.mem_of_getElem? (i := 49) rfl))) (Or.inl (hw _ (List.mem_of_getElem? (i := 57) rfl))) (by decide) (by decide) (by decide)))
  have f1359 : Fld Z h1344 a "com/example/glacis/glacis/analysis/Bdd" "stackLow" "[I" (.ref b1078) := Fld.other W1347 f1313 (Or.inr (slot_ne (t := (.array .int)) (t' := .int) (Or.inl (hw _ (List.mem_of_getElem? (i := 51) rfl))) (Or.inl (hw _ (List.mem_of_getElem? (i := 57) rfl))) (by decide) (by decide) (by decide)))
  have f1360 : Fld Z h1344 a "com/example/glacis/glacis/analysis/Bdd" "stackPhase" "[I" (.ref b1186) := Fld.other W1347 f1314 (Or.inr (slot_ne (t := (.array .int)) (t' := .int) (Or.inl (hw _ (List.mem_of_getElem? (i := 53) rfl))) (Or.inl (hw _ (List.mem_of_getElem? (i := 57) rfl))) (by decide) (by decide) (by decide)))
  have f1361 : Fld Z h1344 a "com/example/glacis/glacis/analysis/Bdd" "size" "I" (.int (2 : Int32)) := Fld.other W1347 f1315 (Or.inr (slot_ne (t := .int) (t' := .int) (Or.inl (hw _ (List.mem_of_getElem? (i := 23) rfl))) (Or.inl (hw _ (List.mem_of_getElem? (i := 57) rfl))) (by decide) (by decide) (by decide)))
  have f1362 : Fld Z h1344 a "com/example/glacis/glacis/analysis/Bdd" "variables" "I" (.int 0) := Fld.other W1347 f1316 (Or.inr (slot_ne (t := .int) (t' := .int) (Or.inl (hw _ (List.mem_of_getElem? (i := 80) rfl))) (Or.inl (hw _ (List.mem_of_getElem? (i := 57) rfl))) (by decide) (by decide) (by decide)))
  have f1363 : Fld Z h1344 a "com/example/glacis/glacis/analysis/Bdd" "slack" "I" (.int x1) := Fld.other W1347 f1341 (Or.inr (slot_ne (t := .int) (t' := .int) (Or.inr (hw _ (List.mem_of_getElem? (i := 55) rfl))) (Or.inl (hw _ (List.mem_of_getElem? (i := 57) rfl))) (by decide) (by decide) (by decide)))
  have f1364 : Ar Z h1344 b4 .int 1024 (fun _ => (.int 0)) := f1318.other W1347 (Ne.symm n12)
  have f1365 : Ar Z h1344 b61 .int 1024 (fun _ => (.int 0)) := f1319.other W1347 (Ne.symm n69)
  have f1366 : Ar Z h1344 b121 .int 1024 (fun _ => (.int 0)) := f1320.other W1347 (Ne.symm n129)
  have f1367 : Ar Z h1344 b184 .int 1024 (fun _ => (.int 0)) := f1321.other W1347 (Ne.symm n192)
  have f1368 : Ar Z h1344 b250 .int 1024 (fun _ => (.int 0)) := f1322.other W1347 (Ne.symm n258)
  have f1369 : Ar Z h1344 b345 .double 16 (fun _ => (.double 0)) := f1323.other W1347 (Ne.symm n353)
  have f1370 : Ar Z h1344 b414 (.object "com/example/glacis/glacis/analysis/Bdd$Computed") 2 (fun q => if q = 1 then (.ref b584) else if q = 0 then (.ref b457) else .null) := f1324.other W1347 (Ne.symm n423)
  have f1371 : Exa Z h1344 b457 "com/example/glacis/glacis/analysis/Bdd$Computed" := Exa.wr W1347 f1325
  have f1372 : Fld Z h1344 b457 "com/example/glacis/glacis/analysis/Bdd$Computed" "first" "[I" (.ref xc0_) := Fld.other W1347 f1326 (Or.inl (Ne.symm n466))
  have f1373 : Fld Z h1344 b457 "com/example/glacis/glacis/analysis/Bdd$Computed" "second" "[I" (.ref yc0_) := Fld.other W1347 f1327 (Or.inl (Ne.symm n466))
  have f1374 : Fld Z h1344 b457 "com/example/glacis/glacis/analysis/Bdd$Computed" "result" "[I" (.ref zc0_) := Fld.other W1347 f1328 (Or.inl (Ne.symm n466))
  have f1375 : Ar Z h1344 xc0_ .int 0 (fun _ => .int 0) := f1329.other W1347 (Ne.symm n509)
  have f1376 : Exa Z h1344 b584 "com/example/glacis/glacis/analysis/Bdd$Computed" := Exa.wr W1347 f1330
  have f1377 : Fld Z h1344 b584 "com/example/glacis/glacis/analysis/Bdd$Computed" "first" "[I" (.ref xc1_) := Fld.other W1347 f1331 (Or.inl (Ne.symm n593))
  have f1378 : Fld Z h1344 b584 "com/example/glacis/glacis/analysis/Bdd$Computed" "second" "[I" (.ref yc1_) := Fld.other W1347 f1332 (Or.inl (Ne.symm n593))
  have f1379 : Fld Z h1344 b584 "com/example/glacis/glacis/analysis/Bdd$Computed" "result" "[I" (.ref zc1_) := Fld.other W1347 f1333 (Or.inl (Ne.symm n593))
  have f1380 : Ar Z h1344 xc1_ .int 0 (fun _ => .int 0) := f1334.other W1347 (Ne.symm n643)
  have f1381 : Ar Z h1344 b772 .int 64 (fun _ => (.int 0)) := f1335.other W1347 (Ne.symm n780)
  have f1382 : Ar Z h1344 b871 .int 64 (fun _ => (.int 0)) := f1336.other W1347 (Ne.symm n879)
  have f1383 : Ar Z h1344 b973 .int 64 (fun _ => (.int 0)) := f1337.other W1347 (Ne.symm n981)
  have f1384 : Ar Z h1344 b1078 .int 64 (fun _ => (.int 0)) := f1338.other W1347 (Ne.symm n1086)
  have f1385 : Ar Z h1344 b1186 .int 64 (fun _ => (.int 0)) := f1339.other W1347 (Ne.symm n1194)
  have z1386 : n0 ≤ h1344.size := by rw [Wr.size W1347]; exact z1340
  have f1387 : Fld Z h1344 a "com/example/glacis/glacis/analysis/Bdd" "collectAt" "I" (.int x1) := Fld.same W1347 f1317
  have N1388 : Fr n0 _ := Fr.snoc X1345 N1342 ga
  show Go p e below _ (T1343.setTop (mkF m 148 #[.val (.ref a), .val (.int x1), .unset, .unset, .unset, .unset] []))
  refine Go.aloadN (pc' := 149) X1345 hx hby d1_148 rfl rfl rfl ?_
  refine Go.getF (pc' := 152) X1345 hx hby hZ hown (hw _ (List.mem_of_getElem? (i := 12) rfl)) Via.refl e1346 f1349 d1_149 rfl ?_
  intro T1389 X1390 e1391
  refine Go.iconst (pc' := 153) X1390 hx hby d1_152 rfl (v := (0 : Int32)) (by decide) ?_
  refine Go.ldcI (pc' := 155) X1390 hx hby d1_153 rfl hown (mvT hZ (hw _ (List.mem_of_getElem? (i := 58) rfl))) ?_
  refine Go.iastore (pc' := 156) (i := 0) X1390 hx hby hZ e1391 f1364 d1_155 rfl (by decide) (by decide) (by decide) ?_
  intro T1392 h1393 X1394 e1395 W1396 A1397
  have f1398 : Exa Z h1393 a "com/example/glacis/glacis/analysis/Bdd" := Exa.wr W1396 f1348
  have f1399 : Fld Z h1393 a "com/example/glacis/glacis/analysis/Bdd" "level" "[I" (.ref b4) := Fld.other W1396 f1349 (Or.inl n12)
  have f1400 : Fld Z h1393 a "com/example/glacis/glacis/analysis/Bdd" "low" "[I" (.ref b61) := Fld.other W1396 f1350 (Or.inl n12)
  have f1401 : Fld Z h1393 a "com/example/glacis/glacis/analysis/Bdd" "high" "[I" (.ref b121) := Fld.other W1396 f1351 (Or.inl n12)
  have f1402 : Fld Z h1393 a "com/example/glacis/glacis/analysis/Bdd" "chain" "[I" (.ref b184) := Fld.other W1396 f1352 (Or.inl n12)
  have f1403 : Fld Z h1393 a "com/example/glacis/glacis/analysis/Bdd" "buckets" "[I" (.ref b250) := Fld.other W1396 f1353 (Or.inl n12)
  have f1404 : Fld Z h1393 a "com/example/glacis/glacis/analysis/Bdd" "probabilities" "[D" (.ref b345) := Fld.other W1396 f1354 (Or.inl n12)
  have f1405 : Fld Z h1393 a "com/example/glacis/glacis/analysis/Bdd" "computed" "[Lcom/example/glacis/glacis/analysis/Bdd$Computed;" (.ref b414) := Fld.other W1396 f1355 (Or.inl n12)
  have f1406 : Fld Z h1393 a "com/example/glacis/glacis/analysis/Bdd" "stackFirst" "[I" (.ref b772) := Fld.other W1396 f1356 (Or.inl n12)
  have f1407 : Fld Z h1393 a "com/example/glacis/glacis/analysis/Bdd" "stackSecond" "[I" (.ref b871) := Fld.other W1396 f1357 (Or.inl n12)
  have f1408 : Fld Z h1393 a "com/example/glacis/glacis/analysis/Bdd" "stackLevel" "[I" (.ref b973) := Fld.other W1396 f1358 (Or.inl n12)
  have f1409 : Fld Z h1393 a "com/example/glacis/glacis/analysis/Bdd" "stackLow" "[I" (.ref b1078) := Fld.other W1396 f1359 (Or.inl n12)
  have f1410 : Fld Z h1393 a "com/example/glacis/glacis/analysis/Bdd" "stackPhase" "[I" (.ref b1186) := Fld.other W1396 f1360 (Or.inl n12)
  have f1411 : Fld Z h1393 a "com/example/glacis/glacis/analysis/Bdd" "size" "I" (.int (2 : Int32)) := Fld.other W1396 f1361 (Or.inl n12)
  have f1412 : Fld Z h1393 a "com/example/glacis/glacis/analysis/Bdd" "variables" "I" (.int 0) := Fld.other W1396 f1362 (Or.inl n12)
  have f1413 : Fld Z h1393 a "com/example/glacis/glacis/analysis/Bdd" "slack" "I" (.int x1) := Fld.other W1396 f1363 (Or.inl n12)
  have f1414 : Fld Z h1393 a "com/example/glacis/glacis/analysis/Bdd" "collectAt" "I" (.int x1) := Fld.other W1396 f1387 (Or.inl n12)
  have f1415 : Ar Z h1393 b61 .int 1024 (fun _ => (.int 0)) := f1365.other W1396 (Ne.symm n70)
  have f1416 : Ar Z h1393 b121 .int 1024 (fun _ => (.int 0)) := f1366.other W1396 (Ne.symm n130)
  have f1417 : Ar Z h1393 b184 .int 1024 (fun _ => (.int 0)) := f1367.other W1396 (Ne.symm n193)
  have f1418 : Ar Z h1393 b250 .int 1024 (fun _ => (.int 0)) := f1368.other W1396 (Ne.symm n259)
  have f1419 : Ar Z h1393 b345 .double 16 (fun _ => (.double 0)) := f1369.other W1396 (Ne.symm n354)
  have f1420 : Ar Z h1393 b414 (.object "com/example/glacis/glacis/analysis/Bdd$Computed") 2 (fun q => if q = 1 then (.ref b584) else if q = 0 then (.ref b457) else .null) := f1370.other W1396 (Ne.symm n424)
  have f1421 : Exa Z h1393 b457 "com/example/glacis/glacis/analysis/Bdd$Computed" := Exa.wr W1396 f1371
  have f1422 : Fld Z h1393 b457 "com/example/glacis/glacis/analysis/Bdd$Computed" "first" "[I" (.ref xc0_) := Fld.other W1396 f1372 (Or.inl (Ne.symm n467))
  have f1423 : Fld Z h1393 b457 "com/example/glacis/glacis/analysis/Bdd$Computed" "second" "[I" (.ref yc0_) := Fld.other W1396 f1373 (Or.inl (Ne.symm n467))
  have f1424 : Fld Z h1393 b457 "com/example/glacis/glacis/analysis/Bdd$Computed" "result" "[I" (.ref zc0_) := Fld.other W1396 f1374 (Or.inl (Ne.symm n467))
  have f1425 : Ar Z h1393 xc0_ .int 0 (fun _ => .int 0) := f1375.other W1396 (Ne.symm n510)
  have f1426 : Exa Z h1393 b584 "com/example/glacis/glacis/analysis/Bdd$Computed" := Exa.wr W1396 f1376
  have f1427 : Fld Z h1393 b584 "com/example/glacis/glacis/analysis/Bdd$Computed" "first" "[I" (.ref xc1_) := Fld.other W1396 f1377 (Or.inl (Ne.symm n594))
  have f1428 : Fld Z h1393 b584 "com/example/glacis/glacis/analysis/Bdd$Computed" "second" "[I" (.ref yc1_) := Fld.other W1396 f1378 (Or.inl (Ne.symm n594))
  have f1429 : Fld Z h1393 b584 "com/example/glacis/glacis/analysis/Bdd$Computed" "result" "[I" (.ref zc1_) := Fld.other W1396 f1379 (Or.inl (Ne.symm n594))
  have f1430 : Ar Z h1393 xc1_ .int 0 (fun _ => .int 0) := f1380.other W1396 (Ne.symm n644)
  have f1431 : Ar Z h1393 b772 .int 64 (fun _ => (.int 0)) := f1381.other W1396 (Ne.symm n781)
  have f1432 : Ar Z h1393 b871 .int 64 (fun _ => (.int 0)) := f1382.other W1396 (Ne.symm n880)
  have f1433 : Ar Z h1393 b973 .int 64 (fun _ => (.int 0)) := f1383.other W1396 (Ne.symm n982)
  have f1434 : Ar Z h1393 b1078 .int 64 (fun _ => (.int 0)) := f1384.other W1396 (Ne.symm n1087)
  have f1435 : Ar Z h1393 b1186 .int 64 (fun _ => (.int 0)) := f1385.other W1396 (Ne.symm n1195)
  have z1436 : n0 ≤ h1393.size := by rw [Wr.size W1396]; exact z1386
  have f1437 : Ar Z h1393 b4 .int 1024 (fun q => if q = 0 then (.int (2147483647 : Int32)) else (.int 0)) := A1397
  have N1438 : Fr n0 _ := Fr.snoc X1394 N1388 g13
  show Go p e below _ (T1392.setTop (mkF m 156 #[.val (.ref a), .val (.int x1), .unset, .unset, .unset, .unset] []))
  refine Go.aloadN (pc' := 157) X1394 hx hby d1_156 rfl rfl rfl ?_
  refine Go.getF (pc' := 160) X1394 hx hby hZ hown (hw _ (List.mem_of_getElem? (i := 12) rfl)) Via.refl e1395 f1399 d1_157 rfl ?_
  intro T1439 X1440 e1441
  refine Go.iconst (pc' := 161) X1440 hx hby d1_160 rfl (v := (1 : Int32)) (by decide) ?_
  refine Go.ldcI (pc' := 163) X1440 hx hby d1_161 rfl hown (mvT hZ (hw _ (List.mem_of_getElem? (i := 58) rfl))) ?_
  refine Go.iastore (pc' := 164) (i := 1) X1440 hx hby hZ e1441 f1437 d1_163 rfl (by decide) (by decide) (by decide) ?_
  intro T1442 h1443 X1444 e1445 W1446 A1447
  have f1448 : Exa Z h1443 a "com/example/glacis/glacis/analysis/Bdd" := Exa.wr W1446 f1398
  have f1449 : Fld Z h1443 a "com/example/glacis/glacis/analysis/Bdd" "level" "[I" (.ref b4) := Fld.other W1446 f1399 (Or.inl n12)
  have f1450 : Fld Z h1443 a "com/example/glacis/glacis/analysis/Bdd" "low" "[I" (.ref b61) := Fld.other W1446 f1400 (Or.inl n12)
  have f1451 : Fld Z h1443 a "com/example/glacis/glacis/analysis/Bdd" "high" "[I" (.ref b121) := Fld.other W1446 f1401 (Or.inl n12)
  have f1452 : Fld Z h1443 a "com/example/glacis/glacis/analysis/Bdd" "chain" "[I" (.ref b184) := Fld.other W1446 f1402 (Or.inl n12)
  have f1453 : Fld Z h1443 a "com/example/glacis/glacis/analysis/Bdd" "buckets" "[I" (.ref b250) := Fld.other W1446 f1403 (Or.inl n12)
  have f1454 : Fld Z h1443 a "com/example/glacis/glacis/analysis/Bdd" "probabilities" "[D" (.ref b345) := Fld.other W1446 f1404 (Or.inl n12)
  have f1455 : Fld Z h1443 a "com/example/glacis/glacis/analysis/Bdd" "computed" "[Lcom/example/glacis/glacis/analysis/Bdd$Computed;" (.ref b414) := Fld.other W1446 f1405 (Or.inl n12)
  have f1456 : Fld Z h1443 a "com/example/glacis/glacis/analysis/Bdd" "stackFirst" "[I" (.ref b772) := Fld.other W1446 f1406 (Or.inl n12)
  have f1457 : Fld Z h1443 a "com/example/glacis/glacis/analysis/Bdd" "stackSecond" "[I" (.ref b871) := Fld.other W1446 f1407 (Or.inl n12)
  have f1458 : Fld Z h1443 a "com/example/glacis/glacis/analysis/Bdd" "stackLevel" "[I" (.ref b973) := Fld.other W1446 f1408 (Or.inl n12)
  have f1459 : Fld Z h1443 a "com/example/glacis/glacis/analysis/Bdd" "stackLow" "[I" (.ref b1078) := Fld.other W1446 f1409 (Or.inl n12)
  have f1460 : Fld Z h1443 a "com/example/glacis/glacis/analysis/Bdd" "stackPhase" "[I" (.ref b1186) := Fld.other W1446 f1410 (Or.inl n12)
  have f1461 : Fld Z h1443 a "com/example/glacis/glacis/analysis/Bdd" "size" "I" (.int (2 : Int32)) := Fld.other W1446 f1411 (Or.inl n12)
  have f1462 : Fld Z h1443 a "com/example/glacis/glacis/analysis/Bdd" "variables" "I" (.int 0) := Fld.other W1446 f1412 (Or.inl n12)
  have f1463 : Fld Z h1443 a "com/example/glacis/glacis/analysis/Bdd" "slack" "I" (.int x1) := Fld.other W1446 f1413 (Or.inl n12)
  have f1464 : Fld Z h1443 a "com/example/glacis/glacis/analysis/Bdd" "collectAt" "I" (.int x1) := Fld.other W1446 f1414 (Or.inl n12)
  have f1465 : Ar Z h1443 b61 .int 1024 (fun _ => (.int 0)) := f1415.other W1446 (Ne.symm n70)
  have f1466 : Ar Z h1443 b121 .int 1024 (fun _ => (.int 0)) := f1416.other W1446 (Ne.symm n130)
  have f1467 : Ar Z h1443 b184 .int 1024 (fun _ => (.int 0)) := f1417.other W1446 (Ne.symm n193)
  have f1468 : Ar Z h1443 b250 .int 1024 (fun _ => (.int 0)) := f1418.other W1446 (Ne.symm n259)
  have f1469 : Ar Z h1443 b345 .double 16 (fun _ => (.double 0)) := f1419.other W1446 (Ne.symm n354)
  have f1470 : Ar Z h1443 b414 (.object "com/example/glacis/glacis/analysis/Bdd$Computed") 2 (fun q => if q = 1 then (.ref b584) else if q = 0 then (.ref b457) else .null) := f1420.other W1446 (Ne.symm n424)
  have f1471 : Exa Z h1443 b457 "com/example/glacis/glacis/analysis/Bdd$Computed" := Exa.wr W1446 f1421
  have f1472 : Fld Z h1443 b457 "com/example/glacis/glacis/analysis/Bdd$Computed" "first" "[I" (.ref xc0_) := Fld.other W1446 f1422 (Or.inl (Ne.symm n467))
  have f1473 : Fld Z h1443 b457 "com/example/glacis/glacis/analysis/Bdd$Computed" "second" "[I" (.ref yc0_) := Fld.other W1446 f1423 (Or.inl (Ne.symm n467))
  have f1474 : Fld Z h1443 b457 "com/example/glacis/glacis/analysis/Bdd$Computed" "result" "[I" (.ref zc0_) := Fld.other W1446 f1424 (Or.inl (Ne.symm n467))
  have f1475 : Ar Z h1443 xc0_ .int 0 (fun _ => .int 0) := f1425.other W1446 (Ne.symm n510)
  have f1476 : Exa Z h1443 b584 "com/example/glacis/glacis/analysis/Bdd$Computed" := Exa.wr W1446 f1426
  have f1477 : Fld Z h1443 b584 "com/example/glacis/glacis/analysis/Bdd$Computed" "first" "[I" (.ref xc1_) := Fld.other W1446 f1427 (Or.inl (Ne.symm n594))
  have f1478 : Fld Z h1443 b584 "com/example/glacis/glacis/analysis/Bdd$Computed" "second" "[I" (.ref yc1_) := Fld.other W1446 f1428 (Or.inl (Ne.symm n594))
  have f1479 : Fld Z h1443 b584 "com/example/glacis/glacis/analysis/Bdd$Computed" "result" "[I" (.ref zc1_) := Fld.other W1446 f1429 (Or.inl (Ne.symm n594))
  have f1480 : Ar Z h1443 xc1_ .int 0 (fun _ => .int 0) := f1430.other W1446 (Ne.symm n644)
  have f1481 : Ar Z h1443 b772 .int 64 (fun _ => (.int 0)) := f1431.other W1446 (Ne.symm n781)
  have f1482 : Ar Z h1443 b871 .int 64 (fun _ => (.int 0)) := f1432.other W1446 (Ne.symm n880)
  have f1483 : Ar Z h1443 b973 .int 64 (fun _ => (.int 0)) := f1433.other W1446 (Ne.symm n982)
  have f1484 : Ar Z h1443 b1078 .int 64 (fun _ => (.int 0)) := f1434.other W1446 (Ne.symm n1087)
  have f1485 : Ar Z h1443 b1186 .int 64 (fun _ => (.int 0)) := f1435.other W1446 (Ne.symm n1195)
  have z1486 : n0 ≤ h1443.size := by rw [Wr.size W1446]; exact z1436
  have f1487 : Ar Z h1443 b4 .int 1024 (fun q => if q = 1 then (.int (2147483647 : Int32)) else if q = 0 then (.int (2147483647 : Int32)) else (.int 0)) := A1447
  have N1488 : Fr n0 _ := Fr.snoc X1444 N1438 g13
  show Go p e below _ (T1442.setTop (mkF m 164 #[.val (.ref a), .val (.int x1), .unset, .unset, .unset, .unset] []))
  refine Go.aloadN (pc' := 165) X1444 hx hby d1_164 rfl rfl rfl ?_
  refine Go.getF (pc' := 168) X1444 hx hby hZ hown (hw _ (List.mem_of_getElem? (i := 20) rfl)) Via.refl e1445 f1453 d1_165 rfl ?_
  intro T1489 X1490 e1491
  refine Go.iconst (pc' := 169) X1490 hx hby d1_168 rfl (v := (-1 : Int32)) (by decide) ?_
  refine Go.callS (pc' := 172) (W := 0) (argsL := [(.ref b250), (.int (-1 : Int32))]) (rest := []) X1490 hx hby hZ hown (hw _ (List.mem_of_getElem? (i := 59) rfl)) (hw _ (List.mem_of_getElem? (i := 60) rfl)) (hw _ (List.mem_of_getElem? (i := 61) rfl)) (hw _ (List.mem_of_getElem? (i := 62) rfl)) (by decide) (rmF l Z a0 hw b250 (-1) h1443 n0 1024 _ g263 f1468) e1491 (by decide) (by decide) (by rw [hml]; rfl) pd_11 rfl rfl rfl (Nat.le_of_eq rfl) d1_169 rfl (by decide) (by decide) ?_
  rintro r1492 T1493 L1494 X1495 ⟨rfl, Nf_, Kf_, Af_⟩
  have f1496 : Exa Z T1493.heap a "com/example/glacis/glacis/analysis/Bdd" := f1448.keep Kf_
  have f1497 : Fld Z T1493.heap a "com/example/glacis/glacis/analysis/Bdd" "level" "[I" (.ref b4) := f1449.keep Kf_ (ninS n258 nin0)
  have f1498 : Fld Z T1493.heap a "com/example/glacis/glacis/analysis/Bdd" "low" "[I" (.ref b61) := f1450.keep Kf_ (ninS n258 nin0)
  have f1499 : Fld Z T1493.heap a "com/example/glacis/glacis/analysis/Bdd" "high" "[I" (.ref b121) := f1451.keep Kf_ (ninS n258 nin0)
  have f1500 : Fld Z T1493.heap a "com/example/glacis/glacis/analysis/Bdd" "chain" "[I" (.ref b184) := f1452.keep Kf_ (ninS n258 nin0)
  have f1501 : Fld Z T1493.heap a "com/example/glacis/glacis/analysis/Bdd" "buckets" "[I" (.ref b250) := f1453.keep Kf_ (ninS n258 nin0)
  have f1502 : Fld Z T1493.heap a "com/example/glacis/glacis/analysis/Bdd" "probabilities" "[D" (.ref b345) := f1454.keep Kf_ (ninS n258 nin0)
  have f1503 : Fld Z T1493.heap a "com/example/glacis/glacis/analysis/Bdd" "computed" "[Lcom/example/glacis/glacis/analysis/Bdd$Computed;" (.ref b414) := f1455.keep Kf_ (ninS n258 nin0)
  have f1504 : Fld Z T1493.heap a "com/example/glacis/glacis/analysis/Bdd" "stackFirst" "[I" (.ref b772) := f1456.keep Kf_ (ninS n258 nin0)
  have f1505 : Fld Z T1493.heap a "com/example/glacis/glacis/analysis/Bdd" "stackSecond" "[I" (.ref b871) := f1457.keep Kf_ (ninS n258 nin0)
  have f1506 : Fld Z T1493.heap a "com/example/glacis/glacis/analysis/Bdd" "stackLevel" "[I" (.ref b973) := f1458.keep Kf_ (ninS n258 nin0)
  have f1507 : Fld Z T1493.heap a "com/example/glacis/glacis/analysis/Bdd" "stackLow" "[I" (.ref b1078) := f1459.keep Kf_ (ninS n258 nin0)
  have f1508 : Fld Z T1493.heap a "com/example/glacis/glacis/analysis/Bdd" "stackPhase" "[I" (.ref b1186) := f1460.keep Kf_ (ninS n258 nin0)
  have f1509 : Fld Z T1493.heap a "com/example/glacis/glacis/analysis/Bdd" "size" "I" (.int (2 : Int32)) := f1461.keep Kf_ (ninS n258 nin0)
  have f1510 : Fld Z T1493.heap a "com/example/glacis/glacis/analysis/Bdd" "variables" "I" (.int 0) := f1462.keep Kf_ (ninS n258 nin0)
  have f1511 : Fld Z T1493.heap a "com/example/glacis/glacis/analysis/Bdd" "slack" "I" (.int x1) := f1463.keep Kf_ (ninS n258 nin0)
  have f1512 : Fld Z T1493.heap a "com/example/glacis/glacis/analysis/Bdd" "collectAt" "I" (.int x1) := f1464.keep Kf_ (ninS n258 nin0)
  have f1513 : Ar Z T1493.heap b4 .int 1024 (fun q => if q = 1 then (.int (2147483647 : Int32)) else if q = 0 then (.int (2147483647 : Int32)) else (.int 0)) := f1487.keep Kf_ (ninS n259 nin0)
  have f1514 : Ar Z T1493.heap b61 .int 1024 (fun _ => (.int 0)) := f1465.keep Kf_ (ninS n260 nin0)
  have f1515 : Ar Z T1493.heap b121 .int 1024 (fun _ => (.int 0)) := f1466.keep Kf_ (ninS n261 nin0)
  have f1516 : Ar Z T1493.heap b184 .int 1024 (fun _ => (.int 0)) := f1467.keep Kf_ (ninS n262 nin0)
  have f1517 : Ar Z T1493.heap b345 .double 16 (fun _ => (.double 0)) := f1469.keep Kf_ (ninS (Ne.symm n358) nin0)
  have f1518 : Ar Z T1493.heap b414 (.object "com/example/glacis/glacis/analysis/Bdd$Computed") 2 (fun q => if q = 1 then (.ref b584) else if q = 0 then (.ref b457) else .null) := f1470.keep Kf_ (ninS (Ne.symm n428) nin0)
  have f1519 : Exa Z T1493.heap b457 "com/example/glacis/glacis/analysis/Bdd$Computed" := f1471.keep Kf_
  have f1520 : Fld Z T1493.heap b457 "com/example/glacis/glacis/analysis/Bdd$Computed" "first" "[I" (.ref xc0_) := f1472.keep Kf_ (ninS (Ne.symm n471) nin0)
  have f1521 : Fld Z T1493.heap b457 "com/example/glacis/glacis/analysis/Bdd$Computed" "second" "[I" (.ref yc0_) := f1473.keep Kf_ (ninS (Ne.symm n471) nin0)
  have f1522 : Fld Z T1493.heap b457 "com/example/glacis/glacis/analysis/Bdd$Computed" "result" "[I" (.ref zc0_) := f1474.keep Kf_ (ninS (Ne.symm n471) nin0)
  have f1523 : Ar Z T1493.heap xc0_ .int 0 (fun _ => .int 0) := f1475.keep Kf_ (ninS (Ne.symm n514) nin0)
  have f1524 : Exa Z T1493.heap b584 "com/example/glacis/glacis/analysis/Bdd$Computed" := f1476.keep Kf_
  have f1525 : Fld Z T1493.heap b584 "com/example/glacis/glacis/analysis/Bdd$Computed" "first" "[I" (.ref xc1_) := f1477.keep Kf_ (ninS (Ne.symm n598) nin0)
  have f1526 : Fld Z T1493.heap b584 "com/example/glacis/glacis/analysis/Bdd$Computed" "second" "[I" (.ref yc1_) := f1478.keep Kf_ (ninS (Ne.symm n598) nin0)
  have f1527 : Fld Z T1493.heap b584 "com/example/glacis/glacis/analysis/Bdd$Computed" "result" "[I" (.ref zc1_) := f1479.keep Kf_ (ninS (Ne.symm n598) nin0)
  have f1528 : Ar Z T1493.heap xc1_ .int 0 (fun _ => .int 0) := f1480.keep Kf_ (ninS (Ne.symm n648) nin0)
  have f1529 : Ar Z T1493.heap b772 .int 64 (fun _ => (.int 0)) := f1481.keep Kf_ (ninS (Ne.symm n785) nin0)
  have f1530 : Ar Z T1493.heap b871 .int 64 (fun _ => (.int 0)) := f1482.keep Kf_ (ninS (Ne.symm n884) nin0)
  have f1531 : Ar Z T1493.heap b973 .int 64 (fun _ => (.int 0)) := f1483.keep Kf_ (ninS (Ne.symm n986) nin0)
  have f1532 : Ar Z T1493.heap b1078 .int 64 (fun _ => (.int 0)) := f1484.keep Kf_ (ninS (Ne.symm n1091) nin0)
  have f1533 : Ar Z T1493.heap b1186 .int 64 (fun _ => (.int 0)) := f1485.keep Kf_ (ninS (Ne.symm n1199) nin0)
  have z1534 : n0 ≤ T1493.heap.size := Nat.le_trans z1486 Kf_.1
  have Ag_ : Ar Z T1493.heap b250 .int 1024 (fun _ => .int (-1)) := Af_
  show Go p e below _ (T1493.setTop (mkF m 172 #[.val (.ref a), .val (.int x1), .unset, .unset, .unset, .unset] []))
  refine Go.aloadN (pc' := 173) X1495 hx hby d1_172 rfl rfl rfl ?_
  refine Go.getF (pc' := 176) X1495 hx hby hZ hown (hw _ (List.mem_of_getElem? (i := 42) rfl)) Via.refl rfl f1503 d1_173 rfl ?_
  intro T1535 X1536 e1537
  refine Go.astoreN (Ls' := #[.val (.ref a), .val (.int x1), .val (.ref b414), .unset, .unset, .unset]) (pc' := 177) X1536 hx hby d1_176 rfl rfl rfl ?_
  refine Go.aloadN (pc' := 178) X1536 hx hby d1_177 rfl rfl rfl ?_
  refine Go.alen (pc' := 179) (zv := (2 : Int32)) X1536 hx hby hZ e1537 f1518 d1_178 rfl (by decide) ?_
  refine Go.istoreN (Ls' := #[.val (.ref a), .val (.int x1), .val (.ref b414), .val (.int (2 : Int32)), .unset, .unset]) (pc' := 180) X1536 hx hby d1_179 rfl rfl ?_
  refine Go.iconst (pc' := 181) X1536 hx hby d1_180 rfl (v := (0 : Int32)) (by decide) ?_
  refine Go.istore (Ls' := #[.val (.ref a), .val (.int x1), .val (.ref b414), .val (.int (2 : Int32)), .val (.int (0 : Int32)), .unset]) (pc' := 183) X1536 hx hby d1_181 rfl rfl ?_
  refine Go.iload (pc' := 185) X1536 hx hby d1_183 rfl rfl ?_
  refine Go.iloadN (pc' := 186) X1536 hx hby d1_185 rfl rfl ?_
  refine Go.icmpN (pc' := 189) X1536 hx hby d1_186 rfl (show ¬ ((2 : Int32) ≤ (0 : Int32)) from by decide) ?_
  refine Go.aloadN (pc' := 190) X1536 hx hby d1_189 rfl rfl rfl ?_
  refine Go.iload (pc' := 192) X1536 hx hby d1_190 rfl rfl ?_
  refine Go.aaload (pc' := 193) (i := 0) (v := (.ref b457)) X1536 hx hby hZ e1537 f1518 rfl d1_192 rfl (by decide) (by decide) (by decide) rfl ?_
  refine Go.astore (Ls' := #[.val (.ref a), .val (.int x1), .val (.ref b414), .val (.int (2 : Int32)), .val (.int (0 : Int32)), .val (.ref b457)]) (pc' := 195) X1536 hx hby d1_193 rfl rfl rfl ?_
  refine Go.aload (pc' := 197) X1536 hx hby d1_195 rfl rfl rfl ?_
  refine Go.aloadN (pc' := 198) X1536 hx hby d1_197 rfl rfl rfl ?_
  refine Go.getF (pc' := 201) X1536 hx hby hZ hown (hw _ (List.mem_of_getElem? (i := 12) rfl)) Via.refl e1537 f1497 d1_198 rfl ?_
  intro T1538 X1539 e1540
  refine Go.alen (pc' := 202) (zv := (1024 : Int32)) X1539 hx hby hZ e1540 f1513 d1_201 rfl (by decide) ?_
  refine Go.callV (C := "com/example/glacis/glacis/analysis/Bdd$Computed") (pc' := 205) (a := b457) (W := 0) (argsL := [(.int (1024 : Int32))]) (rest := []) X1539 hx hby hZ hown (hw _ (List.mem_of_getElem? (i := 63) rfl)) (hw _ (List.mem_of_getElem? (i := 64) rfl)) (notFace_of_selects (args := #[]) (mvT hZ (hw _ (List.mem_of_getElem? (i := 66) rfl)))) (hw _ (List.mem_of_getElem? (i := 66) rfl)) (hw _ (List.mem_of_getElem? (i := 65) rfl)) (hw _ (List.mem_of_getElem? (i := 30) rfl)) (hw _ (List.mem_of_getElem? (i := 67) rfl)) (by decide) (rmCR l Z a0 hw b457 1024 T1493.heap n0 xc0_ yc0_ zc0_ z1534 g474 rfl f1519 f1520 f1521 f1522 f1523) e1540 f1519 (by decide) (by decide) (by rw [hml]; rfl) pd_5 rfl rfl rfl (Nat.le_of_eq rfl) d1_202 rfl (by decide) (by decide) ?_
  rintro r1541 T1542 L1543 X1544 ⟨fr0_, sr0_, tr0_, rfl, gxr0_, lar0_, lbr0_, Nr0_, Kr0_, Er0_, Fr0_, Gr0_, Hr0_, Ar0_, Br0_, Cr0_⟩
  have gyr0_ : _ ≤ sr0_ := Nat.le_trans gxr0_ (Nat.le_of_lt lar0_)
  have gzr0_ : _ ≤ tr0_ := Nat.le_trans gyr0_ (Nat.le_of_lt lbr0_)
  have n1545 : a ≠ fr0_ := Nat.ne_of_lt (Nat.lt_of_lt_of_le f1496.lt gxr0_)
  have n1546 : b4 ≠ fr0_ := Nat.ne_of_lt (Nat.lt_of_lt_of_le f1513.lt gxr0_)
  have n1547 : b61 ≠ fr0_ := Nat.ne_of_lt (Nat.lt_of_lt_of_le f1514.lt gxr0_)
  have n1548 : b121 ≠ fr0_ := Nat.ne_of_lt (Nat.lt_of_lt_of_le f1515.lt gxr0_)
  have n1549 : b184 ≠ fr0_ := Nat.ne_of_lt (Nat.lt_of_lt_of_le f1516.lt gxr0_)
  have n1550 : b345 ≠ fr0_ := Nat.ne_of_lt (Nat.lt_of_lt_of_le f1517.lt gxr0_)
  have n1551 : b414 ≠ fr0_ := Nat.ne_of_lt (Nat.lt_of_lt_of_le f1518.lt gxr0_)
  have n1552 : b457 ≠ fr0_ := Nat.ne_of_lt (Nat.lt_of_lt_of_le f1519.lt gxr0_)
  have n1553 : xc0_ ≠ fr0_ := Nat.ne_of_lt (Nat.lt_of_lt_of_le f1523.lt gxr0_)
  have n1554 : b584 ≠ fr0_ := Nat.ne_of_lt (Nat.lt_of_lt_of_le f1524.lt gxr0_)
  have n1555 : xc1_ ≠ fr0_ := Nat.ne_of_lt (Nat.lt_of_lt_of_le f1528.lt gxr0_)
  have n1556 : b772 ≠ fr0_ := Nat.ne_of_lt (Nat.lt_of_lt_of_le f1529.lt gxr0_)
  have n1557 : b871 ≠ fr0_ := Nat.ne_of_lt (Nat.lt_of_lt_of_le f1530.lt gxr0_)
  have n1558 : b973 ≠ fr0_ := Nat.ne_of_lt (Nat.lt_of_lt_of_le f1531.lt gxr0_)
  have n1559 : b1078 ≠ fr0_ := Nat.ne_of_lt (Nat.lt_of_lt_of_le f1532.lt gxr0_)
  have n1560 : b1186 ≠ fr0_ := Nat.ne_of_lt (Nat.lt_of_lt_of_le f1533.lt gxr0_)
  have n1561 : b250 ≠ fr0_ := Nat.ne_of_lt (Nat.lt_of_lt_of_le Ag_.lt gxr0_)
  have n1562 : a ≠ sr0_ := Nat.ne_of_lt (Nat.lt_of_lt_of_le f1496.lt gyr0_)
  have n1563 : b4 ≠ sr0_ := Nat.ne_of_lt (Nat.lt_of_lt_of_le f1513.lt gyr0_)
  have n1564 : b61 ≠ sr0_ := Nat.ne_of_lt (Nat.lt_of_lt_of_le f1514.lt gyr0_)
  have n1565 : b121 ≠ sr0_ := Nat.ne_of_lt (Nat.lt_of_lt_of_le f1515.lt gyr0_)
  have n1566 : b184 ≠ sr0_ := Nat.ne_of_lt (Nat.lt_of_lt_of_le f1516.lt gyr0_)
  have n1567 : b345 ≠ sr0_ := Nat.ne_of_lt (Nat.lt_of_lt_of_le f1517.lt gyr0_)
  have n1568 : b414 ≠ sr0_ := Nat.ne_of_lt (Nat.lt_of_lt_of_le f1518.lt gyr0_)
  have n1569 : b457 ≠ sr0_ := Nat.ne_of_lt (Nat.lt_of_lt_of_le f1519.lt gyr0_)
  have n1570 : xc0_ ≠ sr0_ := Nat.ne_of_lt (Nat.lt_of_lt_of_le f1523.lt gyr0_)
  have n1571 : b584 ≠ sr0_ := Nat.ne_of_lt (Nat.lt_of_lt_of_le f1524.lt gyr0_)
  have n1572 : xc1_ ≠ sr0_ := Nat.ne_of_lt (Nat.lt_of_lt_of_le f1528.lt gyr0_)
  have n1573 : b772 ≠ sr0_ := Nat.ne_of_lt (Nat.lt_of_lt_of_le f1529.lt gyr0_)
  have n1574 : b871 ≠ sr0_ := Nat.ne_of_lt (Nat.lt_of_lt_of_le f1530.lt gyr0_)
  have n1575 : b973 ≠ sr0_ := Nat.ne_of_lt (Nat.lt_of_lt_of_le f1531.lt gyr0_)
  have n1576 : b1078 ≠ sr0_ := Nat.ne_of_lt (Nat.lt_of_lt_of_le f1532.lt gyr0_)
  have n1577 : b1186 ≠ sr0_ := Nat.ne_of_lt (Nat.lt_of_lt_of_le f1533.lt gyr0_)
  have n1578 : b250 ≠ sr0_ := Nat.ne_of_lt (Nat.lt_of_lt_of_le Ag_.lt gyr0_)
  have n1579 : a ≠ tr0_ := Nat.ne_of_lt (Nat.lt_of_lt_of_le f1496.lt gzr0_)
  have n1580 : b4 ≠ tr0_ := Nat.ne_of_lt (Nat.lt_of_lt_of_le f1513.lt gzr0_)
  have n1581 : b61 ≠ tr0_ := Nat.ne_of_lt (Nat.lt_of_lt_of_le f1514.lt gzr0_)
  have n1582 : b121 ≠ tr0_ := Nat.ne_of_lt (Nat.lt_of_lt_of_le f1515.lt gzr0_)
  have n1583 : b184 ≠ tr0_ := Nat.ne_of_lt (Nat.lt_of_lt_of_le f1516.lt gzr0_)
  have n1584 : b345 ≠ tr0_ := Nat.ne_of_lt (Nat.lt_of_lt_of_le f1517.lt gzr0_)
  have n1585 : b414 ≠ tr0_ := Nat.ne_of_lt (Nat.lt_of_lt_of_le f1518.lt gzr0_)
  have n1586 : b457 ≠ tr0_ := Nat.ne_of_lt (Nat.lt_of_lt_of_le f1519.lt gzr0_)
  have n1587 : xc0_ ≠ tr0_ := Nat.ne_of_lt (Nat.lt_of_lt_of_le f1523.lt gzr0_)
  have n1588 : b584 ≠ tr0_ := Nat.ne_of_lt (Nat.lt_of_lt_of_le f1524.lt gzr0_)
  have n1589 : xc1_ ≠ tr0_ := Nat.ne_of_lt (Nat.lt_of_lt_of_le f1528.lt gzr0_)
  have n1590 : b772 ≠ tr0_ := Nat.ne_of_lt (Nat.lt_of_lt_of_le f1529.lt gzr0_)
  have n1591 : b871 ≠ tr0_ := Nat.ne_of_lt (Nat.lt_of_lt_of_le f1530.lt gzr0_)
  have n1592 : b973 ≠ tr0_ := Nat.ne_of_lt (Nat.lt_of_lt_of_le f1531.lt gzr0_)
  have n1593 : b1078 ≠ tr0_ := Nat.ne_of_lt (Nat.lt_of_lt_of_le f1532.lt gzr0_)
  have n1594 : b1186 ≠ tr0_ := Nat.ne_of_lt (Nat.lt_of_lt_of_le f1533.lt gzr0_)
  have n1595 : b250 ≠ tr0_ := Nat.ne_of_lt (Nat.lt_of_lt_of_le Ag_.lt gzr0_)
  have l12_ : b1186 < fr0_ := Nat.lt_of_lt_of_le f1533.lt gxr0_
  have l13_ := lar0_
  have l14_ := lbr0_
  have f1596 : Exa Z T1542.heap a "com/example/glacis/glacis/analysis/Bdd" := f1496.keep Kr0_
  have f1597 : Fld Z T1542.heap a "com/example/glacis/glacis/analysis/Bdd" "level" "[I" (.ref b4) := f1497.keep Kr0_ (ninS n466 nin0)
  have f1598 : Fld Z T1542.heap a "com/example/glacis/glacis/analysis/Bdd" "low" "[I" (.ref b61) := f1498.keep Kr0_ (ninS n466 nin0)
  have f1599 : Fld Z T1542.heap a "com/example/glacis/glacis/analysis/Bdd" "high" "[I" (.ref b121) := f1499.keep Kr0_ (ninS n466 nin0)
  have f1600 : Fld Z T1542.heap a "com/example/glacis/glacis/analysis/Bdd" "chain" "[I" (.ref b184) := f1500.keep Kr0_ (ninS n466 nin0)
  have f1601 : Fld Z T1542.heap a "com/example/glacis/glacis/analysis/Bdd" "buckets" "[I" (.ref b250) := f1501.keep Kr0_ (ninS n466 nin0)
  have f1602 : Fld Z T1542.heap a "com/example/glacis/glacis/analysis/Bdd" "probabilities" "[D" (.ref b345) := f1502.keep Kr0_ (ninS n466 nin0)
  have f1603 : Fld Z T1542.heap a "com/example/glacis/glacis/analysis/Bdd" "computed" "[Lcom/example/glacis/glacis/analysis/Bdd$Computed;" (.ref b414) := f1503.keep Kr0_ (ninS n466 nin0)
  have f1604 : Fld Z T1542.heap a "com/example/glacis/glacis/analysis/Bdd" "stackFirst" "[I" (.ref b772) := f1504.keep Kr0_ (ninS n466 nin0)
  have f1605 : Fld Z T1542.heap a "com/example/glacis/glacis/analysis/Bdd" "stackSecond" "[I" (.ref b871) := f1505.keep Kr0_ (ninS n466 nin0)
  have f1606 : Fld Z T1542.heap a "com/example/glacis/glacis/analysis/Bdd" "stackLevel" "[I" (.ref b973) := f1506.keep Kr0_ (ninS n466 nin0)
  have f1607 : Fld Z T1542.heap a "com/example/glacis/glacis/analysis/Bdd" "stackLow" "[I" (.ref b1078) := f1507.keep Kr0_ (ninS n466 nin0)
  have f1608 : Fld Z T1542.heap a "com/example/glacis/glacis/analysis/Bdd" "stackPhase" "[I" (.ref b1186) := f1508.keep Kr0_ (ninS n466 nin0)
  have f1609 : Fld Z T1542.heap a "com/example/glacis/glacis/analysis/Bdd" "size" "I" (.int (2 : Int32)) := f1509.keep Kr0_ (ninS n466 nin0)
  have f1610 : Fld Z T1542.heap a "com/example/glacis/glacis/analysis/Bdd" "variables" "I" (.int 0) := f1510.keep Kr0_ (ninS n466 nin0)
  have f1611 : Fld Z T1542.heap a "com/example/glacis/glacis/analysis/Bdd" "slack" "I" (.int x1) := f1511.keep Kr0_ (ninS n466 nin0)
  have f1612 : Fld Z T1542.heap a "com/example/glacis/glacis/analysis/Bdd" "collectAt" "I" (.int x1) := f1512.keep Kr0_ (ninS n466 nin0)
  have f1613 : Ar Z T1542.heap b4 .int 1024 (fun q => if q = 1 then (.int (2147483647 : Int32)) else if q = 0 then (.int (2147483647 : Int32)) else (.int 0)) := f1513.keep Kr0_ (ninS n467 nin0)
  have f1614 : Ar Z T1542.heap b61 .int 1024 (fun _ => (.int 0)) := f1514.keep Kr0_ (ninS n468 nin0)
  have f1615 : Ar Z T1542.heap b121 .int 1024 (fun _ => (.int 0)) := f1515.keep Kr0_ (ninS n469 nin0)
  have f1616 : Ar Z T1542.heap b184 .int 1024 (fun _ => (.int 0)) := f1516.keep Kr0_ (ninS n470 nin0)
  have f1617 : Ar Z T1542.heap b345 .double 16 (fun _ => (.double 0)) := f1517.keep Kr0_ (ninS n472 nin0)
  have f1618 : Ar Z T1542.heap b414 (.object "com/example/glacis/glacis/analysis/Bdd$Computed") 2 (fun q => if q = 1 then (.ref b584) else if q = 0 then (.ref b457) else .null) := f1518.keep Kr0_ (ninS n473 nin0)
  have f1619 : Exa Z T1542.heap b457 "com/example/glacis/glacis/analysis/Bdd$Computed" := f1519.keep Kr0_
  have f1620 : Ar Z T1542.heap xc0_ .int 0 (fun _ => .int 0) := f1523.keep Kr0_ (ninS (Ne.symm n517) nin0)
  have f1621 : Exa Z T1542.heap b584 "com/example/glacis/glacis/analysis/Bdd$Computed" := f1524.keep Kr0_
  have f1622 : Fld Z T1542.heap b584 "com/example/glacis/glacis/analysis/Bdd$Computed" "first" "[I" (.ref xc1_) := f1525.keep Kr0_ (ninS (Ne.symm n601) nin0)
  have f1623 : Fld Z T1542.heap b584 "com/example/glacis/glacis/analysis/Bdd$Computed" "second" "[I" (.ref yc1_) := f1526.keep Kr0_ (ninS (Ne.symm n601) nin0)
  have f1624 : Fld Z T1542.heap b584 "com/example/glacis/glacis/analysis/Bdd$Computed" "result" "[I" (.ref zc1_) := f1527.keep Kr0_ (ninS (Ne.symm n601) nin0)
  have f1625 : Ar Z T1542.heap xc1_ .int 0 (fun _ => .int 0) := f1528.keep Kr0_ (ninS (Ne.symm n651) nin0)
  have f1626 : Ar Z T1542.heap b772 .int 64 (fun _ => (.int 0)) := f1529.keep Kr0_ (ninS (Ne.symm n788) nin0)
  have f1627 : Ar Z T1542.heap b871 .int 64 (fun _ => (.int 0)) := f1530.keep Kr0_ (ninS (Ne.symm n887) nin0)
  have f1628 : Ar Z T1542.heap b973 .int 64 (fun _ => (.int 0)) := f1531.keep Kr0_ (ninS (Ne.symm n989) nin0)
  have f1629 : Ar Z T1542.heap b1078 .int 64 (fun _ => (.int 0)) := f1532.keep Kr0_ (ninS (Ne.symm n1094) nin0)
  have f1630 : Ar Z T1542.heap b1186 .int 64 (fun _ => (.int 0)) := f1533.keep Kr0_ (ninS (Ne.symm n1202) nin0)
  have f1631 : Ar Z T1542.heap b250 .int 1024 (fun _ => .int (-1)) := Ag_.keep Kr0_ (ninS n471 nin0)
  have z1632 : n0 ≤ T1542.heap.size := Nat.le_trans z1534 Kr0_.1
  show Go p e below _ (T1542.setTop (mkF m 205 #[.val (.ref a), .val (.int x1), .val (.ref b414), .val (.int (2 : Int32)), .val (.int (0 : Int32)), .val (.ref b457)] []))
  refine Go.iinc (w := (0 : Int32) + (1 : Int32)) (Ls' := #[.val (.ref a), .val (.int x1), .val (.ref b414), .val (.int (2 : Int32)), .val (.int ((0 : Int32) + (1 : Int32))), .val (.ref b457)]) (pc' := 208) X1544 hx hby d1_205 rfl rfl rfl rfl ?_
  change Go p e below _ (T1542.setTop (mkF m 208 #[.val (.ref a), .val (.int x1), .val (.ref b414), .val (.int (2 : Int32)), .val (.int (1 : Int32)), .val (.ref b457)] []))
  refine Go.goto (pc' := 183) X1544 hx hby d1_208 (by decide) (by decide) ?_
  refine Go.iload (pc' := 185) X1544 hx hby d1_183 rfl rfl ?_
  refine Go.iloadN (pc' := 186) X1544 hx hby d1_185 rfl rfl ?_
  refine Go.icmpN (pc' := 189) X1544 hx hby d1_186 rfl (show ¬ ((2 : Int32) ≤ (1 : Int32)) from by decide) ?_
  refine Go.aloadN (pc' := 190) X1544 hx hby d1_189 rfl rfl rfl ?_
  refine Go.iload (pc' := 192) X1544 hx hby d1_190 rfl rfl ?_
  refine Go.aaload (pc' := 193) (i := 1) (v := (.ref b584)) X1544 hx hby hZ rfl f1618 rfl d1_192 rfl (by decide) (by decide) (by decide) rfl ?_
  refine Go.astore (Ls' := #[.val (.ref a), .val (.int x1), .val (.ref b414), .val (.int (2 : Int32)), .val (.int (1 : Int32)), .val (.ref b584)]) (pc' := 195) X1544 hx hby d1_193 rfl rfl rfl ?_
  refine Go.aload (pc' := 197) X1544 hx hby d1_195 rfl rfl rfl ?_
  refine Go.aloadN (pc' := 198) X1544 hx hby d1_197 rfl rfl rfl ?_
  refine Go.getF (pc' := 201) X1544 hx hby hZ hown (hw _ (List.mem_of_getElem? (i := 12) rfl)) Via.refl rfl f1597 d1_198 rfl ?_
  intro T1633 X1634 e1635
  refine Go.alen (pc' := 202) (zv := (1024 : Int32)) X1634 hx hby hZ e1635 f1613 d1_201 rfl (by decide) ?_
  refine Go.callV (C := "com/example/glacis/glacis/analysis/Bdd$Computed") (pc' := 205) (a := b584) (W := 0) (argsL := [(.int (1024 : Int32))]) (rest := []) X1634 hx hby hZ hown (hw _ (List.mem_of_getElem? (i := 63) rfl)) (hw _ (List.mem_of_getElem? (i := 64) rfl)) (notFace_of_selects (args := #[]) (mvT hZ (hw _ (List.mem_of_getElem? (i := 66) rfl)))) (hw _ (List.mem_of_getElem? (i := 66) rfl)) (hw _ (List.mem_of_getElem? (i := 65) rfl)) (hw _ (List.mem_of_getElem? (i := 30) rfl)) (hw _ (List.mem_of_getElem? (i := 67) rfl)) (by decide) (rmCR l Z a0 hw b584 1024 T1542.heap n0 xc1_ yc1_ zc1_ z1632 g603 rfl f1621 f1622 f1623 f1624 f1625) e1635 f1621 (by decide) (by decide) (by rw [hml]; rfl) pd_5 rfl rfl rfl (Nat.le_of_eq rfl) d1_202 rfl (by decide) (by decide) ?_
  rintro r1636 T1637 L1638 X1639 ⟨fr1_, sr1_, tr1_, rfl, gxr1_, lar1_, lbr1_, Nr1_, Kr1_, Er1_, Fr1_, Gr1_, Hr1_, Ar1_, Br1_, Cr1_⟩
  have gyr1_ : _ ≤ sr1_ := Nat.le_trans gxr1_ (Nat.le_of_lt lar1_)
  have gzr1_ : _ ≤ tr1_ := Nat.le_trans gyr1_ (Nat.le_of_lt lbr1_)
  have n1640 : a ≠ fr1_ := Nat.ne_of_lt (Nat.lt_of_lt_of_le f1596.lt gxr1_)
  have n1641 : b4 ≠ fr1_ := Nat.ne_of_lt (Nat.lt_of_lt_of_le f1613.lt gxr1_)
  have n1642 : b61 ≠ fr1_ := Nat.ne_of_lt (Nat.lt_of_lt_of_le f1614.lt gxr1_)
  have n1643 : b121 ≠ fr1_ := Nat.ne_of_lt (Nat.lt_of_lt_of_le f1615.lt gxr1_)
  have n1644 : b184 ≠ fr1_ := Nat.ne_of_lt (Nat.lt_of_lt_of_le f1616.lt gxr1_)
  have n1645 : b345 ≠ fr1_ := Nat.ne_of_lt (Nat.lt_of_lt_of_le f1617.lt gxr1_)
  have n1646 : b414 ≠ fr1_ := Nat.ne_of_lt (Nat.lt_of_lt_of_le f1618.lt gxr1_)
  have n1647 : b457 ≠ fr1_ := Nat.ne_of_lt (Nat.lt_of_lt_of_le Er0_.lt gxr1_)
  have n1648 : xc0_ ≠ fr1_ := Nat.ne_of_lt (Nat.lt_of_lt_of_le f1620.lt gxr1_)
  have n1649 : b584 ≠ fr1_ := Nat.ne_of_lt (Nat.lt_of_lt_of_le f1621.lt gxr1_)
  have n1650 : xc1_ ≠ fr1_ := Nat.ne_of_lt (Nat.lt_of_lt_of_le f1625.lt gxr1_)
  have n1651 : b772 ≠ fr1_ := Nat.ne_of_lt (Nat.lt_of_lt_of_le f1626.lt gxr1_)
  have n1652 : b871 ≠ fr1_ := Nat.ne_of_lt (Nat.lt_of_lt_of_le f1627.lt gxr1_)
  have n1653 : b973 ≠ fr1_ := Nat.ne_of_lt (Nat.lt_of_lt_of_le f1628.lt gxr1_)
  have n1654 : b1078 ≠ fr1_ := Nat.ne_of_lt (Nat.lt_of_lt_of_le f1629.lt gxr1_)
  have n1655 : b1186 ≠ fr1_ := Nat.ne_of_lt (Nat.lt_of_lt_of_le f1630.lt gxr1_)
  have n1656 : b250 ≠ fr1_ := Nat.ne_of_lt (Nat.lt_of_lt_of_le f1631.lt gxr1_)
  have n1657 : fr0_ ≠ fr1_ := Nat.ne_of_lt (Nat.lt_of_lt_of_le Ar0_.lt gxr1_)
  have n1658 : sr0_ ≠ fr1_ := Nat.ne_of_lt (Nat.lt_of_lt_of_le Br0_.lt gxr1_)
  have n1659 : tr0_ ≠ fr1_ := Nat.ne_of_lt (Nat.lt_of_lt_of_le Cr0_.lt gxr1_)
  have n1660 : a ≠ sr1_ := Nat.ne_of_lt (Nat.lt_of_lt_of_le f1596.lt gyr1_)
  have n1661 : b4 ≠ sr1_ := Nat.ne_of_lt (Nat.lt_of_lt_of_le f1613.lt gyr1_)
  have n1662 : b61 ≠ sr1_ := Nat.ne_of_lt (Nat.lt_of_lt_of_le f1614.lt gyr1_)
  have n1663 : b121 ≠ sr1_ := Nat.ne_of_lt (Nat.lt_of_lt_of_le f1615.lt gyr1_)
  have n1664 : b184 ≠ sr1_ := Nat.ne_of_lt (Nat.lt_of_lt_of_le f1616.lt gyr1_)
  have n1665 : b345 ≠ sr1_ := Nat.ne_of_lt (Nat.lt_of_lt_of_le f1617.lt gyr1_)
  have n1666 : b414 ≠ sr1_ := Nat.ne_of_lt (Nat.lt_of_lt_of_le f1618.lt gyr1_)
  have n1667 : b457 ≠ sr1_ := Nat.ne_of_lt (Nat.lt_of_lt_of_le Er0_.lt gyr1_)
  have n1668 : xc0_ ≠ sr1_ := Nat.ne_of_lt (Nat.lt_of_lt_of_le f1620.lt gyr1_)
  have n1669 : b584 ≠ sr1_ := Nat.ne_of_lt (Nat.lt_of_lt_of_le f1621.lt gyr1_)
  have n1670 : xc1_ ≠ sr1_ := Nat.ne_of_lt (Nat.lt_of_lt_of_le f1625.lt gyr1_)
  have n1671 : b772 ≠ sr1_ := Nat.ne_of_lt (Nat.lt_of_lt_of_le f1626.lt gyr1_)
  have n1672 : b871 ≠ sr1_ := Nat.ne_of_lt (Nat.lt_of_lt_of_le f1627.lt gyr1_)
  have n1673 : b973 ≠ sr1_ := Nat.ne_of_lt (Nat.lt_of_lt_of_le f1628.lt gyr1_)
  have n1674 : b1078 ≠ sr1_ := Nat.ne_of_lt (Nat.lt_of_lt_of_le f1629.lt gyr1_)
  have n1675 : b1186 ≠ sr1_ := Nat.ne_of_lt (Nat.lt_of_lt_of_le f1630.lt gyr1_)
  have n1676 : b250 ≠ sr1_ := Nat.ne_of_lt (Nat.lt_of_lt_of_le f1631.lt gyr1_)
  have n1677 : fr0_ ≠ sr1_ := Nat.ne_of_lt (Nat.lt_of_lt_of_le Ar0_.lt gyr1_)
  have n1678 : sr0_ ≠ sr1_ := Nat.ne_of_lt (Nat.lt_of_lt_of_le Br0_.lt gyr1_)
  have n1679 : tr0_ ≠ sr1_ := Nat.ne_of_lt (Nat.lt_of_lt_of_le Cr0_.lt gyr1_)
  have n1680 : a ≠ tr1_ := Nat.ne_of_lt (Nat.lt_of_lt_of_le f1596.lt gzr1_)
  have n1681 : b4 ≠ tr1_ := Nat.ne_of_lt (Nat.lt_of_lt_of_le f1613.lt gzr1_)
  have n1682 : b61 ≠ tr1_ := Nat.ne_of_lt (Nat.lt_of_lt_of_le f1614.lt gzr1_)
  have n1683 : b121 ≠ tr1_ := Nat.ne_of_lt (Nat.lt_of_lt_of_le f1615.lt gzr1_)
  have n1684 : b184 ≠ tr1_ := Nat.ne_of_lt (Nat.lt_of_lt_of_le f1616.lt gzr1_)
  have n1685 : b345 ≠ tr1_ := Nat.ne_of_lt (Nat.lt_of_lt_of_le f1617.lt gzr1_)
  have n1686 : b414 ≠ tr1_ := Nat.ne_of_lt (Nat.lt_of_lt_of_le f1618.lt gzr1_)
  have n1687 : b457 ≠ tr1_ := Nat.ne_of_lt (Nat.lt_of_lt_of_le Er0_.lt gzr1_)
  have n1688 : xc0_ ≠ tr1_ := Nat.ne_of_lt (Nat.lt_of_lt_of_le f1620.lt gzr1_)
  have n1689 : b584 ≠ tr1_ := Nat.ne_of_lt (Nat.lt_of_lt_of_le f1621.lt gzr1_)
  have n1690 : xc1_ ≠ tr1_ := Nat.ne_of_lt (Nat.lt_of_lt_of_le f1625.lt gzr1_)
  have n1691 : b772 ≠ tr1_ := Nat.ne_of_lt (Nat.lt_of_lt_of_le f1626.lt gzr1_)
  have n1692 : b871 ≠ tr1_ := Nat.ne_of_lt (Nat.lt_of_lt_of_le f1627.lt gzr1_)
  have n1693 : b973 ≠ tr1_ := Nat.ne_of_lt (Nat.lt_of_lt_of_le f1628.lt gzr1_)
  have n1694 : b1078 ≠ tr1_ := Nat.ne_of_lt (Nat.lt_of_lt_of_le f1629.lt gzr1_)
  have n1695 : b1186 ≠ tr1_ := Nat.ne_of_lt (Nat.lt_of_lt_of_le f1630.lt gzr1_)
  have n1696 : b250 ≠ tr1_ := Nat.ne_of_lt (Nat.lt_of_lt_of_le f1631.lt gzr1_)
  have n1697 : fr0_ ≠ tr1_ := Nat.ne_of_lt (Nat.lt_of_lt_of_le Ar0_.lt gzr1_)
  have n1698 : sr0_ ≠ tr1_ := Nat.ne_of_lt (Nat.lt_of_lt_of_le Br0_.lt gzr1_)
  have n1699 : tr0_ ≠ tr1_ := Nat.ne_of_lt (Nat.lt_of_lt_of_le Cr0_.lt gzr1_)
  have l15_ : tr0_ < fr1_ := Nat.lt_of_lt_of_le Cr0_.lt gxr1_
  have l16_ := lar1_
  have l17_ := lbr1_
  have f1700 : Exa Z T1637.heap a "com/example/glacis/glacis/analysis/Bdd" := f1596.keep Kr1_
  have f1701 : Fld Z T1637.heap a "com/example/glacis/glacis/analysis/Bdd" "level" "[I" (.ref b4) := f1597.keep Kr1_ (ninS n593 nin0)
  have f1702 : Fld Z T1637.heap a "com/example/glacis/glacis/analysis/Bdd" "low" "[I" (.ref b61) := f1598.keep Kr1_ (ninS n593 nin0)
  have f1703 : Fld Z T1637.heap a "com/example/glacis/glacis/analysis/Bdd" "high" "[I" (.ref b121) := f1599.keep Kr1_ (ninS n593 nin0)
  have f1704 : Fld Z T1637.heap a "com/example/glacis/glacis/analysis/Bdd" "chain" "[I" (.ref b184) := f1600.keep Kr1_ (ninS n593 nin0)
  have f1705 : Fld Z T1637.heap a "com/example/glacis/glacis/analysis/Bdd" "buckets" "[I" (.ref b250) := f1601.keep Kr1_ (ninS n593 nin0)
  have f1706 : Fld Z T1637.heap a "com/example/glacis/glacis/analysis/Bdd" "probabilities" "[D" (.ref b345) := f1602.keep Kr1_ (ninS n593 nin0)
  have f1707 : Fld Z T1637.heap a "com/example/glacis/glacis/analysis/Bdd" "computed" "[Lcom/example/glacis/glacis/analysis/Bdd$Computed;" (.ref b414) := f1603.keep Kr1_ (ninS n593 nin0)
  have f1708 : Fld Z T1637.heap a "com/example/glacis/glacis/analysis/Bdd" "stackFirst" "[I" (.ref b772) := f1604.keep Kr1_ (ninS n593 nin0)
  have f1709 : Fld Z T1637.heap a "com/example/glacis/glacis/analysis/Bdd" "stackSecond" "[I" (.ref b871) := f1605.keep Kr1_ (ninS n593 nin0)
  have f1710 : Fld Z T1637.heap a "com/example/glacis/glacis/analysis/Bdd" "stackLevel" "[I" (.ref b973) := f1606.keep Kr1_ (ninS n593 nin0)
  have f1711 : Fld Z T1637.heap a "com/example/glacis/glacis/analysis/Bdd" "stackLow" "[I" (.ref b1078) := f1607.keep Kr1_ (ninS n593 nin0)
  have f1712 : Fld Z T1637.heap a "com/example/glacis/glacis/analysis/Bdd" "stackPhase" "[I" (.ref b1186) := f1608.keep Kr1_ (ninS n593 nin0)
  have f1713 : Fld Z T1637.heap a "com/example/glacis/glacis/analysis/Bdd" "size" "I" (.int (2 : Int32)) := f1609.keep Kr1_ (ninS n593 nin0)
  have f1714 : Fld Z T1637.heap a "com/example/glacis/glacis/analysis/Bdd" "variables" "I" (.int 0) := f1610.keep Kr1_ (ninS n593 nin0)
  have f1715 : Fld Z T1637.heap a "com/example/glacis/glacis/analysis/Bdd" "slack" "I" (.int x1) := f1611.keep Kr1_ (ninS n593 nin0)
  have f1716 : Fld Z T1637.heap a "com/example/glacis/glacis/analysis/Bdd" "collectAt" "I" (.int x1) := f1612.keep Kr1_ (ninS n593 nin0)
  have f1717 : Ar Z T1637.heap b4 .int 1024 (fun q => if q = 1 then (.int (2147483647 : Int32)) else if q = 0 then (.int (2147483647 : Int32)) else (.int 0)) := f1613.keep Kr1_ (ninS n594 nin0)
  have f1718 : Ar Z T1637.heap b61 .int 1024 (fun _ => (.int 0)) := f1614.keep Kr1_ (ninS n595 nin0)
  have f1719 : Ar Z T1637.heap b121 .int 1024 (fun _ => (.int 0)) := f1615.keep Kr1_ (ninS n596 nin0)
  have f1720 : Ar Z T1637.heap b184 .int 1024 (fun _ => (.int 0)) := f1616.keep Kr1_ (ninS n597 nin0)
  have f1721 : Ar Z T1637.heap b345 .double 16 (fun _ => (.double 0)) := f1617.keep Kr1_ (ninS n599 nin0)
  have f1722 : Ar Z T1637.heap b414 (.object "com/example/glacis/glacis/analysis/Bdd$Computed") 2 (fun q => if q = 1 then (.ref b584) else if q = 0 then (.ref b457) else .null) := f1618.keep Kr1_ (ninS n600 nin0)
  have f1723 : Exa Z T1637.heap b457 "com/example/glacis/glacis/analysis/Bdd$Computed" := Er0_.keep Kr1_
  have f1724 : Ar Z T1637.heap xc0_ .int 0 (fun _ => .int 0) := f1620.keep Kr1_ (ninS n602 nin0)
  have f1725 : Exa Z T1637.heap b584 "com/example/glacis/glacis/analysis/Bdd$Computed" := f1621.keep Kr1_
  have f1726 : Ar Z T1637.heap xc1_ .int 0 (fun _ => .int 0) := f1625.keep Kr1_ (ninS (Ne.symm n653) nin0)
  have f1727 : Ar Z T1637.heap b772 .int 64 (fun _ => (.int 0)) := f1626.keep Kr1_ (ninS (Ne.symm n790) nin0)
  have f1728 : Ar Z T1637.heap b871 .int 64 (fun _ => (.int 0)) := f1627.keep Kr1_ (ninS (Ne.symm n889) nin0)
  have f1729 : Ar Z T1637.heap b973 .int 64 (fun _ => (.int 0)) := f1628.keep Kr1_ (ninS (Ne.symm n991) nin0)
  have f1730 : Ar Z T1637.heap b1078 .int 64 (fun _ => (.int 0)) := f1629.keep Kr1_ (ninS (Ne.symm n1096) nin0)
  have f1731 : Ar Z T1637.heap b1186 .int 64 (fun _ => (.int 0)) := f1630.keep Kr1_ (ninS (Ne.symm n1204) nin0)
  have f1732 : Ar Z T1637.heap b250 .int 1024 (fun _ => .int (-1)) := f1631.keep Kr1_ (ninS n598 nin0)
  have f1733 : Fld Z T1637.heap b457 "com/example/glacis/glacis/analysis/Bdd$Computed" "first" "[I" (.ref fr0_) := Fr0_.keep Kr1_ (ninS n601 nin0)
  have f1734 : Fld Z T1637.heap b457 "com/example/glacis/glacis/analysis/Bdd$Computed" "second" "[I" (.ref sr0_) := Gr0_.keep Kr1_ (ninS n601 nin0)
  have f1735 : Fld Z T1637.heap b457 "com/example/glacis/glacis/analysis/Bdd$Computed" "result" "[I" (.ref tr0_) := Hr0_.keep Kr1_ (ninS n601 nin0)
  have f1736 : Ar Z T1637.heap fr0_ .int 1024 (fun _ => .int (-1)) := Ar0_.keep Kr1_ (ninS (Ne.symm n1554) nin0)
  have f1737 : Ar Z T1637.heap sr0_ .int 1024 (fun _ => .int 0) := Br0_.keep Kr1_ (ninS (Ne.symm n1571) nin0)
  have f1738 : Ar Z T1637.heap tr0_ .int 1024 (fun _ => .int 0) := Cr0_.keep Kr1_ (ninS (Ne.symm n1588) nin0)
  have z1739 : n0 ≤ T1637.heap.size := Nat.le_trans z1632 Kr1_.1
  show Go p e below _ (T1637.setTop (mkF m 205 #[.val (.ref a), .val (.int x1), .val (.ref b414), .val (.int (2 : Int32)), .val (.int (1 : Int32)), .val (.ref b584)] []))
  refine Go.iinc (w := (1 : Int32) + (1 : Int32)) (Ls' := #[.val (.ref a), .val (.int x1), .val (.ref b414), .val (.int (2 : Int32)), .val (.int ((1 : Int32) + (1 : Int32))), .val (.ref b584)]) (pc' := 208) X1639 hx hby d1_205 rfl rfl rfl rfl ?_
  change Go p e below _ (T1637.setTop (mkF m 208 #[.val (.ref a), .val (.int x1), .val (.ref b414), .val (.int (2 : Int32)), .val (.int (2 : Int32)), .val (.ref b584)] []))
  refine Go.goto (pc' := 183) X1639 hx hby d1_208 (by decide) (by decide) ?_
  refine Go.iload (pc' := 185) X1639 hx hby d1_183 rfl rfl ?_
  refine Go.iloadN (pc' := 186) X1639 hx hby d1_185 rfl rfl ?_
  refine Go.icmpY (pc' := 211) X1639 hx hby d1_186 (by decide) (by decide) (show (2 : Int32) ≤ (2 : Int32) from by decide) ?_
  have mo : ∀ k, k < 17 → (fun k => ([b4, b61, b121, b184, b250, b345, b414, b772, b871, b973, b1078, b1186, fr0_, sr0_, tr0_, fr1_, sr1_, tr1_] : List Addr).getD k 0) k < (fun k => ([b4, b61, b121, b184, b250, b345, b414, b772, b871, b973, b1078, b1186, fr0_, sr0_, tr0_, fr1_, sr1_, tr1_] : List Addr).getD k 0) (k + 1) := fun k hk => by
      have t : k = 0 ∨ k = 1 ∨ k = 2 ∨ k = 3 ∨ k = 4 ∨ k = 5 ∨ k = 6 ∨ k = 7 ∨ k = 8 ∨ k = 9 ∨ k = 10 ∨ k = 11 ∨ k = 12 ∨ k = 13 ∨ k = 14 ∨ k = 15 ∨ k = 16 := by omega
      rcases t with rfl | rfl | rfl | rfl | rfl | rfl | rfl | rfl | rfl | rfl | rfl | rfl | rfl | rfl | rfl | rfl | rfl
      · exact l1_
      · exact l2_
      · exact l3_
      · exact l4_
      · exact l5_
      · exact l6_
      · exact l7_
      · exact l8_
      · exact l9_
      · exact l10_
      · exact l11_
      · exact l12_
      · exact l13_
      · exact l14_
      · exact l15_
      · exact l16_
      · exact l17_
  have BB : OwnB Z T1637.heap n0 a b457 b584 (fun k => ([b4, b61, b121, b184, b250, b345, b414, b772, b871, b973, b1078, b1186, fr0_, sr0_, tr0_, fr1_, sr1_, tr1_] : List Addr).getD k 0) 2 0 (own_f0 b457 b584) := by
    refine ⟨fun k hk => by
        have t : k = 0 ∨ k = 1 ∨ k = 2 ∨ k = 3 ∨ k = 4 ∨ k = 5 ∨ k = 6 ∨ k = 7 ∨ k = 8 ∨ k = 9 ∨ k = 10 ∨ k = 11 ∨ k = 12 ∨ k = 13 ∨ k = 14 ∨ k = 15 ∨ k = 16 ∨ k = 17 := by omega
        rcases t with rfl | rfl | rfl | rfl | rfl | rfl | rfl | rfl | rfl | rfl | rfl | rfl | rfl | rfl | rfl | rfl | rfl | rfl
        · exact f1717
        · exact f1718
        · exact f1719
        · exact f1720
        · exact f1732
        · exact f1721
        · exact f1722
        · exact f1727
        · exact f1728
        · exact f1729
        · exact f1730
        · exact f1731
        · exact f1736
        · exact f1737
        · exact f1738
        · exact Ar1_
        · exact Br1_
        · exact Cr1_, own_ge mo g13, own_inj mo, ga, f1700, f1723, Er1_, fun x hx => ?_, f1713, f1714⟩
    simp only [own_FL, List.mem_cons, List.not_mem_nil, or_false] at hx
    rcases hx with rfl | rfl | rfl | rfl | rfl | rfl | rfl | rfl | rfl | rfl | rfl | rfl | rfl | rfl | rfl | rfl | rfl | rfl
    · exact f1701
    · exact f1702
    · exact f1703
    · exact f1704
    · exact f1705
    · exact f1706
    · exact f1707
    · exact f1708
    · exact f1709
    · exact f1710
    · exact f1711
    · exact f1712
    · exact f1733
    · exact f1734
    · exact f1735
    · exact Fr1_
    · exact Gr1_
    · exact Hr1_
  exact Go.ret0 X1639 hx hby hlk hret d1_211 (by decide) (by decide) ⟨b457, b584, (fun k => ([b4, b61, b121, b184, b250, b345, b414, b772, b871, b973, b1078, b1186, fr0_, sr0_, tr0_, fr1_, sr1_, tr1_] : List Addr).getD k 0), rfl, (Fr.app (Fr.app (Fr.app N1488 Nf_) Nr0_) Nr1_), BB⟩
theorem own_nn {n : Nat} (h : n < 9007199254740992) : Jvm.Free.Fl.NoNaN64 (own_dy n) := by
  obtain ⟨c, q, e1, -, -⟩ := own_dv h
  exact Jvm.Free.Fl.val64_no.mpr (by rw [e1]; simp)
theorem own_dc0 : FP.dconst0 = own_dy 0 := by decide +kernel
theorem own_dc1 : FP.dconst1 = own_dy 1048576 := by decide +kernel
def own_R (i j : Nat) (q : Int) : Nat := if q = 0 then 0 else if q = 1 then 1048576 else if q = 2 then i * 1024 else if q = 3 then j * 1024 else if q = 4 then i * j else i * 1024 + (1024 - i) * j
theorem own_m1 (a : Nat) : a * 1048576 = a * 2 ^ 20 := by rw [show (2 : Nat) ^ 20 = 1048576 from by decide]
theorem own_m0 (a : Nat) : a * 0 = 0 * 2 ^ 20 := by simp
theorem own_mij (i j : Nat) : (i * 1024) * (j * 1024) = (i * j) * 2 ^ 20 := by rw [Nat.mul_mul_mul_comm]
theorem own_mc (i j : Nat) : (1048576 - i * 1024) * (j * 1024) = ((1024 - i) * j) * 2 ^ 20 := by
  rw [show 1048576 - i * 1024 = (1024 - i) * 1024 by omega, Nat.mul_mul_mul_comm]
theorem own_ij {i j : Nat} (hi : i ≤ 1024) (hj : j ≤ 1024) : i * j ≤ 1048576 := Nat.mul_le_mul hi hj
theorem own_cj {i j : Nat} (hj : j ≤ 1024) : (1024 - i) * j ≤ 1048576 := Nat.mul_le_mul (show 1024 - i ≤ 1024 by omega) hj
theorem own_fin {i j : Nat} (hi : i ≤ 1024) : i * 1024 + (1024 - i) * j = i * 1024 + j * 1024 - i * j := by
  rw [Nat.sub_mul, Nat.mul_comm 1024 j]
  have := Nat.mul_le_mul_right j hi
  rw [Nat.mul_comm 1024 j] at this
  omega
theorem own_kb {x k : Int32} (h : k = (x &&& (2147483647 : Int32)) % (1025 : Int32)) : 0 ≤ k.toInt ∧ k.toInt ≤ 1024 := by
  have e := c_mask x 2147483647 31 (by decide) (by decide)
  have q := (c_irem (x &&& 2147483647) 1025 1025 (by decide)).1 (by omega)
  rw [← h] at q
  omega
theorem d22_0 : decode prog_2_method_10_code 0 = .ok (.aload_n 0, 1) := by decide +kernel
theorem d22_1 : decode prog_2_method_10_code 1 = .ok (.getfield 27, 3) := by decide +kernel
theorem d22_4 : decode prog_2_method_10_code 4 = .ok (.newarray .double, 2) := by decide +kernel
theorem d22_6 : decode prog_2_method_10_code 6 = .ok (.astore_n 1, 1) := by decide +kernel
theorem d22_7 : decode prog_2_method_10_code 7 = .ok (.aload_n 1, 1) := by decide +kernel
theorem d22_8 : decode prog_2_method_10_code 8 = .ok (.iconst 1, 1) := by decide +kernel
theorem d22_9 : decode prog_2_method_10_code 9 = .ok (.dconst 1, 1) := by decide +kernel
theorem d22_10 : decode prog_2_method_10_code 10 = .ok (.dastore, 1) := by decide +kernel
theorem d22_11 : decode prog_2_method_10_code 11 = .ok (.iconst 2, 1) := by decide +kernel
theorem d22_12 : decode prog_2_method_10_code 12 = .ok (.istore_n 2, 1) := by decide +kernel
theorem d22_13 : decode prog_2_method_10_code 13 = .ok (.iload_n 2, 1) := by decide +kernel
theorem d22_14 : decode prog_2_method_10_code 14 = .ok (.aload_n 0, 1) := by decide +kernel
theorem d22_15 : decode prog_2_method_10_code 15 = .ok (.getfield 27, 3) := by decide +kernel
theorem d22_18 : decode prog_2_method_10_code 18 = .ok (.if_icmp .ge 47, 3) := by decide +kernel
theorem d22_21 : decode prog_2_method_10_code 21 = .ok (.aload_n 0, 1) := by decide +kernel
theorem d22_22 : decode prog_2_method_10_code 22 = .ok (.getfield 31, 3) := by decide +kernel
theorem d22_25 : decode prog_2_method_10_code 25 = .ok (.aload_n 0, 1) := by decide +kernel
theorem d22_26 : decode prog_2_method_10_code 26 = .ok (.getfield 9, 3) := by decide +kernel
theorem d22_29 : decode prog_2_method_10_code 29 = .ok (.iload_n 2, 1) := by decide +kernel
theorem d22_30 : decode prog_2_method_10_code 30 = .ok (.iaload, 1) := by decide +kernel
theorem d22_31 : decode prog_2_method_10_code 31 = .ok (.daload, 1) := by decide +kernel
theorem d22_32 : decode prog_2_method_10_code 32 = .ok (.dstore_n 3, 1) := by decide +kernel
theorem d22_33 : decode prog_2_method_10_code 33 = .ok (.aload_n 1, 1) := by decide +kernel
theorem d22_34 : decode prog_2_method_10_code 34 = .ok (.iload_n 2, 1) := by decide +kernel
theorem d22_35 : decode prog_2_method_10_code 35 = .ok (.dload_n 3, 1) := by decide +kernel
theorem d22_36 : decode prog_2_method_10_code 36 = .ok (.aload_n 1, 1) := by decide +kernel
theorem d22_37 : decode prog_2_method_10_code 37 = .ok (.aload_n 0, 1) := by decide +kernel
theorem d22_38 : decode prog_2_method_10_code 38 = .ok (.getfield 18, 3) := by decide +kernel
theorem d22_41 : decode prog_2_method_10_code 41 = .ok (.iload_n 2, 1) := by decide +kernel
theorem d22_42 : decode prog_2_method_10_code 42 = .ok (.iaload, 1) := by decide +kernel
theorem d22_43 : decode prog_2_method_10_code 43 = .ok (.daload, 1) := by decide +kernel
theorem d22_44 : decode prog_2_method_10_code 44 = .ok (.dmul, 1) := by decide +kernel
theorem d22_45 : decode prog_2_method_10_code 45 = .ok (.dconst 1, 1) := by decide +kernel
theorem d22_46 : decode prog_2_method_10_code 46 = .ok (.dload_n 3, 1) := by decide +kernel
theorem d22_47 : decode prog_2_method_10_code 47 = .ok (.dsub, 1) := by decide +kernel
theorem d22_48 : decode prog_2_method_10_code 48 = .ok (.aload_n 1, 1) := by decide +kernel
theorem d22_49 : decode prog_2_method_10_code 49 = .ok (.aload_n 0, 1) := by decide +kernel
theorem d22_50 : decode prog_2_method_10_code 50 = .ok (.getfield 15, 3) := by decide +kernel
theorem d22_53 : decode prog_2_method_10_code 53 = .ok (.iload_n 2, 1) := by decide +kernel
theorem d22_54 : decode prog_2_method_10_code 54 = .ok (.iaload, 1) := by decide +kernel
theorem d22_55 : decode prog_2_method_10_code 55 = .ok (.daload, 1) := by decide +kernel
theorem d22_56 : decode prog_2_method_10_code 56 = .ok (.dmul, 1) := by decide +kernel
theorem d22_57 : decode prog_2_method_10_code 57 = .ok (.dadd, 1) := by decide +kernel
theorem d22_58 : decode prog_2_method_10_code 58 = .ok (.dastore, 1) := by decide +kernel
theorem d22_59 : decode prog_2_method_10_code 59 = .ok (.iinc 2 1, 3) := by decide +kernel
theorem d22_62 : decode prog_2_method_10_code 62 = .ok (.goto (-49), 3) := by decide +kernel
theorem d22_65 : decode prog_2_method_10_code 65 = .ok (.aload_n 1, 1) := by decide +kernel
theorem d22_66 : decode prog_2_method_10_code 66 = .ok (.areturn, 1) := by decide +kernel
theorem ef_22 (m : MethodId) (x0 : Addr) : entryFrame m #[(.ref x0)] 5 = mkF m 0 #[.val (.ref x0), .unset, .unset, .unset, .unset] [] := by first | (simp [entryFrame, mkF, argsToLocals, Value.category]; done) | rfl
set_option maxRecDepth 65536 in
set_option maxHeartbeats 40000000 in
theorem rmNP (l : Launch) (Z : State) (a0 : Array Value) (hw : ∀ d ∈ tables_1, d.before a0 Z = true) (a : Addr) (h0 : Heap) (n0 : Nat) (q0 q1 : Addr) (d : Nat → Addr) (vr : Int32) (f : Nat → Int → Value) (i j : Nat) (B : OwnB Z h0 n0 a q0 q1 d 6 vr f) (hi : i ≤ 1024) (hj : j ≤ 1024) (r_0_2 : f 0 2 = .int (0 : Int32)) (r_0_3 : f 0 3 = .int (1 : Int32)) (r_0_4 : f 0 4 = .int (0 : Int32)) (r_0_5 : f 0 5 = .int (0 : Int32)) (r_1_2 : f 1 2 = .int (0 : Int32)) (r_1_3 : f 1 3 = .int (0 : Int32)) (r_1_4 : f 1 4 = .int (0 : Int32)) (r_1_5 : f 1 5 = .int (3 : Int32)) (r_2_2 : f 2 2 = .int (1 : Int32)) (r_2_3 : f 2 3 = .int (1 : Int32)) (r_2_4 : f 2 4 = .int (3 : Int32)) (r_2_5 : f 2 5 = .int (1 : Int32)) (r_5_0 : f 5 0 = .double (own_dy (i * 1024))) (r_5_1 : f 5 1 = .double (own_dy (j * 1024))) :
    Con l Z (⟨"com/example/glacis/glacis/analysis/Bdd", "nodeProbabilities", "()[D"⟩ : MethodName) prog_2_method_10_code 5 (some (.array .double)) [] ({ frames := 0, cells := 1, slots := 6, locals := 0 } : Room) #[(.ref a)] h0 (fun v h L => ∃ r, v = some (.ref r) ∧ Fr n0 L ∧ Keep h0 h [] ∧ Ar Z h r .double 6 (fun q => .double (own_dy (own_R i j q)))) := by
  refine Con.of (plainFor_of_name pn_Bdd) ?_
  intro p e s m below meth c s₁ hx hby hml hown hnm hret hlk hZ X0 e0
  refine Go.cast (ef_22 m a) ?_
  replace hown : s.vm.findClass "com/example/glacis/glacis/analysis/Bdd" = some m.cls := hown
  have bij := own_ij hi hj
  have bcj := own_cj (i := i) hj
  refine Go.aloadN (pc' := 1) X0 hx hby d22_0 rfl rfl rfl ?_
  refine Go.getF (pc' := 4) X0 hx hby hZ hown (hw _ (List.mem_of_getElem? (i := 22) rfl)) Via.refl e0 B.2.2.2.2.2.2.2.2.1 d22_1 rfl ?_
  intro T1 X2 e3
  refine Go.newarr (pc' := 6) (cap := 6) (z := 6) X2 hx hby hZ (hw _ (List.mem_of_getElem? (i := 24) rfl)) e3 d22_4 rfl (by decide) (by decide) (by decide) (by decide) (by decide) (by decide) ?_
  intro b4 T5 h6 g7 X8 e9 E10 A11
  have g12 : n0 ≤ b4 := by rw [g7]; exact (Nat.le_trans B.2.2.2.1 (Nat.le_of_lt B.2.2.2.2.1.lt))
  have z13 : n0 ≤ h6.size := Nat.le_trans (Nat.le_trans B.2.2.2.1 (Nat.le_of_lt B.2.2.2.2.1.lt)) E10.1
  have f14 : Ar Z h6 b4 .double 6 (fun _ => (.double 0)) := A11
  show Go p e below _ (T5.setTop (mkF m 6 #[.val (.ref a), .unset, .unset, .unset, .unset] [(.ref b4)]))
  have gf : h0.size ≤ b4 := by rw [g7]; exact Nat.le_refl _
  have K0 : Keep h0 h6 [] := (Keep.refl h0 _).ext E10
  have B0 := B.keep K0
  refine Go.astoreN (Ls' := #[.val (.ref a), .val (.ref b4), .unset, .unset, .unset]) (pc' := 7) X8 hx hby d22_6 rfl rfl rfl ?_
  refine Go.aloadN (pc' := 8) X8 hx hby d22_7 rfl rfl rfl ?_
  refine Go.iconst (pc' := 9) X8 hx hby d22_8 rfl (v := (1 : Int32)) (by decide) ?_
  refine Go.dconst1 (pc' := 10) X8 hx hby d22_9 rfl own_dc1 ?_
  refine Go.dastore (pc' := 11) (i := 1) X8 hx hby hZ e9 f14 d22_10 rfl (by decide) (by decide) (by decide) ?_
  intro T15 h16 X17 e18 W19 A20
  have z21 : n0 ≤ h16.size := by rw [Wr.size W19]; exact (Nat.le_trans B0.2.2.2.1 (Nat.le_of_lt B0.2.2.2.2.1.lt))
  have f22 : Ar Z h16 b4 .double 6 (fun q => if q = 1 then (.double (own_dy (1048576))) else (.double 0)) := A20
  have N23 : Fr n0 _ := Fr.snoc X17 (Fr.nil _) g12
  show Go p e below _ (T15.setTop (mkF m 11 #[.val (.ref a), .val (.ref b4), .unset, .unset, .unset] []))
  have K1 := K0.wr W19 (Or.inr gf)
  have B1 := B.keep K1
  refine Go.iconst (pc' := 12) X17 hx hby d22_11 rfl (v := (2 : Int32)) (by decide) ?_
  refine Go.istoreN (Ls' := #[.val (.ref a), .val (.ref b4), .val (.int (2 : Int32)), .unset, .unset]) (pc' := 13) X17 hx hby d22_12 rfl rfl ?_
  refine Go.iloadN (pc' := 14) X17 hx hby d22_13 rfl rfl ?_
  refine Go.aloadN (pc' := 15) X17 hx hby d22_14 rfl rfl rfl ?_
  refine Go.getF (pc' := 18) X17 hx hby hZ hown (hw _ (List.mem_of_getElem? (i := 22) rfl)) Via.refl e18 B1.2.2.2.2.2.2.2.2.1 d22_15 rfl ?_
  intro T24 X25 e26
  refine Go.icmpN (pc' := 21) X25 hx hby d22_18 rfl (show ¬ ((6 : Int32) ≤ (2 : Int32)) from by decide) ?_
  refine Go.aloadN (pc' := 22) X25 hx hby d22_21 rfl rfl rfl ?_
  refine Go.getF (pc' := 25) X25 hx hby hZ hown (hw _ (List.mem_of_getElem? (i := 25) rfl)) Via.refl e26 B1.f5 d22_22 rfl ?_
  intro T27 X28 e29
  refine Go.aloadN (pc' := 26) X28 hx hby d22_25 rfl rfl rfl ?_
  refine Go.getF (pc' := 29) X28 hx hby hZ hown (hw _ (List.mem_of_getElem? (i := 12) rfl)) Via.refl e29 B1.f0 d22_26 rfl ?_
  intro T30 X31 e32
  refine Go.iloadN (pc' := 30) X31 hx hby d22_29 rfl rfl ?_
  refine Go.iaload (pc' := 31) (i := 2) (v := (.int (0 : Int32))) X31 hx hby hZ e32 B1.a0 d22_30 rfl (by decide) (by decide) (by decide) r_0_2 ?_
  refine Go.daload (pc' := 32) (i := 0) (v := (.double (own_dy (i * 1024)))) X31 hx hby hZ e32 B1.a5 d22_31 rfl (by decide) (by decide) (by decide) r_5_0 ?_
  refine Go.dstoreN (Ls' := #[.val (.ref a), .val (.ref b4), .val (.int (2 : Int32)), .val (.double (own_dy (i * 1024))), .second]) (pc' := 33) X31 hx hby d22_32 rfl rfl ?_
  refine Go.aloadN (pc' := 34) X31 hx hby d22_33 rfl rfl rfl ?_
  refine Go.iloadN (pc' := 35) X31 hx hby d22_34 rfl rfl ?_
  refine Go.dloadN (pc' := 36) X31 hx hby d22_35 rfl rfl ?_
  refine Go.aloadN (pc' := 37) X31 hx hby d22_36 rfl rfl rfl ?_
  refine Go.aloadN (pc' := 38) X31 hx hby d22_37 rfl rfl rfl ?_
  refine Go.getF (pc' := 41) X31 hx hby hZ hown (hw _ (List.mem_of_getElem? (i := 16) rfl)) Via.refl e32 B1.f2 d22_38 rfl ?_
  intro T33 X34 e35
  refine Go.iloadN (pc' := 42) X34 hx hby d22_41 rfl rfl ?_
  refine Go.iaload (pc' := 43) (i := 2) (v := (.int (1 : Int32))) X34 hx hby hZ e35 B1.a2 d22_42 rfl (by decide) (by decide) (by decide) r_2_2 ?_
  refine Go.daload (pc' := 44) (i := 1) (v := (.double (own_dy (1048576)))) X34 hx hby hZ e35 f22 d22_43 rfl (by decide) (by decide) (by decide) rfl ?_
  refine Go.dmul (w := own_dy (i * 1024)) (pc' := 45) X34 hx hby d22_44 rfl (own_nn (by omega)) (own_dmul (by omega) (by omega) (own_m1 _)) ?_
  refine Go.dconst1 (pc' := 46) X34 hx hby d22_45 rfl own_dc1 ?_
  refine Go.dloadN (pc' := 47) X34 hx hby d22_46 rfl rfl ?_
  refine Go.dsub (w := own_dy (1048576 - i * 1024)) (pc' := 48) X34 hx hby d22_47 rfl (own_nn (by omega)) (own_dsub (by omega) (by omega)) ?_
  refine Go.aloadN (pc' := 49) X34 hx hby d22_48 rfl rfl rfl ?_
  refine Go.aloadN (pc' := 50) X34 hx hby d22_49 rfl rfl rfl ?_
  refine Go.getF (pc' := 53) X34 hx hby hZ hown (hw _ (List.mem_of_getElem? (i := 14) rfl)) Via.refl e35 B1.f1 d22_50 rfl ?_
  intro T36 X37 e38
  refine Go.iloadN (pc' := 54) X37 hx hby d22_53 rfl rfl ?_
  refine Go.iaload (pc' := 55) (i := 2) (v := (.int (0 : Int32))) X37 hx hby hZ e38 B1.a1 d22_54 rfl (by decide) (by decide) (by decide) r_1_2 ?_
  refine Go.daload (pc' := 56) (i := 0) (v := (.double (own_dy (0)))) X37 hx hby hZ e38 f22 d22_55 rfl (by decide) (by decide) (by decide) rfl ?_
  refine Go.dmul (w := own_dy (0)) (pc' := 57) X37 hx hby d22_56 rfl (own_nn (by omega)) (own_dmul (by omega) (by omega) (own_m0 _)) ?_
  refine Go.dadd (w := own_dy (i * 1024 + 0)) (pc' := 58) X37 hx hby d22_57 rfl (own_nn (by omega)) (own_dadd (by omega) (by omega)) ?_
  refine Go.dastore (pc' := 59) (i := 2) X37 hx hby hZ e38 f22 d22_58 rfl (by decide) (by decide) (by decide) ?_
  intro T39 h40 X41 e42 W43 A44
  have z45 : n0 ≤ h40.size := by rw [Wr.size W43]; exact (Nat.le_trans B1.2.2.2.1 (Nat.le_of_lt B1.2.2.2.2.1.lt))
  have f46 : Ar Z h40 b4 .double 6 (fun q => if q = 2 then (.double (own_dy (i * 1024 + 0))) else if q = 1 then (.double (own_dy (1048576))) else (.double 0)) := A44
  have N47 : Fr n0 _ := Fr.snoc X41 N23 g12
  show Go p e below _ (T39.setTop (mkF m 59 #[.val (.ref a), .val (.ref b4), .val (.int (2 : Int32)), .val (.double (own_dy (i * 1024))), .second] []))
  have K2 := K1.wr W43 (Or.inr gf)
  have B2 := B.keep K2
  refine Go.iinc (w := (2 : Int32) + (1 : Int32)) (Ls' := #[.val (.ref a), .val (.ref b4), .val (.int ((2 : Int32) + (1 : Int32))), .val (.double (own_dy (i * 1024))), .second]) (pc' := 62) X41 hx hby d22_59 rfl rfl rfl rfl ?_
  change Go p e below _ (T39.setTop (mkF m 62 #[.val (.ref a), .val (.ref b4), .val (.int (3 : Int32)), .val (.double (own_dy (i * 1024))), .second] []))
  refine Go.goto (pc' := 13) X41 hx hby d22_62 (by decide) (by decide) ?_
  refine Go.iloadN (pc' := 14) X41 hx hby d22_13 rfl rfl ?_
  refine Go.aloadN (pc' := 15) X41 hx hby d22_14 rfl rfl rfl ?_
  refine Go.getF (pc' := 18) X41 hx hby hZ hown (hw _ (List.mem_of_getElem? (i := 22) rfl)) Via.refl e42 B2.2.2.2.2.2.2.2.2.1 d22_15 rfl ?_
  intro T48 X49 e50
  refine Go.icmpN (pc' := 21) X49 hx hby d22_18 rfl (show ¬ ((6 : Int32) ≤ (3 : Int32)) from by decide) ?_
  refine Go.aloadN (pc' := 22) X49 hx hby d22_21 rfl rfl rfl ?_
  refine Go.getF (pc' := 25) X49 hx hby hZ hown (hw _ (List.mem_of_getElem? (i := 25) rfl)) Via.refl e50 B2.f5 d22_22 rfl ?_
  intro T51 X52 e53
  refine Go.aloadN (pc' := 26) X52 hx hby d22_25 rfl rfl rfl ?_
  refine Go.getF (pc' := 29) X52 hx hby hZ hown (hw _ (List.mem_of_getElem? (i := 12) rfl)) Via.refl e53 B2.f0 d22_26 rfl ?_
  intro T54 X55 e56
  refine Go.iloadN (pc' := 30) X55 hx hby d22_29 rfl rfl ?_
  refine Go.iaload (pc' := 31) (i := 3) (v := (.int (1 : Int32))) X55 hx hby hZ e56 B2.a0 d22_30 rfl (by decide) (by decide) (by decide) r_0_3 ?_
  refine Go.daload (pc' := 32) (i := 1) (v := (.double (own_dy (j * 1024)))) X55 hx hby hZ e56 B2.a5 d22_31 rfl (by decide) (by decide) (by decide) r_5_1 ?_
  refine Go.dstoreN (Ls' := #[.val (.ref a), .val (.ref b4), .val (.int (3 : Int32)), .val (.double (own_dy (j * 1024))), .second]) (pc' := 33) X55 hx hby d22_32 rfl rfl ?_
  refine Go.aloadN (pc' := 34) X55 hx hby d22_33 rfl rfl rfl ?_
  refine Go.iloadN (pc' := 35) X55 hx hby d22_34 rfl rfl ?_
  refine Go.dloadN (pc' := 36) X55 hx hby d22_35 rfl rfl ?_
  refine Go.aloadN (pc' := 37) X55 hx hby d22_36 rfl rfl rfl ?_
  refine Go.aloadN (pc' := 38) X55 hx hby d22_37 rfl rfl rfl ?_
  refine Go.getF (pc' := 41) X55 hx hby hZ hown (hw _ (List.mem_of_getElem? (i := 16) rfl)) Via.refl e56 B2.f2 d22_38 rfl ?_
  intro T57 X58 e59
  refine Go.iloadN (pc' := 42) X58 hx hby d22_41 rfl rfl ?_
  refine Go.iaload (pc' := 43) (i := 3) (v := (.int (1 : Int32))) X58 hx hby hZ e59 B2.a2 d22_42 rfl (by decide) (by decide) (by decide) r_2_3 ?_
  refine Go.daload (pc' := 44) (i := 1) (v := (.double (own_dy (1048576)))) X58 hx hby hZ e59 f46 d22_43 rfl (by decide) (by decide) (by decide) rfl ?_
  refine Go.dmul (w := own_dy (j * 1024)) (pc' := 45) X58 hx hby d22_44 rfl (own_nn (by omega)) (own_dmul (by omega) (by omega) (own_m1 _)) ?_
  refine Go.dconst1 (pc' := 46) X58 hx hby d22_45 rfl own_dc1 ?_
  refine Go.dloadN (pc' := 47) X58 hx hby d22_46 rfl rfl ?_
  refine Go.dsub (w := own_dy (1048576 - j * 1024)) (pc' := 48) X58 hx hby d22_47 rfl (own_nn (by omega)) (own_dsub (by omega) (by omega)) ?_
  refine Go.aloadN (pc' := 49) X58 hx hby d22_48 rfl rfl rfl ?_
  refine Go.aloadN (pc' := 50) X58 hx hby d22_49 rfl rfl rfl ?_
  refine Go.getF (pc' := 53) X58 hx hby hZ hown (hw _ (List.mem_of_getElem? (i := 14) rfl)) Via.refl e59 B2.f1 d22_50 rfl ?_
  intro T60 X61 e62
  refine Go.iloadN (pc' := 54) X61 hx hby d22_53 rfl rfl ?_
  refine Go.iaload (pc' := 55) (i := 3) (v := (.int (0 : Int32))) X61 hx hby hZ e62 B2.a1 d22_54 rfl (by decide) (by decide) (by decide) r_1_3 ?_
  refine Go.daload (pc' := 56) (i := 0) (v := (.double (own_dy (0)))) X61 hx hby hZ e62 f46 d22_55 rfl (by decide) (by decide) (by decide) rfl ?_
  refine Go.dmul (w := own_dy (0)) (pc' := 57) X61 hx hby d22_56 rfl (own_nn (by omega)) (own_dmul (by omega) (by omega) (own_m0 _)) ?_
  refine Go.dadd (w := own_dy (j * 1024 + 0)) (pc' := 58) X61 hx hby d22_57 rfl (own_nn (by omega)) (own_dadd (by omega) (by omega)) ?_
  refine Go.dastore (pc' := 59) (i := 3) X61 hx hby hZ e62 f46 d22_58 rfl (by decide) (by decide) (by decide) ?_
  intro T63 h64 X65 e66 W67 A68
  have z69 : n0 ≤ h64.size := by rw [Wr.size W67]; exact (Nat.le_trans B2.2.2.2.1 (Nat.le_of_lt B2.2.2.2.2.1.lt))
  have f70 : Ar Z h64 b4 .double 6 (fun q => if q = 3 then (.double (own_dy (j * 1024 + 0))) else if q = 2 then (.double (own_dy (i * 1024 + 0))) else if q = 1 then (.double (own_dy (1048576))) else (.double 0)) := A68
  have N71 : Fr n0 _ := Fr.snoc X65 N47 g12
  show Go p e below _ (T63.setTop (mkF m 59 #[.val (.ref a), .val (.ref b4), .val (.int (3 : Int32)), .val (.double (own_dy (j * 1024))), .second] []))
  have K3 := K2.wr W67 (Or.inr gf)
  have B3 := B.keep K3
  refine Go.iinc (w := (3 : Int32) + (1 : Int32)) (Ls' := #[.val (.ref a), .val (.ref b4), .val (.int ((3 : Int32) + (1 : Int32))), .val (.double (own_dy (j * 1024))), .second]) (pc' := 62) X65 hx hby d22_59 rfl rfl rfl rfl ?_
  change Go p e below _ (T63.setTop (mkF m 62 #[.val (.ref a), .val (.ref b4), .val (.int (4 : Int32)), .val (.double (own_dy (j * 1024))), .second] []))
  refine Go.goto (pc' := 13) X65 hx hby d22_62 (by decide) (by decide) ?_
  refine Go.iloadN (pc' := 14) X65 hx hby d22_13 rfl rfl ?_
  refine Go.aloadN (pc' := 15) X65 hx hby d22_14 rfl rfl rfl ?_
  refine Go.getF (pc' := 18) X65 hx hby hZ hown (hw _ (List.mem_of_getElem? (i := 22) rfl)) Via.refl e66 B3.2.2.2.2.2.2.2.2.1 d22_15 rfl ?_
  intro T72 X73 e74
  refine Go.icmpN (pc' := 21) X73 hx hby d22_18 rfl (show ¬ ((6 : Int32) ≤ (4 : Int32)) from by decide) ?_
  refine Go.aloadN (pc' := 22) X73 hx hby d22_21 rfl rfl rfl ?_
  refine Go.getF (pc' := 25) X73 hx hby hZ hown (hw _ (List.mem_of_getElem? (i := 25) rfl)) Via.refl e74 B3.f5 d22_22 rfl ?_
  intro T75 X76 e77
  refine Go.aloadN (pc' := 26) X76 hx hby d22_25 rfl rfl rfl ?_
  refine Go.getF (pc' := 29) X76 hx hby hZ hown (hw _ (List.mem_of_getElem? (i := 12) rfl)) Via.refl e77 B3.f0 d22_26 rfl ?_
  intro T78 X79 e80
  refine Go.iloadN (pc' := 30) X79 hx hby d22_29 rfl rfl ?_
  refine Go.iaload (pc' := 31) (i := 4) (v := (.int (0 : Int32))) X79 hx hby hZ e80 B3.a0 d22_30 rfl (by decide) (by decide) (by decide) r_0_4 ?_
  refine Go.daload (pc' := 32) (i := 0) (v := (.double (own_dy (i * 1024)))) X79 hx hby hZ e80 B3.a5 d22_31 rfl (by decide) (by decide) (by decide) r_5_0 ?_
  refine Go.dstoreN (Ls' := #[.val (.ref a), .val (.ref b4), .val (.int (4 : Int32)), .val (.double (own_dy (i * 1024))), .second]) (pc' := 33) X79 hx hby d22_32 rfl rfl ?_
  refine Go.aloadN (pc' := 34) X79 hx hby d22_33 rfl rfl rfl ?_
  refine Go.iloadN (pc' := 35) X79 hx hby d22_34 rfl rfl ?_
  refine Go.dloadN (pc' := 36) X79 hx hby d22_35 rfl rfl ?_
  refine Go.aloadN (pc' := 37) X79 hx hby d22_36 rfl rfl rfl ?_
  refine Go.aloadN (pc' := 38) X79 hx hby d22_37 rfl rfl rfl ?_
  refine Go.getF (pc' := 41) X79 hx hby hZ hown (hw _ (List.mem_of_getElem? (i := 16) rfl)) Via.refl e80 B3.f2 d22_38 rfl ?_
  intro T81 X82 e83
  refine Go.iloadN (pc' := 42) X82 hx hby d22_41 rfl rfl ?_
  refine Go.iaload (pc' := 43) (i := 4) (v := (.int (3 : Int32))) X82 hx hby hZ e83 B3.a2 d22_42 rfl (by decide) (by decide) (by decide) r_2_4 ?_
  refine Go.daload (pc' := 44) (i := 3) (v := (.double (own_dy (j * 1024)))) X82 hx hby hZ e83 f70 d22_43 rfl (by decide) (by decide) (by decide) rfl ?_
  refine Go.dmul (w := own_dy (i * j)) (pc' := 45) X82 hx hby d22_44 rfl (own_nn (by omega)) (own_dmul (by omega) (by omega) (own_mij i j)) ?_
  refine Go.dconst1 (pc' := 46) X82 hx hby d22_45 rfl own_dc1 ?_
  refine Go.dloadN (pc' := 47) X82 hx hby d22_46 rfl rfl ?_
  refine Go.dsub (w := own_dy (1048576 - i * 1024)) (pc' := 48) X82 hx hby d22_47 rfl (own_nn (by omega)) (own_dsub (by omega) (by omega)) ?_
  refine Go.aloadN (pc' := 49) X82 hx hby d22_48 rfl rfl rfl ?_
  refine Go.aloadN (pc' := 50) X82 hx hby d22_49 rfl rfl rfl ?_
  refine Go.getF (pc' := 53) X82 hx hby hZ hown (hw _ (List.mem_of_getElem? (i := 14) rfl)) Via.refl e83 B3.f1 d22_50 rfl ?_
  intro T84 X85 e86
  refine Go.iloadN (pc' := 54) X85 hx hby d22_53 rfl rfl ?_
  refine Go.iaload (pc' := 55) (i := 4) (v := (.int (0 : Int32))) X85 hx hby hZ e86 B3.a1 d22_54 rfl (by decide) (by decide) (by decide) r_1_4 ?_
  refine Go.daload (pc' := 56) (i := 0) (v := (.double (own_dy (0)))) X85 hx hby hZ e86 f70 d22_55 rfl (by decide) (by decide) (by decide) rfl ?_
  refine Go.dmul (w := own_dy (0)) (pc' := 57) X85 hx hby d22_56 rfl (own_nn (by omega)) (own_dmul (by omega) (by omega) (own_m0 _)) ?_
  refine Go.dadd (w := own_dy (i * j + 0)) (pc' := 58) X85 hx hby d22_57 rfl (own_nn (by omega)) (own_dadd (by omega) (by omega)) ?_
  refine Go.dastore (pc' := 59) (i := 4) X85 hx hby hZ e86 f70 d22_58 rfl (by decide) (by decide) (by decide) ?_
  intro T87 h88 X89 e90 W91 A92
  have z93 : n0 ≤ h88.size := by rw [Wr.size W91]; exact (Nat.le_trans B3.2.2.2.1 (Nat.le_of_lt B3.2.2.2.2.1.lt))
  have f94 : Ar Z h88 b4 .double 6 (fun q => if q = 4 then (.double (own_dy (i * j + 0))) else if q = 3 then (.double (own_dy (j * 1024 + 0))) else if q = 2 then (.double (own_dy (i * 1024 + 0))) else if q = 1 then (.double (own_dy (1048576))) else (.double 0)) := A92
  have N95 : Fr n0 _ := Fr.snoc X89 N71 g12
  show Go p e below _ (T87.setTop (mkF m 59 #[.val (.ref a), .val (.ref b4), .val (.int (4 : Int32)), .val (.double (own_dy (i * 1024))), .second] []))
  have K4 := K3.wr W91 (Or.inr gf)
  have B4 := B.keep K4
  refine Go.iinc (w := (4 : Int32) + (1 : Int32)) (Ls' := #[.val (.ref a), .val (.ref b4), .val (.int ((4 : Int32) + (1 : Int32))), .val (.double (own_dy (i * 1024))), .second]) (pc' := 62) X89 hx hby d22_59 rfl rfl rfl rfl ?_
  change Go p e below _ (T87.setTop (mkF m 62 #[.val (.ref a), .val (.ref b4), .val (.int (5 : Int32)), .val (.double (own_dy (i * 1024))), .second] []))
  refine Go.goto (pc' := 13) X89 hx hby d22_62 (by decide) (by decide) ?_
  refine Go.iloadN (pc' := 14) X89 hx hby d22_13 rfl rfl ?_
  refine Go.aloadN (pc' := 15) X89 hx hby d22_14 rfl rfl rfl ?_
  refine Go.getF (pc' := 18) X89 hx hby hZ hown (hw _ (List.mem_of_getElem? (i := 22) rfl)) Via.refl e90 B4.2.2.2.2.2.2.2.2.1 d22_15 rfl ?_
  intro T96 X97 e98
  refine Go.icmpN (pc' := 21) X97 hx hby d22_18 rfl (show ¬ ((6 : Int32) ≤ (5 : Int32)) from by decide) ?_
  refine Go.aloadN (pc' := 22) X97 hx hby d22_21 rfl rfl rfl ?_
  refine Go.getF (pc' := 25) X97 hx hby hZ hown (hw _ (List.mem_of_getElem? (i := 25) rfl)) Via.refl e98 B4.f5 d22_22 rfl ?_
  intro T99 X100 e101
  refine Go.aloadN (pc' := 26) X100 hx hby d22_25 rfl rfl rfl ?_
  refine Go.getF (pc' := 29) X100 hx hby hZ hown (hw _ (List.mem_of_getElem? (i := 12) rfl)) Via.refl e101 B4.f0 d22_26 rfl ?_
  intro T102 X103 e104
  refine Go.iloadN (pc' := 30) X103 hx hby d22_29 rfl rfl ?_
  refine Go.iaload (pc' := 31) (i := 5) (v := (.int (0 : Int32))) X103 hx hby hZ e104 B4.a0 d22_30 rfl (by decide) (by decide) (by decide) r_0_5 ?_
  refine Go.daload (pc' := 32) (i := 0) (v := (.double (own_dy (i * 1024)))) X103 hx hby hZ e104 B4.a5 d22_31 rfl (by decide) (by decide) (by decide) r_5_0 ?_
  refine Go.dstoreN (Ls' := #[.val (.ref a), .val (.ref b4), .val (.int (5 : Int32)), .val (.double (own_dy (i * 1024))), .second]) (pc' := 33) X103 hx hby d22_32 rfl rfl ?_
  refine Go.aloadN (pc' := 34) X103 hx hby d22_33 rfl rfl rfl ?_
  refine Go.iloadN (pc' := 35) X103 hx hby d22_34 rfl rfl ?_
  refine Go.dloadN (pc' := 36) X103 hx hby d22_35 rfl rfl ?_
  refine Go.aloadN (pc' := 37) X103 hx hby d22_36 rfl rfl rfl ?_
  refine Go.aloadN (pc' := 38) X103 hx hby d22_37 rfl rfl rfl ?_
  refine Go.getF (pc' := 41) X103 hx hby hZ hown (hw _ (List.mem_of_getElem? (i := 16) rfl)) Via.refl e104 B4.f2 d22_38 rfl ?_
  intro T105 X106 e107
  refine Go.iloadN (pc' := 42) X106 hx hby d22_41 rfl rfl ?_
  refine Go.iaload (pc' := 43) (i := 5) (v := (.int (1 : Int32))) X106 hx hby hZ e107 B4.a2 d22_42 rfl (by decide) (by decide) (by decide) r_2_5 ?_
  refine Go.daload (pc' := 44) (i := 1) (v := (.double (own_dy (1048576)))) X106 hx hby hZ e107 f94 d22_43 rfl (by decide) (by decide) (by decide) rfl ?_
  refine Go.dmul (w := own_dy (i * 1024)) (pc' := 45) X106 hx hby d22_44 rfl (own_nn (by omega)) (own_dmul (by omega) (by omega) (own_m1 _)) ?_
  refine Go.dconst1 (pc' := 46) X106 hx hby d22_45 rfl own_dc1 ?_
  refine Go.dloadN (pc' := 47) X106 hx hby d22_46 rfl rfl ?_
  refine Go.dsub (w := own_dy (1048576 - i * 1024)) (pc' := 48) X106 hx hby d22_47 rfl (own_nn (by omega)) (own_dsub (by omega) (by omega)) ?_
  refine Go.aloadN (pc' := 49) X106 hx hby d22_48 rfl rfl rfl ?_
  refine Go.aloadN (pc' := 50) X106 hx hby d22_49 rfl rfl rfl ?_
  refine Go.getF (pc' := 53) X106 hx hby hZ hown (hw _ (List.mem_of_getElem? (i := 14) rfl)) Via.refl e107 B4.f1 d22_50 rfl ?_
  intro T108 X109 e110
  refine Go.iloadN (pc' := 54) X109 hx hby d22_53 rfl rfl ?_
  refine Go.iaload (pc' := 55) (i := 5) (v := (.int (3 : Int32))) X109 hx hby hZ e110 B4.a1 d22_54 rfl (by decide) (by decide) (by decide) r_1_5 ?_
  refine Go.daload (pc' := 56) (i := 3) (v := (.double (own_dy (j * 1024)))) X109 hx hby hZ e110 f94 d22_55 rfl (by decide) (by decide) (by decide) rfl ?_
  refine Go.dmul (w := own_dy ((1024 - i) * j)) (pc' := 57) X109 hx hby d22_56 rfl (own_nn (by omega)) (own_dmul (by omega) (by omega) (own_mc i j)) ?_
  refine Go.dadd (w := own_dy (i * 1024 + (1024 - i) * j)) (pc' := 58) X109 hx hby d22_57 rfl (own_nn (by omega)) (own_dadd (by omega) (by omega)) ?_
  refine Go.dastore (pc' := 59) (i := 5) X109 hx hby hZ e110 f94 d22_58 rfl (by decide) (by decide) (by decide) ?_
  intro T111 h112 X113 e114 W115 A116
  have z117 : n0 ≤ h112.size := by rw [Wr.size W115]; exact (Nat.le_trans B4.2.2.2.1 (Nat.le_of_lt B4.2.2.2.2.1.lt))
  have f118 : Ar Z h112 b4 .double 6 (fun q => if q = 5 then (.double (own_dy (i * 1024 + (1024 - i) * j))) else if q = 4 then (.double (own_dy (i * j + 0))) else if q = 3 then (.double (own_dy (j * 1024 + 0))) else if q = 2 then (.double (own_dy (i * 1024 + 0))) else if q = 1 then (.double (own_dy (1048576))) else (.double 0)) := A116
  have N119 : Fr n0 _ := Fr.snoc X113 N95 g12
  show Go p e below _ (T111.setTop (mkF m 59 #[.val (.ref a), .val (.ref b4), .val (.int (5 : Int32)), .val (.double (own_dy (i * 1024))), .second] []))
  have K5 := K4.wr W115 (Or.inr gf)
  have B5 := B.keep K5
  refine Go.iinc (w := (5 : Int32) + (1 : Int32)) (Ls' := #[.val (.ref a), .val (.ref b4), .val (.int ((5 : Int32) + (1 : Int32))), .val (.double (own_dy (i * 1024))), .second]) (pc' := 62) X113 hx hby d22_59 rfl rfl rfl rfl ?_
  change Go p e below _ (T111.setTop (mkF m 62 #[.val (.ref a), .val (.ref b4), .val (.int (6 : Int32)), .val (.double (own_dy (i * 1024))), .second] []))
  refine Go.goto (pc' := 13) X113 hx hby d22_62 (by decide) (by decide) ?_
  refine Go.iloadN (pc' := 14) X113 hx hby d22_13 rfl rfl ?_
  refine Go.aloadN (pc' := 15) X113 hx hby d22_14 rfl rfl rfl ?_
  refine Go.getF (pc' := 18) X113 hx hby hZ hown (hw _ (List.mem_of_getElem? (i := 22) rfl)) Via.refl e114 B5.2.2.2.2.2.2.2.2.1 d22_15 rfl ?_
  intro T120 X121 e122
  refine Go.icmpY (pc' := 65) X121 hx hby d22_18 (by decide) (by decide) (show (6 : Int32) ≤ (6 : Int32) from by decide) ?_
  refine Go.aloadN (pc' := 66) X121 hx hby d22_65 rfl rfl rfl ?_
  have f123 : Ar Z h112 b4 .double 6 (fun q => .double (own_dy (own_R i j q))) := f118.congr (fun q h1 h2 => by have t : q = 0 ∨ q = 1 ∨ q = 2 ∨ q = 3 ∨ q = 4 ∨ q = 5 := (by omega); rcases t with rfl | rfl | rfl | rfl | rfl | rfl <;> rfl)
  exact Go.retA X121 hx hby hlk hret rfl rfl rfl d22_66 (by decide) (by decide) ⟨b4, rfl, N119, by rw [e122]; exact K5, by rw [e122]; exact f123⟩
theorem d23_0 : decode prog_2_method_7_code 0 = .ok (.aload_n 0, 1) := by decide +kernel
theorem d23_1 : decode prog_2_method_7_code 1 = .ok (.getfield 27, 3) := by decide +kernel
theorem d23_4 : decode prog_2_method_7_code 4 = .ok (.ireturn, 1) := by decide +kernel
theorem ef_23 (m : MethodId) (x0 : Addr) : entryFrame m #[(.ref x0)] 1 = mkF m 0 #[.val (.ref x0)] [] := by first | (simp [entryFrame, mkF, argsToLocals, Value.category]; done) | rfl
set_option maxRecDepth 65536 in
set_option maxHeartbeats 40000000 in
theorem rmSZ (l : Launch) (Z : State) (a0 : Array Value) (hw : ∀ d ∈ tables_1, d.before a0 Z = true) (a : Addr) (h0 : Heap) (n : Int32) (F1 : Fld Z h0 a "com/example/glacis/glacis/analysis/Bdd" "size" "I" (.int n)) :
    Con l Z (⟨"com/example/glacis/glacis/analysis/Bdd", "size", "()I"⟩ : MethodName) prog_2_method_7_code 1 (some .int) [] ({ frames := 0, cells := 0, slots := 0, locals := 0 } : Room) #[(.ref a)] h0 (PQ (some (.int n)) h0) := by
  refine Con.of (plainFor_of_name pn_Bdd) ?_
  intro p e s m below meth c s₁ hx hby hml hown hnm hret hlk hZ X0 e0
  refine Go.cast (ef_23 m a) ?_
  replace hown : s.vm.findClass "com/example/glacis/glacis/analysis/Bdd" = some m.cls := hown
  refine Go.aloadN (pc' := 1) X0 hx hby d23_0 rfl rfl rfl ?_
  refine Go.getF (pc' := 4) X0 hx hby hZ hown (hw _ (List.mem_of_getElem? (i := 22) rfl)) Via.refl e0 F1 d23_1 rfl ?_
  intro T1 X2 e3
  exact Go.retI X2 hx hby hlk hret d23_4 (by decide) (by decide) ⟨rfl, rfl, e3⟩
theorem d24_0 : decode method_2_code 0 = .ok (.iload_n 0, 1) := by decide +kernel
theorem d24_1 : decode method_2_code 1 = .ok (.ifCond .lt 12, 3) := by decide +kernel
theorem d24_4 : decode method_2_code 4 = .ok (.iload_n 0, 1) := by decide +kernel
theorem d24_5 : decode method_2_code 5 = .ok (.iload_n 1, 1) := by decide +kernel
theorem d24_6 : decode method_2_code 6 = .ok (.if_icmp .ge 7, 3) := by decide +kernel
theorem d24_9 : decode method_2_code 9 = .ok (.iconst 1, 1) := by decide +kernel
theorem d24_10 : decode method_2_code 10 = .ok (.goto 4, 3) := by decide +kernel
theorem d24_13 : decode method_2_code 13 = .ok (.iconst 0, 1) := by decide +kernel
theorem d24_14 : decode method_2_code 14 = .ok (.ireturn, 1) := by decide +kernel
theorem ef_24 (m : MethodId) (x0 : Int32) (x1 : Int32) : entryFrame m #[(.int x0), (.int x1)] 2 = mkF m 0 #[.val (.int x0), .val (.int x1)] [] := by first | (simp [entryFrame, mkF, argsToLocals, Value.category]; done) | rfl
theorem pn_BddNodeProbabilitiesPinLaw : plainName "com/example/glacis/glacis/analysis/BddNodeProbabilitiesPinLaw" = true := by first | (simp [plainName, overriddenIn]; done) | decide +kernel
set_option maxRecDepth 65536 in
set_option maxHeartbeats 40000000 in
theorem rx46 (l : Launch) (Z : State) (a0 : Array Value) (hw : ∀ d ∈ tables_1, d.before a0 Z = true) (x0 : Int32) (x1 : Int32) (h0 : Heap) (e0_ : x0 = 2) (e1_ : x1 = 6) :
    Con l Z (⟨"com/example/glacis/glacis/analysis/BddNodeProbabilitiesPinLaw", "inRange", "(II)Z"⟩ : MethodName) method_2_code 2 (some .boolean) [] ({ frames := 0, cells := 0, slots := 0, locals := 0 } : Room) #[(.int x0), (.int x1)] h0 (PQ (some (.int (1 : Int32))) h0) := by
  refine Con.of (plainFor_of_name pn_BddNodeProbabilitiesPinLaw) ?_
  intro p e s m below meth c s₁ hx hby hml hown hnm hret hlk hZ X0 e0
  refine Go.cast (ef_24 m x0 x1) ?_
  replace hown : s.vm.findClass "com/example/glacis/glacis/analysis/BddNodeProbabilitiesPinLaw" = some m.cls := hown
  subst e0_ e1_
  show Go p e below _ (s₁.setTop (mkF m 0 #[.val (.int (2 : Int32)), .val (.int (6 : Int32))] []))
  refine Go.iloadN (pc' := 1) X0 hx hby d24_0 rfl rfl ?_
  refine Go.ifN (pc' := 4) X0 hx hby d24_1 rfl (show ¬ ((2 : Int32) < 0) from by decide) ?_
  refine Go.iloadN (pc' := 5) X0 hx hby d24_4 rfl rfl ?_
  refine Go.iloadN (pc' := 6) X0 hx hby d24_5 rfl rfl ?_
  refine Go.icmpN (pc' := 9) X0 hx hby d24_6 rfl (show ¬ ((6 : Int32) ≤ (2 : Int32)) from by decide) ?_
  refine Go.iconst (pc' := 10) X0 hx hby d24_9 rfl (v := (1 : Int32)) (by decide) ?_
  refine Go.goto (pc' := 14) X0 hx hby d24_10 (by decide) (by decide) ?_
  exact Go.retZ X0 hx hby hlk hret (by simp) d24_14 (by decide) (by decide) ⟨rfl, rfl, e0⟩
set_option maxRecDepth 65536 in
set_option maxHeartbeats 40000000 in
theorem rx47 (l : Launch) (Z : State) (a0 : Array Value) (hw : ∀ d ∈ tables_1, d.before a0 Z = true) (x0 : Int32) (x1 : Int32) (h0 : Heap) (e0_ : x0 = 3) (e1_ : x1 = 6) :
    Con l Z (⟨"com/example/glacis/glacis/analysis/BddNodeProbabilitiesPinLaw", "inRange", "(II)Z"⟩ : MethodName) method_2_code 2 (some .boolean) [] ({ frames := 0, cells := 0, slots := 0, locals := 0 } : Room) #[(.int x0), (.int x1)] h0 (PQ (some (.int (1 : Int32))) h0) := by
  refine Con.of (plainFor_of_name pn_BddNodeProbabilitiesPinLaw) ?_
  intro p e s m below meth c s₁ hx hby hml hown hnm hret hlk hZ X0 e0
  refine Go.cast (ef_24 m x0 x1) ?_
  replace hown : s.vm.findClass "com/example/glacis/glacis/analysis/BddNodeProbabilitiesPinLaw" = some m.cls := hown
  subst e0_ e1_
  show Go p e below _ (s₁.setTop (mkF m 0 #[.val (.int (3 : Int32)), .val (.int (6 : Int32))] []))
  refine Go.iloadN (pc' := 1) X0 hx hby d24_0 rfl rfl ?_
  refine Go.ifN (pc' := 4) X0 hx hby d24_1 rfl (show ¬ ((3 : Int32) < 0) from by decide) ?_
  refine Go.iloadN (pc' := 5) X0 hx hby d24_4 rfl rfl ?_
  refine Go.iloadN (pc' := 6) X0 hx hby d24_5 rfl rfl ?_
  refine Go.icmpN (pc' := 9) X0 hx hby d24_6 rfl (show ¬ ((6 : Int32) ≤ (3 : Int32)) from by decide) ?_
  refine Go.iconst (pc' := 10) X0 hx hby d24_9 rfl (v := (1 : Int32)) (by decide) ?_
  refine Go.goto (pc' := 14) X0 hx hby d24_10 (by decide) (by decide) ?_
  exact Go.retZ X0 hx hby hlk hret (by simp) d24_14 (by decide) (by decide) ⟨rfl, rfl, e0⟩
set_option maxRecDepth 65536 in
set_option maxHeartbeats 40000000 in
theorem rx48 (l : Launch) (Z : State) (a0 : Array Value) (hw : ∀ d ∈ tables_1, d.before a0 Z = true) (x0 : Int32) (x1 : Int32) (h0 : Heap) (e0_ : x0 = 4) (e1_ : x1 = 6) :
    Con l Z (⟨"com/example/glacis/glacis/analysis/BddNodeProbabilitiesPinLaw", "inRange", "(II)Z"⟩ : MethodName) method_2_code 2 (some .boolean) [] ({ frames := 0, cells := 0, slots := 0, locals := 0 } : Room) #[(.int x0), (.int x1)] h0 (PQ (some (.int (1 : Int32))) h0) := by
  refine Con.of (plainFor_of_name pn_BddNodeProbabilitiesPinLaw) ?_
  intro p e s m below meth c s₁ hx hby hml hown hnm hret hlk hZ X0 e0
  refine Go.cast (ef_24 m x0 x1) ?_
  replace hown : s.vm.findClass "com/example/glacis/glacis/analysis/BddNodeProbabilitiesPinLaw" = some m.cls := hown
  subst e0_ e1_
  show Go p e below _ (s₁.setTop (mkF m 0 #[.val (.int (4 : Int32)), .val (.int (6 : Int32))] []))
  refine Go.iloadN (pc' := 1) X0 hx hby d24_0 rfl rfl ?_
  refine Go.ifN (pc' := 4) X0 hx hby d24_1 rfl (show ¬ ((4 : Int32) < 0) from by decide) ?_
  refine Go.iloadN (pc' := 5) X0 hx hby d24_4 rfl rfl ?_
  refine Go.iloadN (pc' := 6) X0 hx hby d24_5 rfl rfl ?_
  refine Go.icmpN (pc' := 9) X0 hx hby d24_6 rfl (show ¬ ((6 : Int32) ≤ (4 : Int32)) from by decide) ?_
  refine Go.iconst (pc' := 10) X0 hx hby d24_9 rfl (v := (1 : Int32)) (by decide) ?_
  refine Go.goto (pc' := 14) X0 hx hby d24_10 (by decide) (by decide) ?_
  exact Go.retZ X0 hx hby hlk hret (by simp) d24_14 (by decide) (by decide) ⟨rfl, rfl, e0⟩
set_option maxRecDepth 65536 in
set_option maxHeartbeats 40000000 in
theorem rx49 (l : Launch) (Z : State) (a0 : Array Value) (hw : ∀ d ∈ tables_1, d.before a0 Z = true) (x0 : Int32) (x1 : Int32) (h0 : Heap) (e0_ : x0 = 5) (e1_ : x1 = 6) :
    Con l Z (⟨"com/example/glacis/glacis/analysis/BddNodeProbabilitiesPinLaw", "inRange", "(II)Z"⟩ : MethodName) method_2_code 2 (some .boolean) [] ({ frames := 0, cells := 0, slots := 0, locals := 0 } : Room) #[(.int x0), (.int x1)] h0 (PQ (some (.int (1 : Int32))) h0) := by
  refine Con.of (plainFor_of_name pn_BddNodeProbabilitiesPinLaw) ?_
  intro p e s m below meth c s₁ hx hby hml hown hnm hret hlk hZ X0 e0
  refine Go.cast (ef_24 m x0 x1) ?_
  replace hown : s.vm.findClass "com/example/glacis/glacis/analysis/BddNodeProbabilitiesPinLaw" = some m.cls := hown
  subst e0_ e1_
  show Go p e below _ (s₁.setTop (mkF m 0 #[.val (.int (5 : Int32)), .val (.int (6 : Int32))] []))
  refine Go.iloadN (pc' := 1) X0 hx hby d24_0 rfl rfl ?_
  refine Go.ifN (pc' := 4) X0 hx hby d24_1 rfl (show ¬ ((5 : Int32) < 0) from by decide) ?_
  refine Go.iloadN (pc' := 5) X0 hx hby d24_4 rfl rfl ?_
  refine Go.iloadN (pc' := 6) X0 hx hby d24_5 rfl rfl ?_
  refine Go.icmpN (pc' := 9) X0 hx hby d24_6 rfl (show ¬ ((6 : Int32) ≤ (5 : Int32)) from by decide) ?_
  refine Go.iconst (pc' := 10) X0 hx hby d24_9 rfl (v := (1 : Int32)) (by decide) ?_
  refine Go.goto (pc' := 14) X0 hx hby d24_10 (by decide) (by decide) ?_
  exact Go.retZ X0 hx hby hlk hret (by simp) d24_14 (by decide) (by decide) ⟨rfl, rfl, e0⟩
theorem ef_0 (m : MethodId) (x0 : Int32) (x1 : Int32) (x2 : Int32) : entryFrame m #[(.int x0), (.int x1), (.int x2)] maxLocals = mkF m 0 #[.val (.int x0), .val (.int x1), .val (.int x2), .unset, .unset, .unset, .unset, .unset, .unset, .unset, .unset, .unset, .unset, .unset, .unset, .unset, .unset, .unset, .unset] [] := by first | (simp [entryFrame, mkF, argsToLocals, Value.category, maxLocals]; done) | rfl
set_option maxRecDepth 65536 in
set_option maxHeartbeats 40000000 in
theorem rm0 (l : Launch) (Z : State) (a0 : Array Value) (hw : ∀ d ∈ tables_1, d.before a0 Z = true) (x0 : Int32) (x1 : Int32) (x2 : Int32) (h0 : Heap) :
    Con l Z x code maxLocals ret tables_1 room_1 #[(.int x0), (.int x1), (.int x2)] h0 (LQ h0.size) := by
  refine Con.of (plainFor_of_name pn_BddNodeProbabilitiesPinLaw) ?_
  intro p e s m below meth c s₁ hx hby hml hown hnm hret hlk hZ X0 e0
  refine Go.cast (ef_0 m x0 x1 x2) ?_
  change c.maxLocals = 19 at hml
  replace hown : s.vm.findClass "com/example/glacis/glacis/analysis/BddNodeProbabilitiesPinLaw" = some m.cls := hown
  refine Go.iloadN (pc' := 1) X0 hx hby at_0 rfl rfl ?_
  refine Go.ldcI (pc' := 3) X0 hx hby at_1 rfl hown (mvT hZ (hw _ (List.mem_of_getElem? (i := 0) rfl))) ?_
  refine Go.iand (pc' := 4) X0 hx hby at_3 rfl ?_
  refine Go.sipush (pc' := 7) X0 hx hby at_4 rfl (v := (1025 : Int32)) (by decide) ?_
  refine Go.irem (pc' := 8) X0 hx hby at_7 rfl (by decide) ?_
  refine Go.nmI (fun (ka : Int32) (hka : ka = (x1 &&& (2147483647 : Int32)) % (1025 : Int32)) => ?_)
  refine Go.istoreN (Ls' := #[.val (.int x0), .val (.int x1), .val (.int x2), .val (.int ka), .unset, .unset, .unset, .unset, .unset, .unset, .unset, .unset, .unset, .unset, .unset, .unset, .unset, .unset, .unset]) (pc' := 9) X0 hx hby at_8 rfl rfl ?_
  refine Go.iloadN (pc' := 10) X0 hx hby at_9 rfl rfl ?_
  refine Go.ldcI (pc' := 12) X0 hx hby at_10 rfl hown (mvT hZ (hw _ (List.mem_of_getElem? (i := 0) rfl))) ?_
  refine Go.iand (pc' := 13) X0 hx hby at_12 rfl ?_
  refine Go.sipush (pc' := 16) X0 hx hby at_13 rfl (v := (1025 : Int32)) (by decide) ?_
  have b_ka := own_kb hka
  refine Go.irem (pc' := 17) X0 hx hby at_16 rfl (by decide) ?_
  refine Go.nmI (fun (kb : Int32) (hkb : kb = (x2 &&& (2147483647 : Int32)) % (1025 : Int32)) => ?_)
  refine Go.istore (Ls' := #[.val (.int x0), .val (.int x1), .val (.int x2), .val (.int ka), .val (.int kb), .unset, .unset, .unset, .unset, .unset, .unset, .unset, .unset, .unset, .unset, .unset, .unset, .unset, .unset]) (pc' := 19) X0 hx hby at_17 rfl rfl ?_
  refine Go.iloadN (pc' := 20) X0 hx hby at_19 rfl rfl ?_
  have b_kb := own_kb hkb
  clear hka hkb
  obtain ⟨i, hi, i1⟩ : ∃ i : Nat, ka.toInt.toNat = i ∧ i ≤ 1024 := ⟨_, rfl, by omega⟩
  obtain ⟨j, hj, j1⟩ : ∃ j : Nat, kb.toInt.toNat = j ∧ j ≤ 1024 := ⟨_, rfl, by omega⟩
  refine Go.i2d (pc' := 21) X0 hx hby at_20 rfl ?_
  refine Go.ldc2D (pc' := 24) X0 hx hby at_21 rfl hZ hown (hw _ (List.mem_of_getElem? (i := 1) rfl)) ?_
  refine Go.ddiv (w := own_dy (i * 1024)) (pc' := 25) X0 hx hby at_24 rfl (own_nn (by omega)) (hi ▸ own_ddiv b_ka.1 b_ka.2) ?_
  refine Go.dstore (Ls' := #[.val (.int x0), .val (.int x1), .val (.int x2), .val (.int ka), .val (.int kb), .val (.double (own_dy (i * 1024))), .second, .unset, .unset, .unset, .unset, .unset, .unset, .unset, .unset, .unset, .unset, .unset, .unset]) (pc' := 27) X0 hx hby at_25 rfl rfl ?_
  refine Go.iload (pc' := 29) X0 hx hby at_27 rfl rfl ?_
  refine Go.i2d (pc' := 30) X0 hx hby at_29 rfl ?_
  refine Go.ldc2D (pc' := 33) X0 hx hby at_30 rfl hZ hown (hw _ (List.mem_of_getElem? (i := 1) rfl)) ?_
  refine Go.ddiv (w := own_dy (j * 1024)) (pc' := 34) X0 hx hby at_33 rfl (own_nn (by omega)) (hj ▸ own_ddiv b_kb.1 b_kb.2) ?_
  refine Go.dstore (Ls' := #[.val (.int x0), .val (.int x1), .val (.int x2), .val (.int ka), .val (.int kb), .val (.double (own_dy (i * 1024))), .second, .val (.double (own_dy (j * 1024))), .second, .unset, .unset, .unset, .unset, .unset, .unset, .unset, .unset, .unset, .unset]) (pc' := 36) X0 hx hby at_34 rfl rfl ?_
  refine Go.new_ (pc' := 39) X0 hx hby hZ hown (hw _ (List.mem_of_getElem? (i := 2) rfl)) (hw _ (List.mem_of_getElem? (i := 3) rfl)) (hw _ (List.mem_of_getElem? (i := 4) rfl)) e0 at_36 rfl (by decide) (by decide) ?_
  intro b1 T2 h3 g4 X5 e6 E7 A8 D9
  have g10 : h0.size ≤ b1 := by rw [g4]; exact (Nat.le_refl _)
  have z11 : h0.size ≤ h3.size := Nat.le_trans (Nat.le_refl _) E7.1
  have f12 : Exa Z h3 b1 "com/example/glacis/glacis/analysis/Bdd" := A8
  have f13 : Fld Z h3 b1 "com/example/glacis/glacis/analysis/Bdd" "level" "[I" .null := D9 (Or.inl (hw _ (List.mem_of_getElem? (i := 13) rfl))) (ty := (.array .int)) (by decide)
  have f14 : Fld Z h3 b1 "com/example/glacis/glacis/analysis/Bdd" "low" "[I" .null := D9 (Or.inl (hw _ (List.mem_of_getElem? (i := 15) rfl))) (ty := (.array .int)) (by decide)
  have f15 : Fld Z h3 b1 "com/example/glacis/glacis/analysis/Bdd" "high" "[I" .null := D9 (Or.inl (hw _ (List.mem_of_getElem? (i := 17) rfl))) (ty := (.array .int)) (by decide)
  have f16 : Fld Z h3 b1 "com/example/glacis/glacis/analysis/Bdd" "chain" "[I" .null := D9 (Or.inl (hw _ (List.mem_of_getElem? (i := 19) rfl))) (ty := (.array .int)) (by decide)
  have f17 : Fld Z h3 b1 "com/example/glacis/glacis/analysis/Bdd" "buckets" "[I" .null := D9 (Or.inl (hw _ (List.mem_of_getElem? (i := 21) rfl))) (ty := (.array .int)) (by decide)
  have f18 : Fld Z h3 b1 "com/example/glacis/glacis/analysis/Bdd" "probabilities" "[D" .null := D9 (Or.inl (hw _ (List.mem_of_getElem? (i := 26) rfl))) (ty := (.array .double)) (by decide)
  have f19 : Fld Z h3 b1 "com/example/glacis/glacis/analysis/Bdd" "computed" "[Lcom/example/glacis/glacis/analysis/Bdd$Computed;" .null := D9 (Or.inr (hw _ (List.mem_of_getElem? (i := 43) rfl))) (ty := (.array (.object "com/example/glacis/glacis/analysis/Bdd$Computed"))) (by decide)
  have f20 : Fld Z h3 b1 "com/example/glacis/glacis/analysis/Bdd" "stackFirst" "[I" .null := D9 (Or.inl (hw _ (List.mem_of_getElem? (i := 45) rfl))) (ty := (.array .int)) (by decide)
  have f21 : Fld Z h3 b1 "com/example/glacis/glacis/analysis/Bdd" "stackSecond" "[I" .null := D9 (Or.inl (hw _ (List.mem_of_getElem? (i := 47) rfl))) (ty := (.array .int)) (by decide)
  have f22 : Fld Z h3 b1 "com/example/glacis/glacis/analysis/Bdd" "stackLevel" "[I" .null := D9 (Or.inl (hw _ (List.mem_of_getElem? (i := 49) rfl))) (ty := (.array .int)) (by decide)
  have f23 : Fld Z h3 b1 "com/example/glacis/glacis/analysis/Bdd" "stackLow" "[I" .null := D9 (Or.inl (hw _ (List.mem_of_getElem? (i := 51) rfl))) (ty := (.array .int)) (by decide)
  have f24 : Fld Z h3 b1 "com/example/glacis/glacis/analysis/Bdd" "stackPhase" "[I" .null := D9 (Or.inl (hw _ (List.mem_of_getElem? (i := 53) rfl))) (ty := (.array .int)) (by decide)
  have f25 : Fld Z h3 b1 "com/example/glacis/glacis/analysis/Bdd" "size" "I" (.int 0) := D9 (Or.inl (hw _ (List.mem_of_getElem? (i := 23) rfl))) (ty := .int) (by decide)
  have f26 : Fld Z h3 b1 "com/example/glacis/glacis/analysis/Bdd" "variables" "I" (.int 0) := D9 (Or.inl (hw _ (List.mem_of_getElem? (i := 80) rfl))) (ty := .int) (by decide)
  have f27 : Fld Z h3 b1 "com/example/glacis/glacis/analysis/Bdd" "slack" "I" (.int 0) := D9 (Or.inr (hw _ (List.mem_of_getElem? (i := 55) rfl))) (ty := .int) (by decide)
  have f28 : Fld Z h3 b1 "com/example/glacis/glacis/analysis/Bdd" "collectAt" "I" (.int 0) := D9 (Or.inl (hw _ (List.mem_of_getElem? (i := 57) rfl))) (ty := .int) (by decide)
  show Go p e below _ (T2.setTop (mkF m 39 #[.val (.int x0), .val (.int x1), .val (.int x2), .val (.int ka), .val (.int kb), .val (.double (own_dy (i * 1024))), .second, .val (.double (own_dy (j * 1024))), .second, .unset, .unset, .unset, .unset, .unset, .unset, .unset, .unset, .unset, .unset] [(.ref b1)]))
  refine Go.dup (pc' := 40) X5 hx hby at_39 rfl rfl ?_
  refine Go.iloadN (pc' := 41) X5 hx hby at_40 rfl rfl ?_
  refine Go.callI (pc' := 44) (a := b1) (W := 1) (argsL := [(.int x0)]) (rest := [(.ref b1)]) X5 hx hby rfl hZ hown (hw _ (List.mem_of_getElem? (i := 5) rfl)) (hw _ (List.mem_of_getElem? (i := 6) rfl)) (hw _ (List.mem_of_getElem? (i := 4) rfl)) (hw _ (List.mem_of_getElem? (i := 7) rfl)) (by decide) (rmBI l Z a0 hw b1 x0 h3 h0.size z11 g10 f12 f13 f14 f15 f16 f17 f18 f19 f20 f21 f22 f23 f24 f25 f26 f27 f28) e6 (by decide) (by decide) (by rw [hml]; rfl) pd_5 rfl rfl rfl (Nat.le_of_eq rfl) at_41 rfl (by decide) (by decide) ?_
  rintro r29 T30 L31 X32 ⟨q0, q1, d, rfl, N1, B1⟩
  show Go p e below _ (T30.setTop (mkF m 44 #[.val (.int x0), .val (.int x1), .val (.int x2), .val (.int ka), .val (.int kb), .val (.double (own_dy (i * 1024))), .second, .val (.double (own_dy (j * 1024))), .second, .unset, .unset, .unset, .unset, .unset, .unset, .unset, .unset, .unset, .unset] [(.ref b1)]))
  refine Go.astore (Ls' := #[.val (.int x0), .val (.int x1), .val (.int x2), .val (.int ka), .val (.int kb), .val (.double (own_dy (i * 1024))), .second, .val (.double (own_dy (j * 1024))), .second, .val (.ref b1), .unset, .unset, .unset, .unset, .unset, .unset, .unset, .unset, .unset]) (pc' := 46) X32 hx hby at_44 rfl rfl rfl ?_
  refine Go.aload (pc' := 48) X32 hx hby at_46 rfl rfl rfl ?_
  refine Go.dload (pc' := 50) X32 hx hby at_48 rfl rfl ?_
  refine Go.callV (C := "com/example/glacis/glacis/analysis/Bdd") (pc' := 53) (a := b1) (W := 0) (argsL := [(.double (own_dy (i * 1024)))]) (rest := []) X32 hx hby hZ hown (hw _ (List.mem_of_getElem? (i := 74) rfl)) (hw _ (List.mem_of_getElem? (i := 75) rfl)) (notFace_of_selects (args := #[]) (mvT hZ (hw _ (List.mem_of_getElem? (i := 77) rfl)))) (hw _ (List.mem_of_getElem? (i := 77) rfl)) (hw _ (List.mem_of_getElem? (i := 76) rfl)) (hw _ (List.mem_of_getElem? (i := 4) rfl)) (hw _ (List.mem_of_getElem? (i := 78) rfl)) (by decide) (rx1 l Z a0 hw b1 (own_dy (i * 1024)) T30.heap h0.size q0 q1 d (2 : Int32) (0 : Int32) (own_f0 q0 q1)  B1 rfl) rfl B1.2.2.2.2.1 (by decide) (by decide) (by rw [hml]; rfl) pd_3 rfl rfl rfl (Nat.le_of_eq rfl) at_50 rfl (by decide) (by decide) ?_
  rintro r33 T34 L35 X36 ⟨rfl, Nn0_, Bn0_⟩
  show Go p e below _ (T34.setTop (mkF m 53 #[.val (.int x0), .val (.int x1), .val (.int x2), .val (.int ka), .val (.int kb), .val (.double (own_dy (i * 1024))), .second, .val (.double (own_dy (j * 1024))), .second, .val (.ref b1), .unset, .unset, .unset, .unset, .unset, .unset, .unset, .unset, .unset] [(.int (0 : Int32))]))
  refine Go.istore (Ls' := #[.val (.int x0), .val (.int x1), .val (.int x2), .val (.int ka), .val (.int kb), .val (.double (own_dy (i * 1024))), .second, .val (.double (own_dy (j * 1024))), .second, .val (.ref b1), .val (.int (0 : Int32)), .unset, .unset, .unset, .unset, .unset, .unset, .unset, .unset]) (pc' := 55) X36 hx hby at_53 rfl rfl ?_
  refine Go.aload (pc' := 57) X36 hx hby at_55 rfl rfl rfl ?_
  refine Go.dload (pc' := 59) X36 hx hby at_57 rfl rfl ?_
  refine Go.callV (C := "com/example/glacis/glacis/analysis/Bdd") (pc' := 62) (a := b1) (W := 0) (argsL := [(.double (own_dy (j * 1024)))]) (rest := []) X36 hx hby hZ hown (hw _ (List.mem_of_getElem? (i := 74) rfl)) (hw _ (List.mem_of_getElem? (i := 75) rfl)) (notFace_of_selects (args := #[]) (mvT hZ (hw _ (List.mem_of_getElem? (i := 77) rfl)))) (hw _ (List.mem_of_getElem? (i := 77) rfl)) (hw _ (List.mem_of_getElem? (i := 76) rfl)) (hw _ (List.mem_of_getElem? (i := 4) rfl)) (hw _ (List.mem_of_getElem? (i := 78) rfl)) (by decide) (rx2 l Z a0 hw b1 (own_dy (j * 1024)) T34.heap h0.size q0 q1 d (2 : Int32) (1 : Int32) (own_up (own_f0 q0 q1) 5 0 (.double (own_dy (i * 1024))))  Bn0_ rfl) rfl Bn0_.2.2.2.2.1 (by decide) (by decide) (by rw [hml]; rfl) pd_3 rfl rfl rfl (Nat.le_of_eq rfl) at_59 rfl (by decide) (by decide) ?_
  rintro r37 T38 L39 X40 ⟨rfl, Nn1_, Bn1_⟩
  show Go p e below _ (T38.setTop (mkF m 62 #[.val (.int x0), .val (.int x1), .val (.int x2), .val (.int ka), .val (.int kb), .val (.double (own_dy (i * 1024))), .second, .val (.double (own_dy (j * 1024))), .second, .val (.ref b1), .val (.int (0 : Int32)), .unset, .unset, .unset, .unset, .unset, .unset, .unset, .unset] [(.int (1 : Int32))]))
  refine Go.istore (Ls' := #[.val (.int x0), .val (.int x1), .val (.int x2), .val (.int ka), .val (.int kb), .val (.double (own_dy (i * 1024))), .second, .val (.double (own_dy (j * 1024))), .second, .val (.ref b1), .val (.int (0 : Int32)), .val (.int (1 : Int32)), .unset, .unset, .unset, .unset, .unset, .unset, .unset]) (pc' := 64) X40 hx hby at_62 rfl rfl ?_
  refine Go.aload (pc' := 66) X40 hx hby at_64 rfl rfl rfl ?_
  refine Go.iload (pc' := 68) X40 hx hby at_66 rfl rfl ?_
  refine Go.callV (C := "com/example/glacis/glacis/analysis/Bdd") (pc' := 71) (a := b1) (W := 0) (argsL := [(.int (0 : Int32))]) (rest := []) X40 hx hby hZ hown (hw _ (List.mem_of_getElem? (i := 81) rfl)) (hw _ (List.mem_of_getElem? (i := 82) rfl)) (notFace_of_selects (args := #[]) (mvT hZ (hw _ (List.mem_of_getElem? (i := 84) rfl)))) (hw _ (List.mem_of_getElem? (i := 84) rfl)) (hw _ (List.mem_of_getElem? (i := 83) rfl)) (hw _ (List.mem_of_getElem? (i := 4) rfl)) (hw _ (List.mem_of_getElem? (i := 85) rfl)) (by decide) (rx3 l Z a0 hw b1 (0 : Int32) T38.heap h0.size q0 q1 d (2 : Int32) (2 : Int32) (own_up (own_up (own_f0 q0 q1) 5 0 (.double (own_dy (i * 1024)))) 5 1 (.double (own_dy (j * 1024)))) rfl Bn1_ rfl rfl) rfl Bn1_.2.2.2.2.1 (by decide) (by decide) (by rw [hml]; rfl) pd_4 rfl rfl rfl (Nat.le_of_eq rfl) at_68 rfl (by decide) (by decide) ?_
  rintro r41 T42 L43 X44 ⟨rfl, Nn2_, Bn2_⟩
  show Go p e below _ (T42.setTop (mkF m 71 #[.val (.int x0), .val (.int x1), .val (.int x2), .val (.int ka), .val (.int kb), .val (.double (own_dy (i * 1024))), .second, .val (.double (own_dy (j * 1024))), .second, .val (.ref b1), .val (.int (0 : Int32)), .val (.int (1 : Int32)), .unset, .unset, .unset, .unset, .unset, .unset, .unset] [(.int (2 : Int32))]))
  refine Go.istore (Ls' := #[.val (.int x0), .val (.int x1), .val (.int x2), .val (.int ka), .val (.int kb), .val (.double (own_dy (i * 1024))), .second, .val (.double (own_dy (j * 1024))), .second, .val (.ref b1), .val (.int (0 : Int32)), .val (.int (1 : Int32)), .val (.int (2 : Int32)), .unset, .unset, .unset, .unset, .unset, .unset]) (pc' := 73) X44 hx hby at_71 rfl rfl ?_
  refine Go.aload (pc' := 75) X44 hx hby at_73 rfl rfl rfl ?_
  refine Go.iload (pc' := 77) X44 hx hby at_75 rfl rfl ?_
  refine Go.callV (C := "com/example/glacis/glacis/analysis/Bdd") (pc' := 80) (a := b1) (W := 0) (argsL := [(.int (1 : Int32))]) (rest := []) X44 hx hby hZ hown (hw _ (List.mem_of_getElem? (i := 81) rfl)) (hw _ (List.mem_of_getElem? (i := 82) rfl)) (notFace_of_selects (args := #[]) (mvT hZ (hw _ (List.mem_of_getElem? (i := 84) rfl)))) (hw _ (List.mem_of_getElem? (i := 84) rfl)) (hw _ (List.mem_of_getElem? (i := 83) rfl)) (hw _ (List.mem_of_getElem? (i := 4) rfl)) (hw _ (List.mem_of_getElem? (i := 85) rfl)) (by decide) (rx7 l Z a0 hw b1 (1 : Int32) T42.heap h0.size q0 q1 d (3 : Int32) (2 : Int32) (own_up (own_up (own_up (own_up (own_up (own_up (own_up (own_f0 q0 q1) 5 0 (.double (own_dy (i * 1024)))) 5 1 (.double (own_dy (j * 1024)))) 0 2 (.int (0 : Int32))) 1 2 (.int (0 : Int32))) 2 2 (.int (1 : Int32))) 3 2 (.int (-1 : Int32))) 4 856 (.int (2 : Int32))) rfl Bn2_ rfl rfl) rfl Bn2_.2.2.2.2.1 (by decide) (by decide) (by rw [hml]; rfl) pd_4 rfl rfl rfl (Nat.le_of_eq rfl) at_77 rfl (by decide) (by decide) ?_
  rintro r45 T46 L47 X48 ⟨rfl, Nn3_, Bn3_⟩
  show Go p e below _ (T46.setTop (mkF m 80 #[.val (.int x0), .val (.int x1), .val (.int x2), .val (.int ka), .val (.int kb), .val (.double (own_dy (i * 1024))), .second, .val (.double (own_dy (j * 1024))), .second, .val (.ref b1), .val (.int (0 : Int32)), .val (.int (1 : Int32)), .val (.int (2 : Int32)), .unset, .unset, .unset, .unset, .unset, .unset] [(.int (3 : Int32))]))
  refine Go.istore (Ls' := #[.val (.int x0), .val (.int x1), .val (.int x2), .val (.int ka), .val (.int kb), .val (.double (own_dy (i * 1024))), .second, .val (.double (own_dy (j * 1024))), .second, .val (.ref b1), .val (.int (0 : Int32)), .val (.int (1 : Int32)), .val (.int (2 : Int32)), .val (.int (3 : Int32)), .unset, .unset, .unset, .unset, .unset]) (pc' := 82) X48 hx hby at_80 rfl rfl ?_
  refine Go.aload (pc' := 84) X48 hx hby at_82 rfl rfl rfl ?_
  refine Go.iload (pc' := 86) X48 hx hby at_84 rfl rfl ?_
  refine Go.iload (pc' := 88) X48 hx hby at_86 rfl rfl ?_
  refine Go.callV (C := "com/example/glacis/glacis/analysis/Bdd") (pc' := 91) (a := b1) (W := 0) (argsL := [(.int (2 : Int32)), (.int (3 : Int32))]) (rest := []) X48 hx hby hZ hown (hw _ (List.mem_of_getElem? (i := 100) rfl)) (hw _ (List.mem_of_getElem? (i := 101) rfl)) (notFace_of_selects (args := #[]) (mvT hZ (hw _ (List.mem_of_getElem? (i := 103) rfl)))) (hw _ (List.mem_of_getElem? (i := 103) rfl)) (hw _ (List.mem_of_getElem? (i := 102) rfl)) (hw _ (List.mem_of_getElem? (i := 4) rfl)) (hw _ (List.mem_of_getElem? (i := 104) rfl)) (by decide) (rx11 l Z a0 hw b1 (2 : Int32) (3 : Int32) T46.heap h0.size q0 q1 d (4 : Int32) (2 : Int32) (own_up (own_up (own_up (own_up (own_up (own_up (own_up (own_up (own_up (own_up (own_up (own_up (own_f0 q0 q1) 5 0 (.double (own_dy (i * 1024)))) 5 1 (.double (own_dy (j * 1024)))) 0 2 (.int (0 : Int32))) 1 2 (.int (0 : Int32))) 2 2 (.int (1 : Int32))) 3 2 (.int (-1 : Int32))) 4 856 (.int (2 : Int32))) 0 3 (.int (1 : Int32))) 1 3 (.int (0 : Int32))) 2 3 (.int (1 : Int32))) 3 3 (.int (-1 : Int32))) 4 570 (.int (3 : Int32))) rfl rfl Bn3_ rfl rfl rfl rfl rfl rfl rfl rfl) rfl Bn3_.2.2.2.2.1 (by decide) (by decide) (by rw [hml]; rfl) pd_6 rfl rfl rfl (Nat.le_of_eq rfl) at_88 rfl (by decide) (by decide) ?_
  rintro r49 T50 L51 X52 ⟨rfl, Nn4_, Bn4_⟩
  show Go p e below _ (T50.setTop (mkF m 91 #[.val (.int x0), .val (.int x1), .val (.int x2), .val (.int ka), .val (.int kb), .val (.double (own_dy (i * 1024))), .second, .val (.double (own_dy (j * 1024))), .second, .val (.ref b1), .val (.int (0 : Int32)), .val (.int (1 : Int32)), .val (.int (2 : Int32)), .val (.int (3 : Int32)), .unset, .unset, .unset, .unset, .unset] [(.int (4 : Int32))]))
  refine Go.istore (Ls' := #[.val (.int x0), .val (.int x1), .val (.int x2), .val (.int ka), .val (.int kb), .val (.double (own_dy (i * 1024))), .second, .val (.double (own_dy (j * 1024))), .second, .val (.ref b1), .val (.int (0 : Int32)), .val (.int (1 : Int32)), .val (.int (2 : Int32)), .val (.int (3 : Int32)), .val (.int (4 : Int32)), .unset, .unset, .unset, .unset]) (pc' := 93) X52 hx hby at_91 rfl rfl ?_
  refine Go.aload (pc' := 95) X52 hx hby at_93 rfl rfl rfl ?_
  refine Go.iload (pc' := 97) X52 hx hby at_95 rfl rfl ?_
  refine Go.iload (pc' := 99) X52 hx hby at_97 rfl rfl ?_
  refine Go.callV (C := "com/example/glacis/glacis/analysis/Bdd") (pc' := 102) (a := b1) (W := 0) (argsL := [(.int (2 : Int32)), (.int (3 : Int32))]) (rest := []) X52 hx hby hZ hown (hw _ (List.mem_of_getElem? (i := 138) rfl)) (hw _ (List.mem_of_getElem? (i := 139) rfl)) (notFace_of_selects (args := #[]) (mvT hZ (hw _ (List.mem_of_getElem? (i := 141) rfl)))) (hw _ (List.mem_of_getElem? (i := 141) rfl)) (hw _ (List.mem_of_getElem? (i := 140) rfl)) (hw _ (List.mem_of_getElem? (i := 4) rfl)) (hw _ (List.mem_of_getElem? (i := 142) rfl)) (by decide) (rx36 l Z a0 hw b1 (2 : Int32) (3 : Int32) T50.heap h0.size q0 q1 d (5 : Int32) (2 : Int32) (own_up (own_up (own_up (own_up (own_up (own_up (own_up (own_up (own_up (own_up (own_up (own_up (own_up (own_up (own_up (own_up (own_up (own_up (own_up (own_up (own_up (own_up (own_up (own_up (own_up (own_up (own_up (own_up (own_up (own_up (own_up (own_up (own_up (own_f0 q0 q1) 5 0 (.double (own_dy (i * 1024)))) 5 1 (.double (own_dy (j * 1024)))) 0 2 (.int (0 : Int32))) 1 2 (.int (0 : Int32))) 2 2 (.int (1 : Int32))) 3 2 (.int (-1 : Int32))) 4 856 (.int (2 : Int32))) 0 3 (.int (1 : Int32))) 1 3 (.int (0 : Int32))) 2 3 (.int (1 : Int32))) 3 3 (.int (-1 : Int32))) 4 570 (.int (3 : Int32))) 7 0 (.int (2 : Int32))) 8 0 (.int (3 : Int32))) 11 0 (.int (0 : Int32))) 9 0 (.int (0 : Int32))) 11 0 (.int (1 : Int32))) 7 1 (.int (0 : Int32))) 8 1 (.int (3 : Int32))) 11 1 (.int (0 : Int32))) 10 0 (.int (0 : Int32))) 11 0 (.int (2 : Int32))) 7 1 (.int (1 : Int32))) 8 1 (.int (3 : Int32))) 11 1 (.int (0 : Int32))) 0 4 (.int (0 : Int32))) 1 4 (.int (0 : Int32))) 2 4 (.int (3 : Int32))) 3 4 (.int (-1 : Int32))) 4 647 (.int (4 : Int32))) 12 675 (.int (2 : Int32))) 13 675 (.int (3 : Int32))) 14 675 (.int (4 : Int32))) rfl rfl Bn4_ rfl rfl rfl rfl rfl rfl rfl rfl) rfl Bn4_.2.2.2.2.1 (by decide) (by decide) (by rw [hml]; rfl) pd_6 rfl rfl rfl (Nat.le_of_eq rfl) at_99 rfl (by decide) (by decide) ?_
  rintro r53 T54 L55 X56 ⟨rfl, Nn5_, Bn5_⟩
  show Go p e below _ (T54.setTop (mkF m 102 #[.val (.int x0), .val (.int x1), .val (.int x2), .val (.int ka), .val (.int kb), .val (.double (own_dy (i * 1024))), .second, .val (.double (own_dy (j * 1024))), .second, .val (.ref b1), .val (.int (0 : Int32)), .val (.int (1 : Int32)), .val (.int (2 : Int32)), .val (.int (3 : Int32)), .val (.int (4 : Int32)), .unset, .unset, .unset, .unset] [(.int (5 : Int32))]))
  refine Go.istore (Ls' := #[.val (.int x0), .val (.int x1), .val (.int x2), .val (.int ka), .val (.int kb), .val (.double (own_dy (i * 1024))), .second, .val (.double (own_dy (j * 1024))), .second, .val (.ref b1), .val (.int (0 : Int32)), .val (.int (1 : Int32)), .val (.int (2 : Int32)), .val (.int (3 : Int32)), .val (.int (4 : Int32)), .val (.int (5 : Int32)), .unset, .unset, .unset]) (pc' := 104) X56 hx hby at_102 rfl rfl ?_
  refine Go.aload (pc' := 106) X56 hx hby at_104 rfl rfl rfl ?_
  refine Go.callV (C := "com/example/glacis/glacis/analysis/Bdd") (pc' := 109) (a := b1) (W := 0) (argsL := []) (rest := []) X56 hx hby hZ hown (hw _ (List.mem_of_getElem? (i := 143) rfl)) (hw _ (List.mem_of_getElem? (i := 144) rfl)) (notFace_of_selects (args := #[]) (mvT hZ (hw _ (List.mem_of_getElem? (i := 146) rfl)))) (hw _ (List.mem_of_getElem? (i := 146) rfl)) (hw _ (List.mem_of_getElem? (i := 145) rfl)) (hw _ (List.mem_of_getElem? (i := 4) rfl)) (hw _ (List.mem_of_getElem? (i := 147) rfl)) (by decide) (rmNP l Z a0 hw b1 T54.heap h0.size q0 q1 d (2 : Int32) (own_up (own_up (own_up (own_up (own_up (own_up (own_up (own_up (own_up (own_up (own_up (own_up (own_up (own_up (own_up (own_up (own_up (own_up (own_up (own_up (own_up (own_up (own_up (own_up (own_up (own_up (own_up (own_up (own_up (own_up (own_up (own_up (own_up (own_up (own_up (own_up (own_up (own_up (own_up (own_up (own_up (own_up (own_up (own_up (own_up (own_up (own_up (own_up (own_up (own_up (own_up (own_up (own_up (own_up (own_f0 q0 q1) 5 0 (.double (own_dy (i * 1024)))) 5 1 (.double (own_dy (j * 1024)))) 0 2 (.int (0 : Int32))) 1 2 (.int (0 : Int32))) 2 2 (.int (1 : Int32))) 3 2 (.int (-1 : Int32))) 4 856 (.int (2 : Int32))) 0 3 (.int (1 : Int32))) 1 3 (.int (0 : Int32))) 2 3 (.int (1 : Int32))) 3 3 (.int (-1 : Int32))) 4 570 (.int (3 : Int32))) 7 0 (.int (2 : Int32))) 8 0 (.int (3 : Int32))) 11 0 (.int (0 : Int32))) 9 0 (.int (0 : Int32))) 11 0 (.int (1 : Int32))) 7 1 (.int (0 : Int32))) 8 1 (.int (3 : Int32))) 11 1 (.int (0 : Int32))) 10 0 (.int (0 : Int32))) 11 0 (.int (2 : Int32))) 7 1 (.int (1 : Int32))) 8 1 (.int (3 : Int32))) 11 1 (.int (0 : Int32))) 0 4 (.int (0 : Int32))) 1 4 (.int (0 : Int32))) 2 4 (.int (3 : Int32))) 3 4 (.int (-1 : Int32))) 4 647 (.int (4 : Int32))) 12 675 (.int (2 : Int32))) 13 675 (.int (3 : Int32))) 14 675 (.int (4 : Int32))) 7 0 (.int (2 : Int32))) 8 0 (.int (3 : Int32))) 11 0 (.int (0 : Int32))) 9 0 (.int (0 : Int32))) 11 0 (.int (1 : Int32))) 7 1 (.int (0 : Int32))) 8 1 (.int (3 : Int32))) 11 1 (.int (0 : Int32))) 10 0 (.int (3 : Int32))) 11 0 (.int (2 : Int32))) 7 1 (.int (1 : Int32))) 8 1 (.int (3 : Int32))) 11 1 (.int (0 : Int32))) 0 5 (.int (0 : Int32))) 1 5 (.int (3 : Int32))) 2 5 (.int (1 : Int32))) 3 5 (.int (-1 : Int32))) 4 334 (.int (5 : Int32))) 15 675 (.int (2 : Int32))) 16 675 (.int (3 : Int32))) 17 675 (.int (5 : Int32))) i j Bn5_ i1 j1 rfl rfl rfl rfl rfl rfl rfl rfl rfl rfl rfl rfl rfl rfl) rfl Bn5_.2.2.2.2.1 (by decide) (by decide) (by rw [hml]; rfl) pd_2 rfl rfl rfl (Nat.le_of_eq rfl) at_106 rfl (by decide) (by decide) ?_
  rintro r57 T58 L59 X60 ⟨r, rfl, Nr_, Kr_, Ar_⟩
  have Br_ := Bn5_.keep Kr_
  show Go p e below _ (T58.setTop (mkF m 109 #[.val (.int x0), .val (.int x1), .val (.int x2), .val (.int ka), .val (.int kb), .val (.double (own_dy (i * 1024))), .second, .val (.double (own_dy (j * 1024))), .second, .val (.ref b1), .val (.int (0 : Int32)), .val (.int (1 : Int32)), .val (.int (2 : Int32)), .val (.int (3 : Int32)), .val (.int (4 : Int32)), .val (.int (5 : Int32)), .unset, .unset, .unset] [(.ref r)]))
  refine Go.astore (Ls' := #[.val (.int x0), .val (.int x1), .val (.int x2), .val (.int ka), .val (.int kb), .val (.double (own_dy (i * 1024))), .second, .val (.double (own_dy (j * 1024))), .second, .val (.ref b1), .val (.int (0 : Int32)), .val (.int (1 : Int32)), .val (.int (2 : Int32)), .val (.int (3 : Int32)), .val (.int (4 : Int32)), .val (.int (5 : Int32)), .val (.ref r), .unset, .unset]) (pc' := 111) X60 hx hby at_109 rfl rfl rfl ?_
  refine Go.aload (pc' := 113) X60 hx hby at_111 rfl rfl rfl ?_
  refine Go.alen (pc' := 114) (zv := (6 : Int32)) X60 hx hby hZ rfl Ar_ at_113 rfl (by decide) ?_
  refine Go.istore (Ls' := #[.val (.int x0), .val (.int x1), .val (.int x2), .val (.int ka), .val (.int kb), .val (.double (own_dy (i * 1024))), .second, .val (.double (own_dy (j * 1024))), .second, .val (.ref b1), .val (.int (0 : Int32)), .val (.int (1 : Int32)), .val (.int (2 : Int32)), .val (.int (3 : Int32)), .val (.int (4 : Int32)), .val (.int (5 : Int32)), .val (.ref r), .val (.int (6 : Int32)), .unset]) (pc' := 116) X60 hx hby at_114 rfl rfl ?_
  refine Go.iload (pc' := 118) X60 hx hby at_116 rfl rfl ?_
  refine Go.aload (pc' := 120) X60 hx hby at_118 rfl rfl rfl ?_
  refine Go.callV (C := "com/example/glacis/glacis/analysis/Bdd") (pc' := 123) (a := b1) (W := 1) (argsL := []) (rest := [(.int (6 : Int32))]) X60 hx hby hZ hown (hw _ (List.mem_of_getElem? (i := 148) rfl)) (hw _ (List.mem_of_getElem? (i := 149) rfl)) (notFace_of_selects (args := #[]) (mvT hZ (hw _ (List.mem_of_getElem? (i := 151) rfl)))) (hw _ (List.mem_of_getElem? (i := 151) rfl)) (hw _ (List.mem_of_getElem? (i := 150) rfl)) (hw _ (List.mem_of_getElem? (i := 4) rfl)) (hw _ (List.mem_of_getElem? (i := 152) rfl)) (by decide) (rmSZ l Z a0 hw b1 T58.heap 6 Br_.2.2.2.2.2.2.2.2.1) rfl Br_.2.2.2.2.1 (by decide) (by decide) (by rw [hml]; rfl) pd_0 rfl rfl rfl (Nat.le_of_eq rfl) at_120 rfl (by decide) (by decide) ?_
  rintro r62 T63 L64 X65 ⟨rfl, rfl, e61⟩
  rw [List.append_nil] at X65
  show Go p e below _ (T63.setTop (mkF m 123 #[.val (.int x0), .val (.int x1), .val (.int x2), .val (.int ka), .val (.int kb), .val (.double (own_dy (i * 1024))), .second, .val (.double (own_dy (j * 1024))), .second, .val (.ref b1), .val (.int (0 : Int32)), .val (.int (1 : Int32)), .val (.int (2 : Int32)), .val (.int (3 : Int32)), .val (.int (4 : Int32)), .val (.int (5 : Int32)), .val (.ref r), .val (.int (6 : Int32)), .unset] [(.int (6 : Int32)), (.int (6 : Int32))]))
  refine Go.icmpN (pc' := 126) X65 hx hby at_123 rfl (show ¬ ((6 : Int32) ≠ (6 : Int32)) from by decide) ?_
  refine Go.iload (pc' := 128) X65 hx hby at_126 rfl rfl ?_
  refine Go.iconst (pc' := 129) X65 hx hby at_128 rfl (v := (2 : Int32)) (by decide) ?_
  refine Go.icmpY (pc' := 134) X65 hx hby at_129 (by decide) (by decide) (show (2 : Int32) ≤ (6 : Int32) from by decide) ?_
  refine Go.iload (pc' := 136) X65 hx hby at_134 rfl rfl ?_
  refine Go.iload (pc' := 138) X65 hx hby at_136 rfl rfl ?_
  have bij := own_ij i1 j1
  have bcj := own_cj (i := i) j1
  refine Go.callS (pc' := 141) (W := 0) (argsL := [(.int (2 : Int32)), (.int (6 : Int32))]) (rest := []) X65 hx hby hZ hown (hw _ (List.mem_of_getElem? (i := 153) rfl)) (hw _ (List.mem_of_getElem? (i := 154) rfl)) (hw _ (List.mem_of_getElem? (i := 155) rfl)) (hw _ (List.mem_of_getElem? (i := 156) rfl)) (by decide) (rx46 l Z a0 hw 2 6 T58.heap rfl rfl) e61 (by decide) (by decide) (by rw [hml]; rfl) pd_7 rfl rfl rfl (Nat.le_of_eq rfl) at_138 rfl (by decide) (by decide) ?_
  rintro r67 T68 L69 X70 ⟨rfl, rfl, e66⟩
  rw [List.append_nil] at X70
  show Go p e below _ (T68.setTop (mkF m 141 #[.val (.int x0), .val (.int x1), .val (.int x2), .val (.int ka), .val (.int kb), .val (.double (own_dy (i * 1024))), .second, .val (.double (own_dy (j * 1024))), .second, .val (.ref b1), .val (.int (0 : Int32)), .val (.int (1 : Int32)), .val (.int (2 : Int32)), .val (.int (3 : Int32)), .val (.int (4 : Int32)), .val (.int (5 : Int32)), .val (.ref r), .val (.int (6 : Int32)), .unset] [(.int (1 : Int32))]))
  refine Go.ifN (pc' := 144) X70 hx hby at_141 rfl (show ¬ ((1 : Int32) = 0) from by decide) ?_
  refine Go.iload (pc' := 146) X70 hx hby at_144 rfl rfl ?_
  refine Go.iload (pc' := 148) X70 hx hby at_146 rfl rfl ?_
  refine Go.callS (pc' := 151) (W := 0) (argsL := [(.int (3 : Int32)), (.int (6 : Int32))]) (rest := []) X70 hx hby hZ hown (hw _ (List.mem_of_getElem? (i := 153) rfl)) (hw _ (List.mem_of_getElem? (i := 154) rfl)) (hw _ (List.mem_of_getElem? (i := 155) rfl)) (hw _ (List.mem_of_getElem? (i := 156) rfl)) (by decide) (rx47 l Z a0 hw 3 6 T58.heap rfl rfl) e66 (by decide) (by decide) (by rw [hml]; rfl) pd_7 rfl rfl rfl (Nat.le_of_eq rfl) at_148 rfl (by decide) (by decide) ?_
  rintro r72 T73 L74 X75 ⟨rfl, rfl, e71⟩
  rw [List.append_nil] at X75
  show Go p e below _ (T73.setTop (mkF m 151 #[.val (.int x0), .val (.int x1), .val (.int x2), .val (.int ka), .val (.int kb), .val (.double (own_dy (i * 1024))), .second, .val (.double (own_dy (j * 1024))), .second, .val (.ref b1), .val (.int (0 : Int32)), .val (.int (1 : Int32)), .val (.int (2 : Int32)), .val (.int (3 : Int32)), .val (.int (4 : Int32)), .val (.int (5 : Int32)), .val (.ref r), .val (.int (6 : Int32)), .unset] [(.int (1 : Int32))]))
  refine Go.ifN (pc' := 154) X75 hx hby at_151 rfl (show ¬ ((1 : Int32) = 0) from by decide) ?_
  refine Go.iload (pc' := 156) X75 hx hby at_154 rfl rfl ?_
  refine Go.iload (pc' := 158) X75 hx hby at_156 rfl rfl ?_
  refine Go.callS (pc' := 161) (W := 0) (argsL := [(.int (4 : Int32)), (.int (6 : Int32))]) (rest := []) X75 hx hby hZ hown (hw _ (List.mem_of_getElem? (i := 153) rfl)) (hw _ (List.mem_of_getElem? (i := 154) rfl)) (hw _ (List.mem_of_getElem? (i := 155) rfl)) (hw _ (List.mem_of_getElem? (i := 156) rfl)) (by decide) (rx48 l Z a0 hw 4 6 T58.heap rfl rfl) e71 (by decide) (by decide) (by rw [hml]; rfl) pd_7 rfl rfl rfl (Nat.le_of_eq rfl) at_158 rfl (by decide) (by decide) ?_
  rintro r77 T78 L79 X80 ⟨rfl, rfl, e76⟩
  rw [List.append_nil] at X80
  show Go p e below _ (T78.setTop (mkF m 161 #[.val (.int x0), .val (.int x1), .val (.int x2), .val (.int ka), .val (.int kb), .val (.double (own_dy (i * 1024))), .second, .val (.double (own_dy (j * 1024))), .second, .val (.ref b1), .val (.int (0 : Int32)), .val (.int (1 : Int32)), .val (.int (2 : Int32)), .val (.int (3 : Int32)), .val (.int (4 : Int32)), .val (.int (5 : Int32)), .val (.ref r), .val (.int (6 : Int32)), .unset] [(.int (1 : Int32))]))
  refine Go.ifN (pc' := 164) X80 hx hby at_161 rfl (show ¬ ((1 : Int32) = 0) from by decide) ?_
  refine Go.iload (pc' := 166) X80 hx hby at_164 rfl rfl ?_
  refine Go.iload (pc' := 168) X80 hx hby at_166 rfl rfl ?_
  refine Go.callS (pc' := 171) (W := 0) (argsL := [(.int (5 : Int32)), (.int (6 : Int32))]) (rest := []) X80 hx hby hZ hown (hw _ (List.mem_of_getElem? (i := 153) rfl)) (hw _ (List.mem_of_getElem? (i := 154) rfl)) (hw _ (List.mem_of_getElem? (i := 155) rfl)) (hw _ (List.mem_of_getElem? (i := 156) rfl)) (by decide) (rx49 l Z a0 hw 5 6 T58.heap rfl rfl) e76 (by decide) (by decide) (by rw [hml]; rfl) pd_7 rfl rfl rfl (Nat.le_of_eq rfl) at_168 rfl (by decide) (by decide) ?_
  rintro r82 T83 L84 X85 ⟨rfl, rfl, e81⟩
  rw [List.append_nil] at X85
  show Go p e below _ (T83.setTop (mkF m 171 #[.val (.int x0), .val (.int x1), .val (.int x2), .val (.int ka), .val (.int kb), .val (.double (own_dy (i * 1024))), .second, .val (.double (own_dy (j * 1024))), .second, .val (.ref b1), .val (.int (0 : Int32)), .val (.int (1 : Int32)), .val (.int (2 : Int32)), .val (.int (3 : Int32)), .val (.int (4 : Int32)), .val (.int (5 : Int32)), .val (.ref r), .val (.int (6 : Int32)), .unset] [(.int (1 : Int32))]))
  refine Go.ifY (pc' := 176) X85 hx hby at_171 (by decide) (by decide) (show (1 : Int32) ≠ 0 from by decide) ?_
  refine Go.aload (pc' := 178) X85 hx hby at_176 rfl rfl rfl ?_
  refine Go.iconst (pc' := 179) X85 hx hby at_178 rfl (v := (0 : Int32)) (by decide) ?_
  refine Go.daload (pc' := 180) (i := 0) (v := (.double (own_dy (0)))) X85 hx hby hZ e81 Ar_ at_179 rfl (by decide) (by decide) (by decide) rfl ?_
  refine Go.dconst0 (pc' := 181) X85 hx hby at_180 rfl own_dc0 ?_
  refine Go.dcmp (n := 0) (pc' := 182) X85 hx hby at_181 rfl (own_dcmp (n := 0) (by omega) _) ?_
  refine Go.ifN (pc' := 185) X85 hx hby at_182 rfl (show ¬ ((0 : Int32) ≠ 0) from fun q => q rfl) ?_
  refine Go.aload (pc' := 187) X85 hx hby at_185 rfl rfl rfl ?_
  refine Go.iconst (pc' := 188) X85 hx hby at_187 rfl (v := (1 : Int32)) (by decide) ?_
  refine Go.daload (pc' := 189) (i := 1) (v := (.double (own_dy (1048576)))) X85 hx hby hZ e81 Ar_ at_188 rfl (by decide) (by decide) (by decide) rfl ?_
  refine Go.dconst1 (pc' := 190) X85 hx hby at_189 rfl own_dc1 ?_
  refine Go.dcmp (n := 0) (pc' := 191) X85 hx hby at_190 rfl (own_dcmp (n := 1048576) (by omega) _) ?_
  refine Go.ifN (pc' := 194) X85 hx hby at_191 rfl (show ¬ ((0 : Int32) ≠ 0) from fun q => q rfl) ?_
  refine Go.iconst (pc' := 195) X85 hx hby at_194 rfl (v := (1 : Int32)) (by decide) ?_
  refine Go.goto (pc' := 199) X85 hx hby at_195 (by decide) (by decide) ?_
  refine Go.istore (Ls' := #[.val (.int x0), .val (.int x1), .val (.int x2), .val (.int ka), .val (.int kb), .val (.double (own_dy (i * 1024))), .second, .val (.double (own_dy (j * 1024))), .second, .val (.ref b1), .val (.int (0 : Int32)), .val (.int (1 : Int32)), .val (.int (2 : Int32)), .val (.int (3 : Int32)), .val (.int (4 : Int32)), .val (.int (5 : Int32)), .val (.ref r), .val (.int (6 : Int32)), .val (.int (1 : Int32))]) (pc' := 201) X85 hx hby at_199 rfl rfl ?_
  refine Go.iload (pc' := 203) X85 hx hby at_201 rfl rfl ?_
  refine Go.ifN (pc' := 206) X85 hx hby at_203 rfl (show ¬ ((1 : Int32) = 0) from by decide) ?_
  refine Go.aload (pc' := 208) X85 hx hby at_206 rfl rfl rfl ?_
  refine Go.iload (pc' := 210) X85 hx hby at_208 rfl rfl ?_
  refine Go.daload (pc' := 211) (i := 2) (v := (.double (own_dy (i * 1024)))) X85 hx hby hZ e81 Ar_ at_210 rfl (by decide) (by decide) (by decide) rfl ?_
  refine Go.dload (pc' := 213) X85 hx hby at_211 rfl rfl ?_
  refine Go.dcmp (n := 0) (pc' := 214) X85 hx hby at_213 rfl (own_dcmp (n := i * 1024) (by omega) _) ?_
  refine Go.ifN (pc' := 217) X85 hx hby at_214 rfl (show ¬ ((0 : Int32) ≠ 0) from fun q => q rfl) ?_
  refine Go.iconst (pc' := 218) X85 hx hby at_217 rfl (v := (1 : Int32)) (by decide) ?_
  refine Go.goto (pc' := 222) X85 hx hby at_218 (by decide) (by decide) ?_
  refine Go.istore (Ls' := #[.val (.int x0), .val (.int x1), .val (.int x2), .val (.int ka), .val (.int kb), .val (.double (own_dy (i * 1024))), .second, .val (.double (own_dy (j * 1024))), .second, .val (.ref b1), .val (.int (0 : Int32)), .val (.int (1 : Int32)), .val (.int (2 : Int32)), .val (.int (3 : Int32)), .val (.int (4 : Int32)), .val (.int (5 : Int32)), .val (.ref r), .val (.int (6 : Int32)), .val (.int (1 : Int32))]) (pc' := 224) X85 hx hby at_222 rfl rfl ?_
  refine Go.iload (pc' := 226) X85 hx hby at_224 rfl rfl ?_
  refine Go.ifN (pc' := 229) X85 hx hby at_226 rfl (show ¬ ((1 : Int32) = 0) from by decide) ?_
  refine Go.aload (pc' := 231) X85 hx hby at_229 rfl rfl rfl ?_
  refine Go.iload (pc' := 233) X85 hx hby at_231 rfl rfl ?_
  refine Go.daload (pc' := 234) (i := 3) (v := (.double (own_dy (j * 1024)))) X85 hx hby hZ e81 Ar_ at_233 rfl (by decide) (by decide) (by decide) rfl ?_
  refine Go.dload (pc' := 236) X85 hx hby at_234 rfl rfl ?_
  refine Go.dcmp (n := 0) (pc' := 237) X85 hx hby at_236 rfl (own_dcmp (n := j * 1024) (by omega) _) ?_
  refine Go.ifN (pc' := 240) X85 hx hby at_237 rfl (show ¬ ((0 : Int32) ≠ 0) from fun q => q rfl) ?_
  refine Go.iconst (pc' := 241) X85 hx hby at_240 rfl (v := (1 : Int32)) (by decide) ?_
  refine Go.goto (pc' := 245) X85 hx hby at_241 (by decide) (by decide) ?_
  refine Go.istore (Ls' := #[.val (.int x0), .val (.int x1), .val (.int x2), .val (.int ka), .val (.int kb), .val (.double (own_dy (i * 1024))), .second, .val (.double (own_dy (j * 1024))), .second, .val (.ref b1), .val (.int (0 : Int32)), .val (.int (1 : Int32)), .val (.int (2 : Int32)), .val (.int (3 : Int32)), .val (.int (4 : Int32)), .val (.int (5 : Int32)), .val (.ref r), .val (.int (6 : Int32)), .val (.int (1 : Int32))]) (pc' := 247) X85 hx hby at_245 rfl rfl ?_
  refine Go.iload (pc' := 249) X85 hx hby at_247 rfl rfl ?_
  refine Go.ifN (pc' := 252) X85 hx hby at_249 rfl (show ¬ ((1 : Int32) = 0) from by decide) ?_
  refine Go.aload (pc' := 254) X85 hx hby at_252 rfl rfl rfl ?_
  refine Go.iload (pc' := 256) X85 hx hby at_254 rfl rfl ?_
  refine Go.daload (pc' := 257) (i := 4) (v := (.double (own_dy (i * j)))) X85 hx hby hZ e81 Ar_ at_256 rfl (by decide) (by decide) (by decide) rfl ?_
  refine Go.dload (pc' := 259) X85 hx hby at_257 rfl rfl ?_
  refine Go.dload (pc' := 261) X85 hx hby at_259 rfl rfl ?_
  refine Go.dmul (w := own_dy (i * j)) (pc' := 262) X85 hx hby at_261 rfl (own_nn (by omega)) (own_dmul (by omega) (by omega) (own_mij i j)) ?_
  refine Go.dcmp (n := 0) (pc' := 263) X85 hx hby at_262 rfl (own_dcmp (n := i * j) (by omega) _) ?_
  refine Go.ifN (pc' := 266) X85 hx hby at_263 rfl (show ¬ ((0 : Int32) ≠ 0) from fun q => q rfl) ?_
  refine Go.iconst (pc' := 267) X85 hx hby at_266 rfl (v := (1 : Int32)) (by decide) ?_
  refine Go.goto (pc' := 271) X85 hx hby at_267 (by decide) (by decide) ?_
  refine Go.istore (Ls' := #[.val (.int x0), .val (.int x1), .val (.int x2), .val (.int ka), .val (.int kb), .val (.double (own_dy (i * 1024))), .second, .val (.double (own_dy (j * 1024))), .second, .val (.ref b1), .val (.int (0 : Int32)), .val (.int (1 : Int32)), .val (.int (2 : Int32)), .val (.int (3 : Int32)), .val (.int (4 : Int32)), .val (.int (5 : Int32)), .val (.ref r), .val (.int (6 : Int32)), .val (.int (1 : Int32))]) (pc' := 273) X85 hx hby at_271 rfl rfl ?_
  refine Go.iload (pc' := 275) X85 hx hby at_273 rfl rfl ?_
  refine Go.ifN (pc' := 278) X85 hx hby at_275 rfl (show ¬ ((1 : Int32) = 0) from by decide) ?_
  refine Go.aload (pc' := 280) X85 hx hby at_278 rfl rfl rfl ?_
  refine Go.iload (pc' := 282) X85 hx hby at_280 rfl rfl ?_
  refine Go.daload (pc' := 283) (i := 5) (v := (.double (own_dy (i * 1024 + j * 1024 - i * j)))) X85 hx hby hZ e81 Ar_ at_282 rfl (by decide) (by decide) (by decide) (by rw [← own_fin i1]; rfl) ?_
  refine Go.dload (pc' := 285) X85 hx hby at_283 rfl rfl ?_
  refine Go.dload (pc' := 287) X85 hx hby at_285 rfl rfl ?_
  refine Go.dadd (w := own_dy (i * 1024 + j * 1024)) (pc' := 288) X85 hx hby at_287 rfl (own_nn (by omega)) (own_dadd (by omega) (by omega)) ?_
  refine Go.dload (pc' := 290) X85 hx hby at_288 rfl rfl ?_
  refine Go.dload (pc' := 292) X85 hx hby at_290 rfl rfl ?_
  refine Go.dmul (w := own_dy (i * j)) (pc' := 293) X85 hx hby at_292 rfl (own_nn (by omega)) (own_dmul (by omega) (by omega) (own_mij i j)) ?_
  have blt : i * j ≤ i * 1024 + j * 1024 := Nat.le_trans (Nat.mul_le_mul_left i j1) (by omega)
  refine Go.dsub (w := own_dy (i * 1024 + j * 1024 - i * j)) (pc' := 294) X85 hx hby at_293 rfl (own_nn (by omega)) (own_dsub (by omega) blt) ?_
  refine Go.dcmp (n := 0) (pc' := 295) X85 hx hby at_294 rfl (own_dcmp (n := i * 1024 + j * 1024 - i * j) (by omega) _) ?_
  refine Go.ifN (pc' := 298) X85 hx hby at_295 rfl (show ¬ ((0 : Int32) ≠ 0) from fun q => q rfl) ?_
  refine Go.iconst (pc' := 299) X85 hx hby at_298 rfl (v := (1 : Int32)) (by decide) ?_
  refine Go.goto (pc' := 303) X85 hx hby at_299 (by decide) (by decide) ?_
  refine Go.istore (Ls' := #[.val (.int x0), .val (.int x1), .val (.int x2), .val (.int ka), .val (.int kb), .val (.double (own_dy (i * 1024))), .second, .val (.double (own_dy (j * 1024))), .second, .val (.ref b1), .val (.int (0 : Int32)), .val (.int (1 : Int32)), .val (.int (2 : Int32)), .val (.int (3 : Int32)), .val (.int (4 : Int32)), .val (.int (5 : Int32)), .val (.ref r), .val (.int (6 : Int32)), .val (.int (1 : Int32))]) (pc' := 305) X85 hx hby at_303 rfl rfl ?_
  refine Go.iload (pc' := 307) X85 hx hby at_305 rfl rfl ?_
  exact Go.retZ X85 hx hby hlk hret (by simp) at_307 (by decide) (by decide) ⟨rfl, (Fr.app (Fr.app (Fr.app (Fr.app (Fr.app (Fr.app (Fr.app (Fr.app (Fr.nil _) N1) Nn0_) Nn1_) Nn2_) Nn3_) Nn4_) Nn5_) Nr_)⟩
set_option maxRecDepth 65536 in
set_option maxHeartbeats 40000000 in
theorem comes_1 {Post : Tables → Env → Array Value → State → Outcome → State → Prop} (hpost : ∀ tb e args s v u, (limb_1_1.after args s (.returned v) u = true ∧ limb_1_2.after args s (.returned v) u = true ∧ True) → FrameEnd s (.returned v) u (Jvm.fieldLocs frame_1_writes args s ++ Jvm.arrayLocs frame_1_arrays args s ++ Jvm.staticLocs frame_1_statics s) 64 23360 → Post tb e args s (.returned v) u) :
    ArmFor flags0 classFile x code maxLocals ret World_1 tables_1 room_1 Calls_1 rest_1 Pre_1 Post := by
  intro l hfl _ _ p e ha hc hk s m args below hf hA hF happ hP
  obtain ⟨hcalls, hrest, hpre⟩ := hP
  obtain ⟨-, -, -, hnamed, -, -, -, hat⟩ := (Spec.applies_iff hf).mp happ
  obtain ⟨hg, hn⟩ := and_e (Cond.before_iff.mp (show (Jvm.Cond.and given_1 narrow_1).before args s = true from hpre))
  obtain ⟨h1, g0⟩ := and_e hg
  obtain ⟨w0, w1, w2, rfl⟩ : ∃ w0 w1 w2 : Value, args = #[w0, w1, w2] := by
    have hs : args.size = 3 := by simpa [Cond.value, given_1] using h1
    obtain ⟨L⟩ := args
    match L, hs with
    | [w0, w1, w2], _ => exact ⟨w0, w1, w2, rfl⟩
  have hw := fun d (hd : d ∈ tables_1) => atoms_spec (ws := Jvm.Cond.code x code maxLocals ret :: tables_1) hat d (List.mem_cons_of_mem _ hd)
  have hfit : Fit s := fun {y c} hc i hi => by
    obtain ⟨ha, rfl⟩ := Array.getElem?_eq_some_iff.mp hc
    have q := List.all_eq_true.mp ((Array.all_eq_true_iff_forall_mem.mp hF) _ (Array.getElem_mem ha)) i (List.mem_range.mpr hi)
    simpa [Array.getElem?_eq_getElem hi] using q
  obtain ⟨k0, g1⟩ := and_e g0
  obtain ⟨i0, e0⟩ := is_v k0
  obtain rfl : w0 = (.int i0) := Option.some.inj e0
  obtain ⟨k1, g2⟩ := and_e g1
  obtain ⟨i1, e1⟩ := is_v k1
  obtain rfl : w1 = (.int i1) := Option.some.inj e1
  obtain ⟨i2, e2⟩ := is_v g2
  obtain rfl : w2 = (.int i2) := Option.some.inj e2
  obtain ⟨n, o, h1, h2, h3, _, L, rfl, ⟨rfl, N⟩, hq⟩ := rm0 l s _ hw i0 i1 i2 s.heap p e ha hc hk s m _ below hf ((Spec.applies_iff_loose hf).mp happ).1 ⟨rfl, State.Warmed39.refl s, rfl⟩ trivial
  refine ⟨n, _, h1, h2, h3, hpost _ _ _ _ _ _ ⟨Cond.after_iff.mpr rfl, Cond.after_iff.mpr (eq_i res_at (Term.int_eval (1)) rfl), trivial⟩ ⟨hq.1, hq.2.1, (hq.2.2.sift fun y hy => Or.inr (N y hy)).mono (by decide) (by decide)⟩⟩
theorem main_1_1 : Claimed_1_1 := comes_1 fun _ _ _ _ _ _ h hF => ⟨h.1, hF⟩
theorem main_1_2 : Claimed_1_2 := comes_1 fun _ _ _ _ _ _ h hF => ⟨h.2.1, hF⟩
end Jvm.Pilot.@@N@@
namespace Jvm.Pilot.@@N@@
open Jvm Jvm.ClassFile Sem Op Lib Jvm.Free Jvm.Stand Jvm.Pilot.@@N@@.Jvm.D
/-! MADE BY PROGRAM (witnessworld.py) out of the Statement's table words and the real class files: 15 classes; the members and pool entries that the words name. The judged class is class 1, her method 2. -/
namespace start1
open Jvm.ClassFile
def u (s : String) : CpInfo := .utf8 (stringToUtf16 s)
/-- a pool by its gaps: so many unusable entries, then the entry; so many at the end -/
def gap : Nat → List CpInfo → List CpInfo
  | 0, r => r
  | n + 1, r => .unusable :: gap n r
def poolList (es : List (Nat × CpInfo)) (last : Nat) : List CpInfo := es.foldr (fun e r => gap e.1 (e.2 :: r)) (gap last [])
def pool (es : List (Nat × CpInfo)) (last : Nat) : Array CpInfo := ⟨poolList es last⟩
def fileOf (pool : Array CpInfo) (this : Nat) (attrs : Array Attribute := #[]) (ms : Array MethodInfo := #[]) (fl : Nat := 33) (sup : Nat := 0) (ifs : Array Nat := #[]) (fds : Array FieldInfo := #[]) : ClassFile where
  minorVersion := 0
  majorVersion := 65
  constantPool := pool
  accessFlags := fl
  thisClass := this
  superClass := sup
  interfaces := ifs
  fields := fds
  methods := ms
  attributes := attrs
def plain (name : String) (sup : Option ClassId) : Class where
  name := name
  kind := .ordinary
  loader := none
  accessFlags := 33
  super := sup
  interfaces := #[]
  cf := none
  fields := #[]
  methods := #[]
  instanceTypes := #[]
  staticTypes := #[]
  resolved := #[]
  callSites := []
  init := .initialized
  statics := none
  mirror := none

def pool0 : Array CpInfo := pool [(5, u "<init>"), (0, u "()V"), (1, .class_ 10), (1, u "java/lang/Object")] 113

def k0c0 : Code := { maxStack := 0, maxLocals := 1, code := object_method_1_code, exceptionTable := #[], attributes := #[] }
def k0m0 : Method := { name := "<init>", desc := "()V", sig := { parameters := [], returnType := none }, accessFlags := 1, code := some k0c0 }
/-- java/lang/Object -/
def k0 : Class := { plain "java/lang/Object" none with
  accessFlags := 33
  interfaces := #[]
  cf := some (fileOf pool0 8 #[] #[{ accessFlags := 1, nameIndex := 5, descriptorIndex := 6, attributes := #[] }] 33 0 #[] #[])
  fields := #[]
  methods := #[k0m0]
  instanceTypes := #[]
  staticTypes := #[]
  resolved := Array.replicate 124 none
  statics := none }

def pool1 : Array CpInfo := pool [(2, .class_ 4), (1, u "java/lang/Object"), (0, u "<init>"), (0, u "()V"), (0, .integer 2147483647), (0, .double 4652218415073722368), (1, .class_ 11), (0, u "com/example/glacis/glacis/analysis/Bdd"), (0, .methodref 10 13), (0, .nameAndType 5 14), (0, u "(I)V"), (0, .methodref 10 16), (0, .nameAndType 17 18), (0, u "newVariable"), (0, u "(D)I"), (0, .methodref 10 20), (0, .nameAndType 21 22), (0, u "test"), (0, u "(I)I"), (0, .methodref 10 24), (0, .nameAndType 25 26), (0, u "and"), (0, u "(II)I"), (0, .methodref 10 28), (0, .nameAndType 29 26), (0, u "or"), (0, .methodref 10 31), (0, .nameAndType 32 33), (0, u "nodeProbabilities"), (0, u "()[D"), (0, .methodref 10 35), (0, .nameAndType 36 37), (0, u "size"), (0, u "()I"), (0, .methodref 39 40), (0, .class_ 41), (0, .nameAndType 42 43), (0, u "com/example/glacis/glacis/analysis/BddNodeProbabilitiesPinLaw"), (0, u "inRange"), (0, u "(II)Z"), (3, u "law"), (0, u "(III)Z")] 4

def k1m0 : Method := { name := "<init>", desc := "()V", sig := { parameters := [], returnType := none }, accessFlags := 1, code := none }
def k1c1 : Code := { maxStack := 2, maxLocals := 2, code := method_2_code, exceptionTable := #[], attributes := #[] }
def k1m1 : Method := { name := "inRange", desc := "(II)Z", sig := { parameters := [.int, .int], returnType := some .boolean }, accessFlags := 10, code := some k1c1 }
def k1c2 : Code := { maxStack := 8, maxLocals := 19, code := code, exceptionTable := #[], attributes := #[] }
def k1m2 : Method := { name := "law", desc := "(III)Z", sig := { parameters := [.int, .int, .int], returnType := some .boolean }, accessFlags := 9, code := some k1c2 }
/-- com/example/glacis/glacis/analysis/BddNodeProbabilitiesPinLaw -/
def k1 : Class := { plain "com/example/glacis/glacis/analysis/BddNodeProbabilitiesPinLaw" (some 0) with
  accessFlags := 49
  interfaces := #[]
  cf := some (fileOf pool1 39 #[] #[{ accessFlags := 1, nameIndex := 5, descriptorIndex := 6, attributes := #[] }, { accessFlags := 10, nameIndex := 42, descriptorIndex := 43, attributes := #[] }, { accessFlags := 9, nameIndex := 47, descriptorIndex := 48, attributes := #[] }] 49 2 #[] #[])
  fields := #[]
  methods := #[k1m0, k1m1, k1m2]
  instanceTypes := #[]
  staticTypes := #[]
  resolved := Array.replicate 53 none
  statics := none }

def pool2 : Array CpInfo := pool [(3, .methodref 4 5), (0, .class_ 6), (0, .nameAndType 7 8), (0, u "java/lang/Object"), (0, u "<init>"), (0, u "()V"), (0, .fieldref 10 11), (0, .class_ 12), (0, .nameAndType 13 14), (0, u "com/example/glacis/glacis/analysis/Bdd"), (0, u "level"), (0, u "[I"), (0, .fieldref 10 16), (0, .nameAndType 17 14), (0, u "low"), (0, .fieldref 10 19), (0, .nameAndType 20 14), (0, u "high"), (0, .fieldref 10 22), (0, .nameAndType 23 14), (0, u "chain"), (0, .fieldref 10 25), (0, .nameAndType 26 14), (0, u "buckets"), (0, .fieldref 10 28), (0, .nameAndType 29 30), (0, u "size"), (0, u "I"), (0, .fieldref 10 32), (0, .nameAndType 33 34), (0, u "probabilities"), (0, u "[D"), (0, .class_ 36), (0, u "com/example/glacis/glacis/analysis/Bdd$Computed"), (0, .methodref 35 5), (0, .fieldref 10 39), (0, .nameAndType 40 41), (0, u "computed"), (0, u "[Lcom/example/glacis/glacis/analysis/Bdd$Computed;"), (0, .fieldref 10 43), (0, .nameAndType 44 14), (0, u "stackFirst"), (0, .fieldref 10 46), (0, .nameAndType 47 14), (0, u "stackSecond"), (0, .fieldref 10 49), (0, .nameAndType 50 14), (0, u "stackLevel"), (0, .fieldref 10 52), (0, .nameAndType 53 14), (0, u "stackLow"), (0, .fieldref 10 55), (0, .nameAndType 56 14), (0, u "stackPhase"), (0, .fieldref 10 58), (0, .nameAndType 59 30), (0, u "slack"), (0, .fieldref 10 61), (0, .nameAndType 62 30), (0, u "collectAt"), (0, .integer 2147483647), (0, .methodref 65 66), (0, .class_ 67), (0, .nameAndType 68 69), (0, u "java/util/Arrays"), (0, u "fill"), (0, u "([II)V"), (0, .methodref 35 71), (0, .nameAndType 72 73), (0, u "resize"), (0, u "(I)V"), (0, .fieldref 10 75), (0, .nameAndType 76 30), (0, u "variables"), (4, .methodref 10 82), (0, .nameAndType 83 84), (0, u "node"), (0, u "(III)I"), (0, .methodref 10 86), (0, .nameAndType 87 84), (0, u "apply"), (10, .methodref 10 99), (0, .nameAndType 100 84), (0, u "push"), (0, .methodref 10 102), (0, .nameAndType 103 84), (0, u "terminalCase"), (0, .methodref 35 105), (0, .nameAndType 106 107), (0, u "get"), (0, u "(II)I"), (0, .methodref 109 110), (0, .class_ 111), (0, .nameAndType 112 107), (0, u "java/lang/Math"), (0, u "min"), (0, .methodref 10 114), (0, .nameAndType 115 116), (0, u "cofactor"), (0, u "(IIZ)I"), (0, .methodref 35 118), (0, .nameAndType 119 120), (0, u "put"), (0, u "(III)V"), (3, .methodref 109 125), (0, .nameAndType 126 107), (0, u "max"), (0, .methodref 10 128), (0, .nameAndType 129 84), (0, u "find"), (3, .methodref 10 134), (0, .nameAndType 135 84), (0, u "hash"), (1, .integer 2654435761), (0, .integer 2246822519), (0, .integer 3266489917), (0, u "FALSE"), (2, u "TRUE"), (1, u "NONE"), (1, u "TERMINAL"), (0, u "AND"), (0, u "OR"), (0, u "CACHE_LIMIT"), (4, u "newVariable"), (0, u "(D)I"), (0, u "test"), (0, u "(I)I"), (0, u "and"), (0, u "or"), (3, u "()I"), (5, u "nodeProbabilities"), (0, u "()[D")] 6

def k2c0 : Code := { maxStack := 6, maxLocals := 6, code := prog_2_method_1_code, exceptionTable := #[], attributes := #[] }
def k2m0 : Method := { name := "<init>", desc := "(I)V", sig := { parameters := [.int], returnType := none }, accessFlags := 0, code := some k2c0 }
def k2c1 : Code := { maxStack := 4, maxLocals := 3, code := prog_2_method_2_code, exceptionTable := #[], attributes := #[] }
def k2m1 : Method := { name := "newVariable", desc := "(D)I", sig := { parameters := [.double], returnType := some .int }, accessFlags := 0, code := some k2c1 }
def k2c2 : Code := { maxStack := 4, maxLocals := 2, code := prog_2_method_3_code, exceptionTable := #[], attributes := #[] }
def k2m2 : Method := { name := "test", desc := "(I)I", sig := { parameters := [.int], returnType := some .int }, accessFlags := 0, code := some k2c2 }
def k2c3 : Code := { maxStack := 4, maxLocals := 3, code := prog_2_method_4_code, exceptionTable := #[], attributes := #[] }
def k2m3 : Method := { name := "and", desc := "(II)I", sig := { parameters := [.int, .int], returnType := some .int }, accessFlags := 0, code := some k2c3 }
def k2c4 : Code := { maxStack := 4, maxLocals := 3, code := prog_2_method_5_code, exceptionTable := #[], attributes := #[] }
def k2m4 : Method := { name := "or", desc := "(II)I", sig := { parameters := [.int, .int], returnType := some .int }, accessFlags := 0, code := some k2c4 }
def k2c5 : Code := { maxStack := 1, maxLocals := 1, code := prog_2_method_7_code, exceptionTable := #[], attributes := #[] }
def k2m5 : Method := { name := "size", desc := "()I", sig := { parameters := [], returnType := some .int }, accessFlags := 0, code := some k2c5 }
def k2c6 : Code := { maxStack := 9, maxLocals := 5, code := prog_2_method_10_code, exceptionTable := #[], attributes := #[] }
def k2m6 : Method := { name := "nodeProbabilities", desc := "()[D", sig := { parameters := [], returnType := some (.array .double) }, accessFlags := 0, code := some k2c6 }
def k2c7 : Code := { maxStack := 7, maxLocals := 11, code := prog_2_method_11_code, exceptionTable := #[], attributes := #[] }
def k2m7 : Method := { name := "apply", desc := "(III)I", sig := { parameters := [.int, .int, .int], returnType := some .int }, accessFlags := 2, code := some k2c7 }
def k2c8 : Code := { maxStack := 4, maxLocals := 5, code := prog_2_method_12_code, exceptionTable := #[], attributes := #[] }
def k2m8 : Method := { name := "push", desc := "(III)I", sig := { parameters := [.int, .int, .int], returnType := some .int }, accessFlags := 2, code := some k2c8 }
def k2c9 : Code := { maxStack := 2, maxLocals := 4, code := prog_2_method_13_code, exceptionTable := #[], attributes := #[] }
def k2m9 : Method := { name := "terminalCase", desc := "(III)I", sig := { parameters := [.int, .int, .int], returnType := some .int }, accessFlags := 10, code := some k2c9 }
def k2c10 : Code := { maxStack := 2, maxLocals := 5, code := prog_2_method_14_code, exceptionTable := #[], attributes := #[] }
def k2m10 : Method := { name := "cofactor", desc := "(IIZ)I", sig := { parameters := [.int, .int, .boolean], returnType := some .int }, accessFlags := 2, code := some k2c10 }
def k2c11 : Code := { maxStack := 4, maxLocals := 6, code := prog_2_method_15_code, exceptionTable := #[], attributes := #[] }
def k2m11 : Method := { name := "node", desc := "(III)I", sig := { parameters := [.int, .int, .int], returnType := some .int }, accessFlags := 2, code := some k2c11 }
def k2c12 : Code := { maxStack := 3, maxLocals := 6, code := prog_2_method_16_code, exceptionTable := #[], attributes := #[] }
def k2m12 : Method := { name := "find", desc := "(III)I", sig := { parameters := [.int, .int, .int], returnType := some .int }, accessFlags := 2, code := some k2c12 }
def k2c13 : Code := { maxStack := 3, maxLocals := 4, code := prog_2_method_19_code, exceptionTable := #[], attributes := #[] }
def k2m13 : Method := { name := "hash", desc := "(III)I", sig := { parameters := [.int, .int, .int], returnType := some .int }, accessFlags := 10, code := some k2c13 }
/-- com/example/glacis/glacis/analysis/Bdd -/
def k2 : Class := { plain "com/example/glacis/glacis/analysis/Bdd" (some 0) with
  accessFlags := 48
  interfaces := #[]
  cf := some (fileOf pool2 10 #[.nestMembers #[35]] #[{ accessFlags := 0, nameIndex := 7, descriptorIndex := 73, attributes := #[] }, { accessFlags := 0, nameIndex := 155, descriptorIndex := 156, attributes := #[] }, { accessFlags := 0, nameIndex := 157, descriptorIndex := 158, attributes := #[] }, { accessFlags := 0, nameIndex := 159, descriptorIndex := 107, attributes := #[] }, { accessFlags := 0, nameIndex := 160, descriptorIndex := 107, attributes := #[] }, { accessFlags := 0, nameIndex := 29, descriptorIndex := 164, attributes := #[] }, { accessFlags := 0, nameIndex := 170, descriptorIndex := 171, attributes := #[] }, { accessFlags := 2, nameIndex := 87, descriptorIndex := 84, attributes := #[] }, { accessFlags := 2, nameIndex := 100, descriptorIndex := 84, attributes := #[] }, { accessFlags := 10, nameIndex := 103, descriptorIndex := 84, attributes := #[] }, { accessFlags := 2, nameIndex := 115, descriptorIndex := 116, attributes := #[] }, { accessFlags := 2, nameIndex := 83, descriptorIndex := 84, attributes := #[] }, { accessFlags := 2, nameIndex := 129, descriptorIndex := 84, attributes := #[] }, { accessFlags := 10, nameIndex := 135, descriptorIndex := 84, attributes := #[] }] 48 4 #[] #[{ accessFlags := 24, nameIndex := 140, descriptorIndex := 30, attributes := #[] }, { accessFlags := 24, nameIndex := 143, descriptorIndex := 30, attributes := #[] }, { accessFlags := 26, nameIndex := 145, descriptorIndex := 30, attributes := #[] }, { accessFlags := 26, nameIndex := 147, descriptorIndex := 30, attributes := #[] }, { accessFlags := 26, nameIndex := 148, descriptorIndex := 30, attributes := #[] }, { accessFlags := 26, nameIndex := 149, descriptorIndex := 30, attributes := #[] }, { accessFlags := 26, nameIndex := 150, descriptorIndex := 30, attributes := #[] }, { accessFlags := 18, nameIndex := 59, descriptorIndex := 30, attributes := #[] }, { accessFlags := 2, nameIndex := 62, descriptorIndex := 30, attributes := #[] }, { accessFlags := 2, nameIndex := 13, descriptorIndex := 14, attributes := #[] }, { accessFlags := 2, nameIndex := 17, descriptorIndex := 14, attributes := #[] }, { accessFlags := 2, nameIndex := 20, descriptorIndex := 14, attributes := #[] }, { accessFlags := 2, nameIndex := 23, descriptorIndex := 14, attributes := #[] }, { accessFlags := 2, nameIndex := 26, descriptorIndex := 14, attributes := #[] }, { accessFlags := 2, nameIndex := 29, descriptorIndex := 30, attributes := #[] }, { accessFlags := 2, nameIndex := 33, descriptorIndex := 34, attributes := #[] }, { accessFlags := 2, nameIndex := 76, descriptorIndex := 30, attributes := #[] }, { accessFlags := 18, nameIndex := 40, descriptorIndex := 41, attributes := #[] }, { accessFlags := 2, nameIndex := 44, descriptorIndex := 14, attributes := #[] }, { accessFlags := 2, nameIndex := 47, descriptorIndex := 14, attributes := #[] }, { accessFlags := 2, nameIndex := 50, descriptorIndex := 14, attributes := #[] }, { accessFlags := 2, nameIndex := 53, descriptorIndex := 14, attributes := #[] }, { accessFlags := 2, nameIndex := 56, descriptorIndex := 14, attributes := #[] }])
  fields := #[{ name := "FALSE", type := .int, accessFlags := 24, slot := 0, constantValue := 0 }, { name := "TRUE", type := .int, accessFlags := 24, slot := 1, constantValue := 0 }, { name := "NONE", type := .int, accessFlags := 26, slot := 2, constantValue := 0 }, { name := "TERMINAL", type := .int, accessFlags := 26, slot := 3, constantValue := 0 }, { name := "AND", type := .int, accessFlags := 26, slot := 4, constantValue := 0 }, { name := "OR", type := .int, accessFlags := 26, slot := 5, constantValue := 0 }, { name := "CACHE_LIMIT", type := .int, accessFlags := 26, slot := 6, constantValue := 0 }, { name := "slack", type := .int, accessFlags := 18, slot := 0, constantValue := 0 }, { name := "collectAt", type := .int, accessFlags := 2, slot := 1, constantValue := 0 }, { name := "level", type := (.array .int), accessFlags := 2, slot := 2, constantValue := 0 }, { name := "low", type := (.array .int), accessFlags := 2, slot := 3, constantValue := 0 }, { name := "high", type := (.array .int), accessFlags := 2, slot := 4, constantValue := 0 }, { name := "chain", type := (.array .int), accessFlags := 2, slot := 5, constantValue := 0 }, { name := "buckets", type := (.array .int), accessFlags := 2, slot := 6, constantValue := 0 }, { name := "size", type := .int, accessFlags := 2, slot := 7, constantValue := 0 }, { name := "probabilities", type := (.array .double), accessFlags := 2, slot := 8, constantValue := 0 }, { name := "variables", type := .int, accessFlags := 2, slot := 9, constantValue := 0 }, { name := "computed", type := (.array (.object "com/example/glacis/glacis/analysis/Bdd$Computed")), accessFlags := 18, slot := 10, constantValue := 0 }, { name := "stackFirst", type := (.array .int), accessFlags := 2, slot := 11, constantValue := 0 }, { name := "stackSecond", type := (.array .int), accessFlags := 2, slot := 12, constantValue := 0 }, { name := "stackLevel", type := (.array .int), accessFlags := 2, slot := 13, constantValue := 0 }, { name := "stackLow", type := (.array .int), accessFlags := 2, slot := 14, constantValue := 0 }, { name := "stackPhase", type := (.array .int), accessFlags := 2, slot := 15, constantValue := 0 }]
  methods := #[k2m0, k2m1, k2m2, k2m3, k2m4, k2m5, k2m6, k2m7, k2m8, k2m9, k2m10, k2m11, k2m12, k2m13]
  instanceTypes := #[.int, .int, (.array .int), (.array .int), (.array .int), (.array .int), (.array .int), .int, (.array .double), .int, (.array (.object "com/example/glacis/glacis/analysis/Bdd$Computed")), (.array .int), (.array .int), (.array .int), (.array .int), (.array .int)]
  staticTypes := #[.int, .int, .int, .int, .int, .int, .int]
  resolved := ((Array.replicate 178 none).set! 35 (some (.cls 3))).set! 37 (some (.method ⟨3, 0⟩))
  statics := none }

def pool3 : Array CpInfo := pool [(1, .class_ 2), (0, u "com/example/glacis/glacis/analysis/Bdd"), (0, .methodref 4 5), (0, .class_ 6), (0, .nameAndType 7 8), (0, u "java/lang/Object"), (0, u "<init>"), (0, u "()V"), (0, .fieldref 10 11), (0, .class_ 12), (0, .nameAndType 13 14), (0, u "com/example/glacis/glacis/analysis/Bdd$Computed"), (0, u "first"), (0, u "[I"), (0, .fieldref 10 16), (0, .nameAndType 17 14), (0, u "second"), (0, .fieldref 10 19), (0, .nameAndType 20 14), (0, u "result"), (0, .methodref 1 22), (0, .nameAndType 23 24), (0, u "hash"), (0, u "(III)I"), (0, .methodref 26 27), (0, .class_ 28), (0, .nameAndType 29 30), (0, u "java/util/Arrays"), (0, u "fill"), (0, u "([II)V"), (0, .methodref 10 32), (0, .nameAndType 33 8), (0, u "clear"), (2, u "get"), (0, u "(II)I"), (1, u "put"), (0, u "(III)V"), (0, u "resize"), (0, u "(I)V")] 5

def k3c0 : Code := { maxStack := 2, maxLocals := 1, code := prog_3_method_1_code, exceptionTable := #[], attributes := #[] }
def k3m0 : Method := { name := "<init>", desc := "()V", sig := { parameters := [], returnType := none }, accessFlags := 2, code := some k3c0 }
def k3c1 : Code := { maxStack := 3, maxLocals := 5, code := prog_3_method_2_code, exceptionTable := #[], attributes := #[] }
def k3m1 : Method := { name := "get", desc := "(II)I", sig := { parameters := [.int, .int], returnType := some .int }, accessFlags := 0, code := some k3c1 }
def k3c2 : Code := { maxStack := 3, maxLocals := 5, code := prog_3_method_3_code, exceptionTable := #[], attributes := #[] }
def k3m2 : Method := { name := "put", desc := "(III)V", sig := { parameters := [.int, .int, .int], returnType := none }, accessFlags := 0, code := some k3c2 }
def k3c3 : Code := { maxStack := 2, maxLocals := 1, code := prog_3_method_4_code, exceptionTable := #[], attributes := #[] }
def k3m3 : Method := { name := "clear", desc := "()V", sig := { parameters := [], returnType := none }, accessFlags := 0, code := some k3c3 }
def k3c4 : Code := { maxStack := 2, maxLocals := 2, code := prog_3_method_5_code, exceptionTable := #[], attributes := #[] }
def k3m4 : Method := { name := "resize", desc := "(I)V", sig := { parameters := [.int], returnType := none }, accessFlags := 0, code := some k3c4 }
/-- com/example/glacis/glacis/analysis/Bdd$Computed -/
def k3 : Class := { plain "com/example/glacis/glacis/analysis/Bdd$Computed" (some 0) with
  accessFlags := 48
  interfaces := #[]
  cf := some (fileOf pool3 10 #[.nestHost 1] #[{ accessFlags := 2, nameIndex := 7, descriptorIndex := 8, attributes := #[] }, { accessFlags := 0, nameIndex := 36, descriptorIndex := 37, attributes := #[] }, { accessFlags := 0, nameIndex := 39, descriptorIndex := 40, attributes := #[] }, { accessFlags := 0, nameIndex := 33, descriptorIndex := 8, attributes := #[] }, { accessFlags := 0, nameIndex := 41, descriptorIndex := 42, attributes := #[] }] 48 4 #[] #[{ accessFlags := 2, nameIndex := 13, descriptorIndex := 14, attributes := #[] }, { accessFlags := 2, nameIndex := 17, descriptorIndex := 14, attributes := #[] }, { accessFlags := 2, nameIndex := 20, descriptorIndex := 14, attributes := #[] }])
  fields := #[{ name := "first", type := (.array .int), accessFlags := 2, slot := 0, constantValue := 0 }, { name := "second", type := (.array .int), accessFlags := 2, slot := 1, constantValue := 0 }, { name := "result", type := (.array .int), accessFlags := 2, slot := 2, constantValue := 0 }]
  methods := #[k3m0, k3m1, k3m2, k3m3, k3m4]
  instanceTypes := #[(.array .int), (.array .int), (.array .int)]
  staticTypes := #[]
  resolved := Array.replicate 48 none
  statics := none }

def pool4 : Array CpInfo := pool [(2, .class_ 4), (1, u "java/lang/Object"), (0, u "<init>"), (0, u "()V"), (7, .class_ 16), (1, u "java/util/Arrays"), (57, .class_ 76), (1, u "java/util/Arrays$NaturalOrder"), (36, .class_ 115), (1, u "java/util/Arrays$LegacyMergeSort"), (1, u "Z"), (257, .class_ 376), (0, u "java/util/Arrays$ArrayList"), (68, u "$assertionsDisabled"), (269, u "MIN_ARRAY_SORT_GRAN"), (0, u "I"), (2, u "INSERTIONSORT_THRESHOLD"), (120, u "fill"), (4, u "([II)V"), (129, .class_ 976), (0, u "java/util/Arrays$ArrayItr")] 52

def k4m0 : Method := { name := "<init>", desc := "()V", sig := { parameters := [], returnType := none }, accessFlags := 2, code := none }
def k4c1 : Code := { maxStack := 3, maxLocals := 4, code := jdk_65_method_103_code, exceptionTable := #[], attributes := #[] }
def k4m1 : Method := { name := "fill", desc := "([II)V", sig := { parameters := [(.array .int), .int], returnType := none }, accessFlags := 9, code := some k4c1 }
/-- java/util/Arrays -/
def k4 : Class := { plain "java/util/Arrays" (some 0) with
  accessFlags := 49
  interfaces := #[]
  cf := some (fileOf pool4 14 #[.nestMembers #[975, 375, 113, 74]] #[{ accessFlags := 2, nameIndex := 5, descriptorIndex := 6, attributes := #[] }, { accessFlags := 9, nameIndex := 840, descriptorIndex := 845, attributes := #[] }] 49 2 #[] #[{ accessFlags := 26, nameIndex := 715, descriptorIndex := 716, attributes := #[] }, { accessFlags := 26, nameIndex := 719, descriptorIndex := 716, attributes := #[] }, { accessFlags := 4120, nameIndex := 445, descriptorIndex := 117, attributes := #[] }])
  fields := #[{ name := "MIN_ARRAY_SORT_GRAN", type := .int, accessFlags := 26, slot := 0, constantValue := 0 }, { name := "INSERTIONSORT_THRESHOLD", type := .int, accessFlags := 26, slot := 1, constantValue := 0 }, { name := "$assertionsDisabled", type := .boolean, accessFlags := 4120, slot := 2, constantValue := 0 }]
  methods := #[k4m0, k4m1]
  instanceTypes := #[]
  staticTypes := #[.int, .int, .boolean]
  resolved := Array.replicate 1029 none
  statics := none }

def pool5 : Array CpInfo := pool [(1, .class_ 2), (0, u "java/lang/Math"), (1, .class_ 6), (1, u "java/lang/Object"), (0, u "<init>"), (0, u "()V"), (89, .class_ 100), (1, u "java/lang/Math$RandomNumberGeneratorHolder"), (71, u "negativeZeroFloatBits"), (0, u "J"), (2, u "negativeZeroDoubleBits"), (21, u "max"), (2, u "min"), (43, u "$assertionsDisabled"), (0, u "Z"), (88, u "(II)I"), (2, u "twoToTheDoubleScaleDown"), (0, u "D"), (4, u "twoToTheDoubleScaleUp"), (9, u "E"), (3, u "PI"), (2, u "TAU"), (2, u "DEGREES_TO_RADIANS"), (0, u "RADIANS_TO_DEGREES")] 94

def k5m0 : Method := { name := "<init>", desc := "()V", sig := { parameters := [], returnType := none }, accessFlags := 2, code := none }
def k5c1 : Code := { maxStack := 2, maxLocals := 2, code := jdk_29_method_65_code, exceptionTable := #[], attributes := #[] }
def k5m1 : Method := { name := "max", desc := "(II)I", sig := { parameters := [.int, .int], returnType := some .int }, accessFlags := 9, code := some k5c1 }
def k5c2 : Code := { maxStack := 2, maxLocals := 2, code := jdk_29_method_69_code, exceptionTable := #[], attributes := #[] }
def k5m2 : Method := { name := "min", desc := "(II)I", sig := { parameters := [.int, .int], returnType := some .int }, accessFlags := 9, code := some k5c2 }
/-- java/lang/Math -/
def k5 : Class := { plain "java/lang/Math" (some 0) with
  accessFlags := 49
  interfaces := #[]
  cf := some (fileOf pool5 1 #[.nestMembers #[98]] #[{ accessFlags := 2, nameIndex := 7, descriptorIndex := 8, attributes := #[] }, { accessFlags := 9, nameIndex := 198, descriptorIndex := 335, attributes := #[] }, { accessFlags := 9, nameIndex := 201, descriptorIndex := 335, attributes := #[] }] 49 4 #[] #[{ accessFlags := 25, nameIndex := 354, descriptorIndex := 339, attributes := #[] }, { accessFlags := 25, nameIndex := 358, descriptorIndex := 339, attributes := #[] }, { accessFlags := 25, nameIndex := 361, descriptorIndex := 339, attributes := #[] }, { accessFlags := 26, nameIndex := 364, descriptorIndex := 339, attributes := #[] }, { accessFlags := 26, nameIndex := 365, descriptorIndex := 339, attributes := #[] }, { accessFlags := 26, nameIndex := 172, descriptorIndex := 173, attributes := #[] }, { accessFlags := 26, nameIndex := 176, descriptorIndex := 173, attributes := #[] }, { accessFlags := 8, nameIndex := 344, descriptorIndex := 339, attributes := #[] }, { accessFlags := 8, nameIndex := 338, descriptorIndex := 339, attributes := #[] }, { accessFlags := 4120, nameIndex := 245, descriptorIndex := 246, attributes := #[] }])
  fields := #[{ name := "E", type := .double, accessFlags := 25, slot := 0, constantValue := 0 }, { name := "PI", type := .double, accessFlags := 25, slot := 1, constantValue := 0 }, { name := "TAU", type := .double, accessFlags := 25, slot := 2, constantValue := 0 }, { name := "DEGREES_TO_RADIANS", type := .double, accessFlags := 26, slot := 3, constantValue := 0 }, { name := "RADIANS_TO_DEGREES", type := .double, accessFlags := 26, slot := 4, constantValue := 0 }, { name := "negativeZeroFloatBits", type := .long, accessFlags := 26, slot := 5, constantValue := 0 }, { name := "negativeZeroDoubleBits", type := .long, accessFlags := 26, slot := 6, constantValue := 0 }, { name := "twoToTheDoubleScaleUp", type := .double, accessFlags := 8, slot := 7, constantValue := 0 }, { name := "twoToTheDoubleScaleDown", type := .double, accessFlags := 8, slot := 8, constantValue := 0 }, { name := "$assertionsDisabled", type := .boolean, accessFlags := 4120, slot := 9, constantValue := 0 }]
  methods := #[k5m0, k5m1, k5m2]
  instanceTypes := #[]
  staticTypes := #[.double, .double, .double, .double, .double, .long, .long, .double, .double, .boolean]
  resolved := Array.replicate 460 none
  statics := none }

def pool6 : Array CpInfo := pool [(1, u "java/lang/Cloneable"), (0, .class_ 1), (0, u "java/lang/Object"), (0, .class_ 3)] 3

/-- java/lang/Cloneable -/
def k6 : Class := { plain "java/lang/Cloneable" (some 0) with
  accessFlags := 1537
  interfaces := #[]
  cf := some (fileOf pool6 2 #[] #[] 1537 4 #[] #[])
  fields := #[]
  methods := #[]
  instanceTypes := #[]
  staticTypes := #[]
  resolved := Array.replicate 8 none
  statics := none }

def pool7 : Array CpInfo := pool [(1, u "java/io/Serializable"), (0, .class_ 1), (0, u "java/lang/Object"), (0, .class_ 3)] 3

/-- java/io/Serializable -/
def k7 : Class := { plain "java/io/Serializable" (some 0) with
  accessFlags := 1537
  interfaces := #[]
  cf := some (fileOf pool7 2 #[] #[] 1537 4 #[] #[])
  fields := #[]
  methods := #[]
  instanceTypes := #[]
  staticTypes := #[]
  resolved := Array.replicate 8 none
  statics := none }

/-- the primitive byte -/
def k8 : Class := { plain "byte" none with kind := .primitive 'B', accessFlags := 0x411 }
/-- [B -/
def k9 : Class := { plain "[B" (some 0) with kind := .array 8 .byte, interfaces := #[6, 7], accessFlags := 1041 }

/-- the primitive double -/
def k10 : Class := { plain "double" none with kind := .primitive 'D', accessFlags := 0x411 }
/-- [D -/
def k11 : Class := { plain "[D" (some 0) with kind := .array 10 .double, interfaces := #[6, 7], accessFlags := 1041 }

/-- the primitive int -/
def k12 : Class := { plain "int" none with kind := .primitive 'I', accessFlags := 0x411 }
/-- [I -/
def k13 : Class := { plain "[I" (some 0) with kind := .array 12 .int, interfaces := #[6, 7], accessFlags := 1041 }

/-- [Lcom/example/glacis/glacis/analysis/Bdd$Computed; -/
def k14 : Class := { plain "[Lcom/example/glacis/glacis/analysis/Bdd$Computed;" (some 0) with kind := .array 3 (.object "com/example/glacis/glacis/analysis/Bdd$Computed"), interfaces := #[6, 7], accessFlags := 1041 }

def heap : Heap := #[]
def classes : Array Class := #[k0, k1, k2, k3, k4, k5, k6, k7, k8, k9, k10, k11, k12, k13, k14]
def interned : List (Array UInt16 × Addr) := []
def slotsUsed : Nat := 0
def theMethod : MethodId := ⟨1, 2⟩
def args0 : Array Value := #[.int 3, .int 300, .int 98]
def aboutOver (below : List Frame) : State where
  vm := { classes := classes, interned := interned.toArray }
  heap := heap
  slotsUsed := slotsUsed
  threads := #[{ frames := .invoking theMethod args0 :: below }]
def below0 : List Frame := [.native { method := ⟨0, 0⟩, args := #[] }]
def about1 : State := aboutOver below0
def p0 : Program := .bare "" "" ""
def e0 : Env := launch0.env 0 0 0
theorem w_frames : about1.frames = Frame.invoking theMethod args0 :: below0 := rfl
set_option maxRecDepth 65536 in
theorem w_args : argsFit about1.vm theMethod args0 = true := by decide +kernel
set_option maxRecDepth 65536 in
theorem w_heap : heapFits about1 = true := by decide +kernel
set_option maxRecDepth 65536 in
theorem w_runnable : about1.curStatus? = some .runnable := by decide +kernel
set_option maxRecDepth 65536 in
theorem w_alone : about1.alone = true := by decide +kernel
set_option maxRecDepth 65536 in
theorem w_named : about1.methodNamed? x = some theMethod := by decide +kernel
set_option maxRecDepth 65536 in
theorem w_hears : about1.hears theMethod below0 = true := by decide +kernel
set_option maxRecDepth 65536 in
theorem w_ripe : about1.ripe theMethod args0 below0 = true := by decide +kernel
theorem w_running : about1.status = .running := rfl
set_option maxRecDepth 65536 in
theorem w_room : about1.hasRoom e0.platform room_1 = true :=
  launch0.hasRoom_least _ room_1 (by decide +kernel) (by decide +kernel) (by decide +kernel) (by decide +kernel) (by decide +kernel) (by decide +kernel)
theorem allAtoms_all (ts : List Jvm.Cond) (a : Array Jvm.Value) (st : Jvm.State) : (allAtoms ts).before a st = ts.all (fun c => c.before a st) := by
  induction ts with
  | nil => rfl
  | cons c t ih =>
    show (Jvm.Cond.and c (allAtoms t)).before a st = _
    rw [Jvm.Cond.before_and, ih, List.all_cons]
def words1 : List Jvm.Cond := Jvm.Cond.code x code maxLocals ret :: tables_1
/-- a 'code' word, met by the world's own term for the bytes: nothing is compared byte by byte -/
theorem code_word {y : MethodName} {bytes : ByteArray} {mx : Nat} {rt : Option FieldType} {a : Array Value} {s : State} {m : MethodId} {meth : Method} {c : Code} (h1 : s.methodNamed? y = some m) (h2 : s.vm.method? m = some meth) (h3 : meth.code = some c) (h4 : c.code = bytes)
    (h5 : (c.maxLocals == mx && c.exceptionTable.isEmpty && decide (c.maxStack ≤ mostOperands) && decide (meth.sig.returnType = rt) && !meth.locks && decide (parseMethodDescriptor y.desc = some meth.sig)) = true) : (Jvm.Cond.code y bytes mx rt).before a s = true := by
  simp only [Bool.and_eq_true, beq_iff_eq, Bool.not_eq_true', decide_eq_true_eq] at h5
  obtain ⟨⟨⟨⟨⟨g1, g2⟩, g3⟩, g4⟩, g5⟩, g6⟩ := h5
  simp [Cond.before, Cond.holds, Cond.value, h1, h2, h3, h4, g1, g2, g3, g4, g5, g6]
def isCode : Jvm.Cond → Bool
  | .code _ _ _ _ => true
  | _ => false
theorem all_split {L : List Jvm.Cond} {P : Jvm.Cond → Bool} (h1 : L.all (fun c => isCode c || P c) = true) (h2 : ∀ c ∈ L.filter isCode, P c = true) : L.all P = true := by
  refine List.all_eq_true.mpr fun c hc => ?_
  have h := List.all_eq_true.mp h1 c hc
  rcases Bool.eq_false_or_eq_true (isCode c) with hi | hi
  · exact h2 c (List.mem_filter.mpr ⟨hc, hi⟩)
  · simpa [hi] using h
set_option maxRecDepth 65536 in
theorem w_c0 : (Jvm.Cond.code x code maxLocals ret).before args0 about1 = true := code_word (m := ⟨1, 2⟩) (meth := k1m2) (c := k1c2) (by decide +kernel) rfl rfl rfl (by decide +kernel)
set_option maxRecDepth 65536 in
theorem w_c1 : (Jvm.Cond.code ({ cls := "com/example/glacis/glacis/analysis/Bdd", name := "<init>", desc := "(I)V" } : Jvm.MethodName) prog_2_method_1_code (6 : Nat) (Option.none : Option Jvm.ClassFile.FieldType)).before args0 about1 = true := code_word (m := ⟨2, 0⟩) (meth := k2m0) (c := k2c0) (by decide +kernel) rfl rfl rfl (by decide +kernel)
set_option maxRecDepth 65536 in
theorem w_c2 : (Jvm.Cond.code ({ cls := "java/lang/Object", name := "<init>", desc := "()V" } : Jvm.MethodName) object_method_1_code (1 : Nat) (Option.none : Option Jvm.ClassFile.FieldType)).before args0 about1 = true := code_word (m := ⟨0, 0⟩) (meth := k0m0) (c := k0c0) (by decide +kernel) rfl rfl rfl (by decide +kernel)
set_option maxRecDepth 65536 in
theorem w_c3 : (Jvm.Cond.code ({ cls := "com/example/glacis/glacis/analysis/Bdd$Computed", name := "<init>", desc := "()V" } : Jvm.MethodName) prog_3_method_1_code (1 : Nat) (Option.none : Option Jvm.ClassFile.FieldType)).before args0 about1 = true := code_word (m := ⟨3, 0⟩) (meth := k3m0) (c := k3c0) (by decide +kernel) rfl rfl rfl (by decide +kernel)
set_option maxRecDepth 65536 in
theorem w_c4 : (Jvm.Cond.code ({ cls := "java/util/Arrays", name := "fill", desc := "([II)V" } : Jvm.MethodName) jdk_65_method_103_code (4 : Nat) (Option.none : Option Jvm.ClassFile.FieldType)).before args0 about1 = true := code_word (m := ⟨4, 1⟩) (meth := k4m1) (c := k4c1) (by decide +kernel) rfl rfl rfl (by decide +kernel)
set_option maxRecDepth 65536 in
theorem w_c5 : (Jvm.Cond.code ({ cls := "com/example/glacis/glacis/analysis/Bdd$Computed", name := "resize", desc := "(I)V" } : Jvm.MethodName) prog_3_method_5_code (2 : Nat) (Option.none : Option Jvm.ClassFile.FieldType)).before args0 about1 = true := code_word (m := ⟨3, 4⟩) (meth := k3m4) (c := k3c4) (by decide +kernel) rfl rfl rfl (by decide +kernel)
set_option maxRecDepth 65536 in
theorem w_c6 : (Jvm.Cond.code ({ cls := "com/example/glacis/glacis/analysis/Bdd$Computed", name := "clear", desc := "()V" } : Jvm.MethodName) prog_3_method_4_code (1 : Nat) (Option.none : Option Jvm.ClassFile.FieldType)).before args0 about1 = true := code_word (m := ⟨3, 3⟩) (meth := k3m3) (c := k3c3) (by decide +kernel) rfl rfl rfl (by decide +kernel)
set_option maxRecDepth 65536 in
theorem w_c7 : (Jvm.Cond.code ({ cls := "com/example/glacis/glacis/analysis/Bdd", name := "newVariable", desc := "(D)I" } : Jvm.MethodName) prog_2_method_2_code (3 : Nat) (Option.some Jvm.ClassFile.FieldType.int)).before args0 about1 = true := code_word (m := ⟨2, 1⟩) (meth := k2m1) (c := k2c1) (by decide +kernel) rfl rfl rfl (by decide +kernel)
set_option maxRecDepth 65536 in
theorem w_c8 : (Jvm.Cond.code ({ cls := "com/example/glacis/glacis/analysis/Bdd", name := "test", desc := "(I)I" } : Jvm.MethodName) prog_2_method_3_code (2 : Nat) (Option.some Jvm.ClassFile.FieldType.int)).before args0 about1 = true := code_word (m := ⟨2, 2⟩) (meth := k2m2) (c := k2c2) (by decide +kernel) rfl rfl rfl (by decide +kernel)
set_option maxRecDepth 65536 in
theorem w_c9 : (Jvm.Cond.code ({ cls := "com/example/glacis/glacis/analysis/Bdd", name := "node", desc := "(III)I" } : Jvm.MethodName) prog_2_method_15_code (6 : Nat) (Option.some Jvm.ClassFile.FieldType.int)).before args0 about1 = true := code_word (m := ⟨2, 11⟩) (meth := k2m11) (c := k2c11) (by decide +kernel) rfl rfl rfl (by decide +kernel)
set_option maxRecDepth 65536 in
theorem w_c10 : (Jvm.Cond.code ({ cls := "com/example/glacis/glacis/analysis/Bdd", name := "find", desc := "(III)I" } : Jvm.MethodName) prog_2_method_16_code (6 : Nat) (Option.some Jvm.ClassFile.FieldType.int)).before args0 about1 = true := code_word (m := ⟨2, 12⟩) (meth := k2m12) (c := k2c12) (by decide +kernel) rfl rfl rfl (by decide +kernel)
set_option maxRecDepth 65536 in
theorem w_c11 : (Jvm.Cond.code ({ cls := "com/example/glacis/glacis/analysis/Bdd", name := "hash", desc := "(III)I" } : Jvm.MethodName) prog_2_method_19_code (4 : Nat) (Option.some Jvm.ClassFile.FieldType.int)).before args0 about1 = true := code_word (m := ⟨2, 13⟩) (meth := k2m13) (c := k2c13) (by decide +kernel) rfl rfl rfl (by decide +kernel)
set_option maxRecDepth 65536 in
theorem w_c12 : (Jvm.Cond.code ({ cls := "com/example/glacis/glacis/analysis/Bdd", name := "and", desc := "(II)I" } : Jvm.MethodName) prog_2_method_4_code (3 : Nat) (Option.some Jvm.ClassFile.FieldType.int)).before args0 about1 = true := code_word (m := ⟨2, 3⟩) (meth := k2m3) (c := k2c3) (by decide +kernel) rfl rfl rfl (by decide +kernel)
set_option maxRecDepth 65536 in
theorem w_c13 : (Jvm.Cond.code ({ cls := "com/example/glacis/glacis/analysis/Bdd", name := "apply", desc := "(III)I" } : Jvm.MethodName) prog_2_method_11_code (11 : Nat) (Option.some Jvm.ClassFile.FieldType.int)).before args0 about1 = true := code_word (m := ⟨2, 7⟩) (meth := k2m7) (c := k2c7) (by decide +kernel) rfl rfl rfl (by decide +kernel)
set_option maxRecDepth 65536 in
theorem w_c14 : (Jvm.Cond.code ({ cls := "com/example/glacis/glacis/analysis/Bdd", name := "push", desc := "(III)I" } : Jvm.MethodName) prog_2_method_12_code (5 : Nat) (Option.some Jvm.ClassFile.FieldType.int)).before args0 about1 = true := code_word (m := ⟨2, 8⟩) (meth := k2m8) (c := k2c8) (by decide +kernel) rfl rfl rfl (by decide +kernel)
set_option maxRecDepth 65536 in
theorem w_c15 : (Jvm.Cond.code ({ cls := "java/lang/Math", name := "min", desc := "(II)I" } : Jvm.MethodName) jdk_29_method_69_code (2 : Nat) (Option.some Jvm.ClassFile.FieldType.int)).before args0 about1 = true := code_word (m := ⟨5, 2⟩) (meth := k5m2) (c := k5c2) (by decide +kernel) rfl rfl rfl (by decide +kernel)
set_option maxRecDepth 65536 in
theorem w_c16 : (Jvm.Cond.code ({ cls := "java/lang/Math", name := "max", desc := "(II)I" } : Jvm.MethodName) jdk_29_method_65_code (2 : Nat) (Option.some Jvm.ClassFile.FieldType.int)).before args0 about1 = true := code_word (m := ⟨5, 1⟩) (meth := k5m1) (c := k5c1) (by decide +kernel) rfl rfl rfl (by decide +kernel)
set_option maxRecDepth 65536 in
theorem w_c17 : (Jvm.Cond.code ({ cls := "com/example/glacis/glacis/analysis/Bdd", name := "terminalCase", desc := "(III)I" } : Jvm.MethodName) prog_2_method_13_code (4 : Nat) (Option.some Jvm.ClassFile.FieldType.int)).before args0 about1 = true := code_word (m := ⟨2, 9⟩) (meth := k2m9) (c := k2c9) (by decide +kernel) rfl rfl rfl (by decide +kernel)
set_option maxRecDepth 65536 in
theorem w_c18 : (Jvm.Cond.code ({ cls := "com/example/glacis/glacis/analysis/Bdd$Computed", name := "get", desc := "(II)I" } : Jvm.MethodName) prog_3_method_2_code (5 : Nat) (Option.some Jvm.ClassFile.FieldType.int)).before args0 about1 = true := code_word (m := ⟨3, 1⟩) (meth := k3m1) (c := k3c1) (by decide +kernel) rfl rfl rfl (by decide +kernel)
set_option maxRecDepth 65536 in
theorem w_c19 : (Jvm.Cond.code ({ cls := "com/example/glacis/glacis/analysis/Bdd", name := "cofactor", desc := "(IIZ)I" } : Jvm.MethodName) prog_2_method_14_code (5 : Nat) (Option.some Jvm.ClassFile.FieldType.int)).before args0 about1 = true := code_word (m := ⟨2, 10⟩) (meth := k2m10) (c := k2c10) (by decide +kernel) rfl rfl rfl (by decide +kernel)
set_option maxRecDepth 65536 in
theorem w_c20 : (Jvm.Cond.code ({ cls := "com/example/glacis/glacis/analysis/Bdd$Computed", name := "put", desc := "(III)V" } : Jvm.MethodName) prog_3_method_3_code (5 : Nat) (Option.none : Option Jvm.ClassFile.FieldType)).before args0 about1 = true := code_word (m := ⟨3, 2⟩) (meth := k3m2) (c := k3c2) (by decide +kernel) rfl rfl rfl (by decide +kernel)
set_option maxRecDepth 65536 in
theorem w_c21 : (Jvm.Cond.code ({ cls := "com/example/glacis/glacis/analysis/Bdd", name := "or", desc := "(II)I" } : Jvm.MethodName) prog_2_method_5_code (3 : Nat) (Option.some Jvm.ClassFile.FieldType.int)).before args0 about1 = true := code_word (m := ⟨2, 4⟩) (meth := k2m4) (c := k2c4) (by decide +kernel) rfl rfl rfl (by decide +kernel)
set_option maxRecDepth 65536 in
theorem w_c22 : (Jvm.Cond.code ({ cls := "com/example/glacis/glacis/analysis/Bdd", name := "nodeProbabilities", desc := "()[D" } : Jvm.MethodName) prog_2_method_10_code (5 : Nat) (Option.some (Jvm.ClassFile.FieldType.array Jvm.ClassFile.FieldType.double))).before args0 about1 = true := code_word (m := ⟨2, 6⟩) (meth := k2m6) (c := k2c6) (by decide +kernel) rfl rfl rfl (by decide +kernel)
set_option maxRecDepth 65536 in
theorem w_c23 : (Jvm.Cond.code ({ cls := "com/example/glacis/glacis/analysis/Bdd", name := "size", desc := "()I" } : Jvm.MethodName) prog_2_method_7_code (1 : Nat) (Option.some Jvm.ClassFile.FieldType.int)).before args0 about1 = true := code_word (m := ⟨2, 5⟩) (meth := k2m5) (c := k2c5) (by decide +kernel) rfl rfl rfl (by decide +kernel)
set_option maxRecDepth 65536 in
theorem w_c24 : (Jvm.Cond.code ({ cls := "com/example/glacis/glacis/analysis/BddNodeProbabilitiesPinLaw", name := "inRange", desc := "(II)Z" } : Jvm.MethodName) method_2_code (2 : Nat) (Option.some Jvm.ClassFile.FieldType.boolean)).before args0 about1 = true := code_word (m := ⟨1, 1⟩) (meth := k1m1) (c := k1c1) (by decide +kernel) rfl rfl rfl (by decide +kernel)
def codes1 : List Jvm.Cond := [Jvm.Cond.code x code maxLocals ret, Jvm.Cond.code ({ cls := "com/example/glacis/glacis/analysis/Bdd", name := "<init>", desc := "(I)V" } : Jvm.MethodName) prog_2_method_1_code (6 : Nat) (Option.none : Option Jvm.ClassFile.FieldType), Jvm.Cond.code ({ cls := "java/lang/Object", name := "<init>", desc := "()V" } : Jvm.MethodName) object_method_1_code (1 : Nat) (Option.none : Option Jvm.ClassFile.FieldType), Jvm.Cond.code ({ cls := "com/example/glacis/glacis/analysis/Bdd$Computed", name := "<init>", desc := "()V" } : Jvm.MethodName) prog_3_method_1_code (1 : Nat) (Option.none : Option Jvm.ClassFile.FieldType), Jvm.Cond.code ({ cls := "java/util/Arrays", name := "fill", desc := "([II)V" } : Jvm.MethodName) jdk_65_method_103_code (4 : Nat) (Option.none : Option Jvm.ClassFile.FieldType), Jvm.Cond.code ({ cls := "com/example/glacis/glacis/analysis/Bdd$Computed", name := "resize", desc := "(I)V" } : Jvm.MethodName) prog_3_method_5_code (2 : Nat) (Option.none : Option Jvm.ClassFile.FieldType), Jvm.Cond.code ({ cls := "com/example/glacis/glacis/analysis/Bdd$Computed", name := "clear", desc := "()V" } : Jvm.MethodName) prog_3_method_4_code (1 : Nat) (Option.none : Option Jvm.ClassFile.FieldType), Jvm.Cond.code ({ cls := "com/example/glacis/glacis/analysis/Bdd", name := "newVariable", desc := "(D)I" } : Jvm.MethodName) prog_2_method_2_code (3 : Nat) (Option.some Jvm.ClassFile.FieldType.int), Jvm.Cond.code ({ cls := "com/example/glacis/glacis/analysis/Bdd", name := "test", desc := "(I)I" } : Jvm.MethodName) prog_2_method_3_code (2 : Nat) (Option.some Jvm.ClassFile.FieldType.int), Jvm.Cond.code ({ cls := "com/example/glacis/glacis/analysis/Bdd", name := "node", desc := "(III)I" } : Jvm.MethodName) prog_2_method_15_code (6 : Nat) (Option.some Jvm.ClassFile.FieldType.int), Jvm.Cond.code ({ cls := "com/example/glacis/glacis/analysis/Bdd", name := "find", desc := "(III)I" } : Jvm.MethodName) prog_2_method_16_code (6 : Nat) (Option.some Jvm.ClassFile.FieldType.int), Jvm.Cond.code ({ cls := "com/example/glacis/glacis/analysis/Bdd", name := "hash", desc := "(III)I" } : Jvm.MethodName) prog_2_method_19_code (4 : Nat) (Option.some Jvm.ClassFile.FieldType.int), Jvm.Cond.code ({ cls := "com/example/glacis/glacis/analysis/Bdd", name := "and", desc := "(II)I" } : Jvm.MethodName) prog_2_method_4_code (3 : Nat) (Option.some Jvm.ClassFile.FieldType.int), Jvm.Cond.code ({ cls := "com/example/glacis/glacis/analysis/Bdd", name := "apply", desc := "(III)I" } : Jvm.MethodName) prog_2_method_11_code (11 : Nat) (Option.some Jvm.ClassFile.FieldType.int), Jvm.Cond.code ({ cls := "com/example/glacis/glacis/analysis/Bdd", name := "push", desc := "(III)I" } : Jvm.MethodName) prog_2_method_12_code (5 : Nat) (Option.some Jvm.ClassFile.FieldType.int), Jvm.Cond.code ({ cls := "java/lang/Math", name := "min", desc := "(II)I" } : Jvm.MethodName) jdk_29_method_69_code (2 : Nat) (Option.some Jvm.ClassFile.FieldType.int), Jvm.Cond.code ({ cls := "java/lang/Math", name := "max", desc := "(II)I" } : Jvm.MethodName) jdk_29_method_65_code (2 : Nat) (Option.some Jvm.ClassFile.FieldType.int), Jvm.Cond.code ({ cls := "com/example/glacis/glacis/analysis/Bdd", name := "terminalCase", desc := "(III)I" } : Jvm.MethodName) prog_2_method_13_code (4 : Nat) (Option.some Jvm.ClassFile.FieldType.int), Jvm.Cond.code ({ cls := "com/example/glacis/glacis/analysis/Bdd$Computed", name := "get", desc := "(II)I" } : Jvm.MethodName) prog_3_method_2_code (5 : Nat) (Option.some Jvm.ClassFile.FieldType.int), Jvm.Cond.code ({ cls := "com/example/glacis/glacis/analysis/Bdd", name := "cofactor", desc := "(IIZ)I" } : Jvm.MethodName) prog_2_method_14_code (5 : Nat) (Option.some Jvm.ClassFile.FieldType.int), Jvm.Cond.code ({ cls := "com/example/glacis/glacis/analysis/Bdd$Computed", name := "put", desc := "(III)V" } : Jvm.MethodName) prog_3_method_3_code (5 : Nat) (Option.none : Option Jvm.ClassFile.FieldType), Jvm.Cond.code ({ cls := "com/example/glacis/glacis/analysis/Bdd", name := "or", desc := "(II)I" } : Jvm.MethodName) prog_2_method_5_code (3 : Nat) (Option.some Jvm.ClassFile.FieldType.int), Jvm.Cond.code ({ cls := "com/example/glacis/glacis/analysis/Bdd", name := "nodeProbabilities", desc := "()[D" } : Jvm.MethodName) prog_2_method_10_code (5 : Nat) (Option.some (Jvm.ClassFile.FieldType.array Jvm.ClassFile.FieldType.double)), Jvm.Cond.code ({ cls := "com/example/glacis/glacis/analysis/Bdd", name := "size", desc := "()I" } : Jvm.MethodName) prog_2_method_7_code (1 : Nat) (Option.some Jvm.ClassFile.FieldType.int), Jvm.Cond.code ({ cls := "com/example/glacis/glacis/analysis/BddNodeProbabilitiesPinLaw", name := "inRange", desc := "(II)Z" } : Jvm.MethodName) method_2_code (2 : Nat) (Option.some Jvm.ClassFile.FieldType.boolean)]
set_option maxRecDepth 65536 in
theorem codes_eq : words1.filter isCode = codes1 := rfl
theorem w_codes : ∀ c ∈ words1.filter isCode, c.before args0 about1 = true := by
  rw [codes_eq]
  intro c hc
  simp only [codes1, List.mem_cons, List.not_mem_nil, or_false] at hc
  rcases hc with rfl | rfl | rfl | rfl | rfl | rfl | rfl | rfl | rfl | rfl | rfl | rfl | rfl | rfl | rfl | rfl | rfl | rfl | rfl | rfl | rfl | rfl | rfl | rfl | rfl
  · exact w_c0
  · exact w_c1
  · exact w_c2
  · exact w_c3
  · exact w_c4
  · exact w_c5
  · exact w_c6
  · exact w_c7
  · exact w_c8
  · exact w_c9
  · exact w_c10
  · exact w_c11
  · exact w_c12
  · exact w_c13
  · exact w_c14
  · exact w_c15
  · exact w_c16
  · exact w_c17
  · exact w_c18
  · exact w_c19
  · exact w_c20
  · exact w_c21
  · exact w_c22
  · exact w_c23
  · exact w_c24
set_option maxRecDepth 65536 in
theorem w_t1 : (words1.take 24).all (fun c => isCode c || c.before args0 about1) = true := by decide +kernel
set_option maxRecDepth 65536 in
theorem w_t2 : ((words1.drop 24).take 24).all (fun c => isCode c || c.before args0 about1) = true := by decide +kernel
set_option maxRecDepth 65536 in
theorem w_t3 : (((words1.drop 24).drop 24).take 24).all (fun c => isCode c || c.before args0 about1) = true := by decide +kernel
set_option maxRecDepth 65536 in
theorem w_t4 : ((((words1.drop 24).drop 24).drop 24).take 24).all (fun c => isCode c || c.before args0 about1) = true := by decide +kernel
set_option maxRecDepth 65536 in
theorem w_t5 : (((((words1.drop 24).drop 24).drop 24).drop 24).take 24).all (fun c => isCode c || c.before args0 about1) = true := by decide +kernel
set_option maxRecDepth 65536 in
theorem w_t6 : ((((((words1.drop 24).drop 24).drop 24).drop 24).drop 24).take 24).all (fun c => isCode c || c.before args0 about1) = true := by decide +kernel
set_option maxRecDepth 65536 in
theorem w_t7 : ((((((words1.drop 24).drop 24).drop 24).drop 24).drop 24).drop 24).all (fun c => isCode c || c.before args0 about1) = true := by decide +kernel
theorem w_tables : (allAtoms (Jvm.Cond.code x code maxLocals ret :: tables_1)).before args0 about1 = true := by
  rw [allAtoms_all]
  show words1.all (fun c => c.before args0 about1) = true
  refine all_split ?_ w_codes
  rw [← List.take_append_drop 24 words1, List.all_append, w_t1, ← List.take_append_drop 24 (words1.drop 24), List.all_append, w_t2, ← List.take_append_drop 24 ((words1.drop 24).drop 24), List.all_append, w_t3, ← List.take_append_drop 24 (((words1.drop 24).drop 24).drop 24), List.all_append, w_t4, ← List.take_append_drop 24 ((((words1.drop 24).drop 24).drop 24).drop 24), List.all_append, w_t5, ← List.take_append_drop 24 (((((words1.drop 24).drop 24).drop 24).drop 24).drop 24), List.all_append, w_t6, w_t7]
  rfl
set_option maxRecDepth 65536 in
theorem w_case : (Jvm.Cond.and given_1 narrow_1).before args0 about1 = true := by decide +kernel
theorem w_applies : (headSpec (Jvm.Cond.code x code maxLocals ret :: tables_1) room_1).applies x e0.platform about1 = true :=
  (Spec.applies_iff w_frames).mpr ⟨w_running, w_runnable, w_alone, w_named, w_hears, w_ripe, w_room, w_tables⟩
theorem atStart : AtStart classFile x code maxLocals ret World_1 tables_1 room_1 Calls_1 rest_1 Pre_1 launch0 p0 e0 about1 theMethod args0 below0 :=
  ⟨lists_1, trivial, launch0.admits_env _ _ _, launch0.least_env, fairChoices_fair.cas, fairChoices_fair.clock, w_frames, w_args, w_heap, w_applies, trivial, trivial, w_case⟩
end start1
theorem witness_1 : WitnessClaimed_1 := ⟨start1.p0, start1.e0, start1.about1, start1.theMethod, start1.args0, start1.below0, start1.atStart⟩
end Jvm.Pilot.@@N@@
