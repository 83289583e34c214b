import JvmDerived
import JvmDerived.Pilot.@@N@@Statement
import JvmDerived.Pilot.@@N@@Code
set_option linter.unusedVariables false
set_option linter.unusedSimpArgs false
namespace Jvm.RoadKit
open Sem ClassFile Op Lib Jvm.Stand Jvm.Free Jvm.LawKit
section OwnGo
variable {p : Program} {l : Launch} {e : Env} {R : Room} {s : State} {m : MethodId} {args : Array Value} {below : List Frame} {meth : Method} {c : Code} {T : State} {locs : List Loc} {cells slots : Nat} {Z : State} {a0 : Array Value} {h : Heap} {Q : Option Value → Heap → List Loc → Prop} {P : Option Value → State → Prop} {K N : Nat} {by_ : ByteArray} {pc pc' : Nat} {Ls : Array Slot} {rest : List Value}
/-- from S the run comes to its end, and P says what it leaves -/
def Go (p : Program) (e : Env) (below : List Frame) (P : Option Value → State → Prop) (S : State) : Prop :=
  ∃ U v, Steps p.tables e below S U ∧ U.status = .running ∧ Ended U below (.returned v) ∧ P v U
/-- an end within a frame: the narrow one, and the wide one (String constants may have been interned) -/
def Nr (s : State) (Q : Option Value → Heap → List Loc → Prop) (K N : Nat) (v : Option Value) (U : State) : Prop := ∃ L, Q v U.heap L ∧ FrameEnd s (.returned v) U L K N
def Wd (s : State) (Q : Option Value → Heap → List Loc → Prop) (K N : Nat) (v : Option Value) (U : State) : Prop := ∃ L, Q v U.heap L ∧ ReturnedEndW s (.returned v) U L K N
theorem Go.st {A B : State} (f : ∀ t, Steps p.tables e below A t → Steps p.tables e below B t) (k : Go p e below P A) : Go p e below P B := by
  obtain ⟨U, v, h1, h2⟩ := k
  exact ⟨U, v, f _ h1, h2⟩
theorem Go.via {A B : State} (f : Steps p.tables e below B A) (k : Go p e below P A) : Go p e below P B := by
  obtain ⟨U, v, h1, h2⟩ := k
  exact ⟨U, v, f.trans h1, h2⟩
/-- the contract of a body -/
abbrev Con (l : Launch) (Z : State) (y : MethodName) (bytes : ByteArray) (maxL : Nat) (ret : Option FieldType) (ws : List Jvm.Cond) (rm : Room) (as : Array Value) (h : Heap) (Q : Option Value → Heap → List Loc → Prop) : Prop :=
  MetFree l y (head1 (Jvm.Cond.code y bytes maxL ret :: ws) rm) (fun a U => a = as ∧ Z.Warmed39 U.vm ∧ U.heap = h) (fun _ _ _ _ _ => True) (fun _ U o U' => ∃ v L, o = .returned v ∧ Q v U'.heap L ∧ FrameEnd U o U' L rm.cells rm.slots)
theorem Con.of {y : MethodName} {bytes : ByteArray} {maxL : Nat} {ret : Option FieldType} {ws : List Jvm.Cond} {rm : Room} {as : Array Value} (hpn : plainFor y = true)
    (body : ∀ (p : Program) (e : Env) (s : State) (m : MethodId) (below : List Frame) (meth : Method) (c : Code) (s₁ : State), p.tables.exec = Jvm.exec → c.code = bytes → c.maxLocals = maxL → s.vm.findClass y.cls = some m.cls → meth.name = y.name → meth.sig.returnType = ret → meth.locks = false → Z.Warmed39 s.vm →
      Stand p l e rm s m as below meth c s₁ [] 0 0 → s₁.heap = h → Go p e below (Nr s Q rm.cells rm.slots) (s₁.setTop (entryFrame m as maxL))) : Con l Z y bytes maxL ret ws rm as h Q := by
  refine MetFree.of_bodySF hpn hisR ?_
  intro p e s m args below meth c s₁ Bd hml0 hP hK
  obtain ⟨rfl, hZ, hh⟩ := hP
  have hown := findClass_of_methodNamed Bd.named
  have hnm := (name_of_methodNamed Bd.named Bd.method).1
  have X0 := Stand.of_body Bd
  have e0 : s₁.heap = h := by rw [← hh, Bd.state]; rfl
  obtain ⟨U, v, h1, h2, h3, L, h4, h5⟩ := body p e s m below meth c s₁ Bd.exec Bd.bytes hml0 hown hnm Bd.returns Bd.notSynchronized hZ X0 e0
  exact ⟨U, _, h1, h2, h3, v, L, rfl, h4, h5⟩
theorem Go.cast {g g' : JFrame} (q : g = g') (k : Go p e below P (T.setTop g')) : Go p e below P (T.setTop g) := q ▸ k
/-- a body that only reads numbers: what it returns, and nothing moved -/
def PQ (w : Option Value) (h0 : Heap) (v : Option Value) (h : Heap) (L : List Loc) : Prop := v = w ∧ L = [] ∧ h = h0
theorem Go.end_ {w : Option Value} {A : State} (X : Stand p l e R s m args below meth c T locs cells slots) (hlk : meth.locks = false) (hr0 : meth.sig.returnType = none → w = none) (f : ∀ fs, (∀ (f : JFrame) (acts : List Action), f.method = m → f.locked = none → f.entered = [] → (doReturn e (T.setTop f) acts w).1 = T.setFrames fs) → Steps p.tables e below A (T.setFrames fs))
    (hc : cells ≤ K) (hn : slots ≤ N) (q : Q w T.heap locs) : Go p e below (Nr s Q K N) A := by
  obtain ⟨fs, hr, hrun, hended, hW, hsame⟩ := X.leave (v := w) hr0 hlk
  exact ⟨_, _, f fs hr, hrun, hended, locs, q, ⟨_, rfl⟩, hW, hsame.mono hc hn⟩
theorem Go.ret0 (X : Stand p l e R s m args below meth c T locs cells slots) (hx : p.tables.exec = Jvm.exec) (hby : c.code = by_) (hlk : meth.locks = false) (hret : meth.sig.returnType = none) (hd : decode by_ pc = .ok (.return_, 1)) (hc : cells ≤ K) (hn : slots ≤ N) (q : Q none T.heap locs) : Go p e below (Nr s Q K N) (T.setTop (mkF m pc Ls [])) :=
  Go.end_ X hlk (fun _ => rfl) (fun fs hr => X.returnOut hx hret (hb hby hd) hr) hc hn q
theorem Go.retV {w : Value} {t : FieldType} {i : Instr} (X : Stand p l e R s m args below meth c T locs cells slots) (hx : p.tables.exec = Jvm.exec) (hby : c.code = by_) (hlk : meth.locks = false) (hret : meth.sig.returnType = some t) (hnw : narrow t w = w)
    (hi : (i = .ireturn ∧ (t = .int ∨ t = .boolean ∨ t = .byte ∨ t = .char ∨ t = .short) ∧ ∃ z, w = .int z) ∨ (i = .lreturn ∧ t = .long ∧ ∃ z, w = .long z) ∨ (i = .dreturn ∧ t = .double ∧ ∃ z, w = .double z) ∨ (i = .freturn ∧ t = .float ∧ ∃ z, w = .float z) ∨ (i = .areturn ∧ t.isReference = true ∧ w.isRef = true))
    (hd : decode by_ pc = .ok (i, 1)) (hc : cells ≤ K) (hn : slots ≤ N) (q : Q (some w) T.heap locs) : Go p e below (Nr s Q K N) (T.setTop (mkF m pc Ls (w :: rest))) :=
  Go.end_ X hlk (fun h => by rw [hret] at h; cases h) (fun fs hr => retOut X hx hret hnw hi (hb hby hd) hr) hc hn q
theorem Go.retI {z : Int32} (X : Stand p l e R s m args below meth c T locs cells slots) (hx : p.tables.exec = Jvm.exec) (hby : c.code = by_) (hlk : meth.locks = false) (hret : meth.sig.returnType = some .int) (hd : decode by_ pc = .ok (.ireturn, 1)) (hc : cells ≤ K) (hn : slots ≤ N) (q : Q (some (.int z)) T.heap locs) : Go p e below (Nr s Q K N) (T.setTop (mkF m pc Ls (.int z :: rest))) :=
  Go.retV X hx hby hlk hret rfl (Or.inl ⟨rfl, Or.inl rfl, z, rfl⟩) hd hc hn q
theorem Go.retZ {z : Int32} {t : FieldType} (X : Stand p l e R s m args below meth c T locs cells slots) (hx : p.tables.exec = Jvm.exec) (hby : c.code = by_) (hlk : meth.locks = false) (hret : meth.sig.returnType = some t) (ht : t = .boolean ∨ t = .byte ∨ t = .char ∨ t = .short) (hd : decode by_ pc = .ok (.ireturn, 1)) (hc : cells ≤ K) (hn : slots ≤ N) (q : Q (some (.int (nar t z))) T.heap locs) : Go p e below (Nr s Q K N) (T.setTop (mkF m pc Ls (.int z :: rest))) :=
  Go.end_ X hlk (fun h => by rw [hret] at h; cases h) (fun fs hr => retN X hx hret ht (hb hby hd) hr) hc hn q
theorem Go.retJ {z : Int64} (X : Stand p l e R s m args below meth c T locs cells slots) (hx : p.tables.exec = Jvm.exec) (hby : c.code = by_) (hlk : meth.locks = false) (hret : meth.sig.returnType = some .long) (hd : decode by_ pc = .ok (.lreturn, 1)) (hc : cells ≤ K) (hn : slots ≤ N) (q : Q (some (.long z)) T.heap locs) : Go p e below (Nr s Q K N) (T.setTop (mkF m pc Ls (.long z :: rest))) :=
  Go.retV X hx hby hlk hret rfl (Or.inr (Or.inl ⟨rfl, rfl, z, rfl⟩)) hd hc hn q
theorem Go.retA {w : Value} {t : FieldType} (X : Stand p l e R s m args below meth c T locs cells slots) (hx : p.tables.exec = Jvm.exec) (hby : c.code = by_) (hlk : meth.locks = false) (hret : meth.sig.returnType = some t) (hnw : narrow t w = w) (ht : t.isReference = true) (hw : w.isRef = true) (hd : decode by_ pc = .ok (.areturn, 1)) (hc : cells ≤ K) (hn : slots ≤ N) (q : Q (some w) T.heap locs) : Go p e below (Nr s Q K N) (T.setTop (mkF m pc Ls (w :: rest))) :=
  Go.retV X hx hby hlk hret hnw (Or.inr (Or.inr (Or.inr (Or.inr ⟨rfl, ht, hw⟩)))) hd hc hn q
def icP : ClassFile.Cond → Int32 → Int32 → Prop
  | .eq, x, y => x = y
  | .ne, x, y => x ≠ y
  | .lt, x, y => x < y
  | .ge, x, y => y ≤ x
  | .gt, x, y => y < x
  | .le, x, y => x ≤ y
theorem icP_iff (cd : ClassFile.Cond) (x y : Int32) : if_icmp.holds cd x y = true ↔ icP cd x y := by cases cd <;> simp [if_icmp.holds, icP]
theorem icP_not {cd : ClassFile.Cond} {x y : Int32} (q : ¬ icP cd x y) : if_icmp.holds cd x y = false := by
  cases hq : if_icmp.holds cd x y
  · rfl
  · exact absurd ((icP_iff cd x y).mp hq) q

theorem Go.iadd {x y : Int32} (X : Stand p l e R s m args below meth c T locs cells slots) (hx : p.tables.exec = Jvm.exec) (hby : c.code = by_) (hd : decode by_ pc = .ok (.iadd, 1)) (hp : pc + 1 = pc') (k : Go p e below P (T.setTop (mkF m pc' Ls (.int (x + y) :: rest)))) : Go p e below P (T.setTop (mkF m pc Ls (.int y :: .int x :: rest))) := by
  subst hp; exact Go.st (fun t k => XS.iadd X.here hx rfl (hb hby hd) rfl k) k
theorem Go.isub {x y : Int32} (X : Stand p l e R s m args below meth c T locs cells slots) (hx : p.tables.exec = Jvm.exec) (hby : c.code = by_) (hd : decode by_ pc = .ok (.isub, 1)) (hp : pc + 1 = pc') (k : Go p e below P (T.setTop (mkF m pc' Ls (.int (x - y) :: rest)))) : Go p e below P (T.setTop (mkF m pc Ls (.int y :: .int x :: rest))) := by
  subst hp; exact Go.st (fun t k => XS.isub X.here hx rfl (hb hby hd) rfl k) k
theorem Go.imul {x y : Int32} (X : Stand p l e R s m args below meth c T locs cells slots) (hx : p.tables.exec = Jvm.exec) (hby : c.code = by_) (hd : decode by_ pc = .ok (.imul, 1)) (hp : pc + 1 = pc') (k : Go p e below P (T.setTop (mkF m pc' Ls (.int (x * y) :: rest)))) : Go p e below P (T.setTop (mkF m pc Ls (.int y :: .int x :: rest))) := by
  subst hp; exact Go.st (fun t k => XS.imul X.here hx rfl (hb hby hd) rfl k) k
theorem Go.iand {x y : Int32} (X : Stand p l e R s m args below meth c T locs cells slots) (hx : p.tables.exec = Jvm.exec) (hby : c.code = by_) (hd : decode by_ pc = .ok (.iand, 1)) (hp : pc + 1 = pc') (k : Go p e below P (T.setTop (mkF m pc' Ls (.int (x &&& y) :: rest)))) : Go p e below P (T.setTop (mkF m pc Ls (.int y :: .int x :: rest))) := by
  subst hp; exact Go.st (fun t k => XS.iand X.here hx rfl (hb hby hd) rfl k) k
theorem Go.ior {x y : Int32} (X : Stand p l e R s m args below meth c T locs cells slots) (hx : p.tables.exec = Jvm.exec) (hby : c.code = by_) (hd : decode by_ pc = .ok (.ior, 1)) (hp : pc + 1 = pc') (k : Go p e below P (T.setTop (mkF m pc' Ls (.int (x ||| y) :: rest)))) : Go p e below P (T.setTop (mkF m pc Ls (.int y :: .int x :: rest))) := by
  subst hp; exact Go.st (fun t k => XS.ior X.here hx rfl (hb hby hd) rfl k) k
theorem Go.ixor {x y : Int32} (X : Stand p l e R s m args below meth c T locs cells slots) (hx : p.tables.exec = Jvm.exec) (hby : c.code = by_) (hd : decode by_ pc = .ok (.ixor, 1)) (hp : pc + 1 = pc') (k : Go p e below P (T.setTop (mkF m pc' Ls (.int (x ^^^ y) :: rest)))) : Go p e below P (T.setTop (mkF m pc Ls (.int y :: .int x :: rest))) := by
  subst hp; exact Go.st (fun t k => XS.ixor X.here hx rfl (hb hby hd) rfl k) k
theorem Go.ladd {x y : Int64} (X : Stand p l e R s m args below meth c T locs cells slots) (hx : p.tables.exec = Jvm.exec) (hby : c.code = by_) (hd : decode by_ pc = .ok (.ladd, 1)) (hp : pc + 1 = pc') (k : Go p e below P (T.setTop (mkF m pc' Ls (.long (x + y) :: rest)))) : Go p e below P (T.setTop (mkF m pc Ls (.long y :: .long x :: rest))) := by
  subst hp; exact Go.st (fun t k => XS.ladd X.here hx rfl (hb hby hd) rfl k) k
theorem Go.lsub {x y : Int64} (X : Stand p l e R s m args below meth c T locs cells slots) (hx : p.tables.exec = Jvm.exec) (hby : c.code = by_) (hd : decode by_ pc = .ok (.lsub, 1)) (hp : pc + 1 = pc') (k : Go p e below P (T.setTop (mkF m pc' Ls (.long (x - y) :: rest)))) : Go p e below P (T.setTop (mkF m pc Ls (.long y :: .long x :: rest))) := by
  subst hp; exact Go.st (fun t k => XS.lsub X.here hx rfl (hb hby hd) rfl k) k
theorem Go.lmul {x y : Int64} (X : Stand p l e R s m args below meth c T locs cells slots) (hx : p.tables.exec = Jvm.exec) (hby : c.code = by_) (hd : decode by_ pc = .ok (.lmul, 1)) (hp : pc + 1 = pc') (k : Go p e below P (T.setTop (mkF m pc' Ls (.long (x * y) :: rest)))) : Go p e below P (T.setTop (mkF m pc Ls (.long y :: .long x :: rest))) := by
  subst hp; exact Go.st (fun t k => XS.lmul X.here hx rfl (hb hby hd) rfl k) k
theorem Go.land {x y : Int64} (X : Stand p l e R s m args below meth c T locs cells slots) (hx : p.tables.exec = Jvm.exec) (hby : c.code = by_) (hd : decode by_ pc = .ok (.land, 1)) (hp : pc + 1 = pc') (k : Go p e below P (T.setTop (mkF m pc' Ls (.long (x &&& y) :: rest)))) : Go p e below P (T.setTop (mkF m pc Ls (.long y :: .long x :: rest))) := by
  subst hp; exact Go.st (fun t k => XS.land X.here hx rfl (hb hby hd) rfl k) k
theorem Go.lor {x y : Int64} (X : Stand p l e R s m args below meth c T locs cells slots) (hx : p.tables.exec = Jvm.exec) (hby : c.code = by_) (hd : decode by_ pc = .ok (.lor, 1)) (hp : pc + 1 = pc') (k : Go p e below P (T.setTop (mkF m pc' Ls (.long (x ||| y) :: rest)))) : Go p e below P (T.setTop (mkF m pc Ls (.long y :: .long x :: rest))) := by
  subst hp; exact Go.st (fun t k => XS.lor X.here hx rfl (hb hby hd) rfl k) k
theorem Go.lxor {x y : Int64} (X : Stand p l e R s m args below meth c T locs cells slots) (hx : p.tables.exec = Jvm.exec) (hby : c.code = by_) (hd : decode by_ pc = .ok (.lxor, 1)) (hp : pc + 1 = pc') (k : Go p e below P (T.setTop (mkF m pc' Ls (.long (x ^^^ y) :: rest)))) : Go p e below P (T.setTop (mkF m pc Ls (.long y :: .long x :: rest))) := by
  subst hp; exact Go.st (fun t k => XS.lxor X.here hx rfl (hb hby hd) rfl k) k
theorem Go.ishl {x y : Int32} (X : Stand p l e R s m args below meth c T locs cells slots) (hx : p.tables.exec = Jvm.exec) (hby : c.code = by_) (hd : decode by_ pc = .ok (.ishl, 1)) (hp : pc + 1 = pc') (k : Go p e below P (T.setTop (mkF m pc' Ls (.int (x <<< (y &&& 31)) :: rest)))) : Go p e below P (T.setTop (mkF m pc Ls (.int y :: .int x :: rest))) := by
  subst hp; exact Go.st (fun t k => XS.ishl X.here hx rfl (hb hby hd) rfl k) k
theorem Go.ishr {x y : Int32} (X : Stand p l e R s m args below meth c T locs cells slots) (hx : p.tables.exec = Jvm.exec) (hby : c.code = by_) (hd : decode by_ pc = .ok (.ishr, 1)) (hp : pc + 1 = pc') (k : Go p e below P (T.setTop (mkF m pc' Ls (.int (x >>> (y &&& 31)) :: rest)))) : Go p e below P (T.setTop (mkF m pc Ls (.int y :: .int x :: rest))) := by
  subst hp; exact Go.st (fun t k => XS.ishr X.here hx rfl (hb hby hd) rfl k) k
theorem Go.iushr {x y : Int32} (X : Stand p l e R s m args below meth c T locs cells slots) (hx : p.tables.exec = Jvm.exec) (hby : c.code = by_) (hd : decode by_ pc = .ok (.iushr, 1)) (hp : pc + 1 = pc') (k : Go p e below P (T.setTop (mkF m pc' Ls (.int ((x.toUInt32 >>> (y &&& 31).toUInt32).toInt32) :: rest)))) : Go p e below P (T.setTop (mkF m pc Ls (.int y :: .int x :: rest))) := by
  subst hp; exact Go.st (fun t k => XS.iushr X.here hx rfl (hb hby hd) rfl k) k
theorem Go.lshl {x : Int64} {y : Int32} (X : Stand p l e R s m args below meth c T locs cells slots) (hx : p.tables.exec = Jvm.exec) (hby : c.code = by_) (hd : decode by_ pc = .ok (.lshl, 1)) (hp : pc + 1 = pc') (k : Go p e below P (T.setTop (mkF m pc' Ls (.long (x <<< (y &&& 0x3f).toInt64) :: rest)))) : Go p e below P (T.setTop (mkF m pc Ls (.int y :: .long x :: rest))) := by
  subst hp; exact Go.st (fun t k => XS.lshl X.here hx rfl (hb hby hd) rfl k) k
theorem Go.lshr {x : Int64} {y : Int32} (X : Stand p l e R s m args below meth c T locs cells slots) (hx : p.tables.exec = Jvm.exec) (hby : c.code = by_) (hd : decode by_ pc = .ok (.lshr, 1)) (hp : pc + 1 = pc') (k : Go p e below P (T.setTop (mkF m pc' Ls (.long (x >>> (y &&& 0x3f).toInt64) :: rest)))) : Go p e below P (T.setTop (mkF m pc Ls (.int y :: .long x :: rest))) := by
  subst hp; exact Go.st (fun t k => XS.lshr X.here hx rfl (hb hby hd) rfl k) k
theorem Go.lushr {x : Int64} {y : Int32} (X : Stand p l e R s m args below meth c T locs cells slots) (hx : p.tables.exec = Jvm.exec) (hby : c.code = by_) (hd : decode by_ pc = .ok (.lushr, 1)) (hp : pc + 1 = pc') (k : Go p e below P (T.setTop (mkF m pc' Ls (.long ((x.toUInt64 >>> (y &&& 0x3f).toInt64.toUInt64).toInt64) :: rest)))) : Go p e below P (T.setTop (mkF m pc Ls (.int y :: .long x :: rest))) := by
  subst hp; exact Go.st (fun t k => XS.lushr X.here hx rfl (hb hby hd) rfl k) k
theorem Go.ineg {x : Int32} (X : Stand p l e R s m args below meth c T locs cells slots) (hx : p.tables.exec = Jvm.exec) (hby : c.code = by_) (hd : decode by_ pc = .ok (.ineg, 1)) (hp : pc + 1 = pc') (k : Go p e below P (T.setTop (mkF m pc' Ls (.int (-x) :: rest)))) : Go p e below P (T.setTop (mkF m pc Ls (.int x :: rest))) := by
  subst hp; exact Go.st (fun t k => XS.ineg X.here hx rfl (hb hby hd) rfl k) k
theorem Go.lneg {x : Int64} (X : Stand p l e R s m args below meth c T locs cells slots) (hx : p.tables.exec = Jvm.exec) (hby : c.code = by_) (hd : decode by_ pc = .ok (.lneg, 1)) (hp : pc + 1 = pc') (k : Go p e below P (T.setTop (mkF m pc' Ls (.long (-x) :: rest)))) : Go p e below P (T.setTop (mkF m pc Ls (.long x :: rest))) := by
  subst hp; exact Go.st (fun t k => XS.lneg X.here hx rfl (hb hby hd) rfl k) k
theorem Go.i2b {x : Int32} (X : Stand p l e R s m args below meth c T locs cells slots) (hx : p.tables.exec = Jvm.exec) (hby : c.code = by_) (hd : decode by_ pc = .ok (.i2b, 1)) (hp : pc + 1 = pc') (k : Go p e below P (T.setTop (mkF m pc' Ls (.int (x.toInt8.toInt32) :: rest)))) : Go p e below P (T.setTop (mkF m pc Ls (.int x :: rest))) := by
  subst hp; exact Go.st (fun t k => XS.i2b X.here hx rfl (hb hby hd) rfl k) k
theorem Go.i2c {x : Int32} (X : Stand p l e R s m args below meth c T locs cells slots) (hx : p.tables.exec = Jvm.exec) (hby : c.code = by_) (hd : decode by_ pc = .ok (.i2c, 1)) (hp : pc + 1 = pc') (k : Go p e below P (T.setTop (mkF m pc' Ls (.int (x.toUInt32.toUInt16.toUInt32.toInt32) :: rest)))) : Go p e below P (T.setTop (mkF m pc Ls (.int x :: rest))) := by
  subst hp; exact Go.st (fun t k => XS.i2c X.here hx rfl (hb hby hd) rfl k) k
theorem Go.i2s {x : Int32} (X : Stand p l e R s m args below meth c T locs cells slots) (hx : p.tables.exec = Jvm.exec) (hby : c.code = by_) (hd : decode by_ pc = .ok (.i2s, 1)) (hp : pc + 1 = pc') (k : Go p e below P (T.setTop (mkF m pc' Ls (.int (x.toInt16.toInt32) :: rest)))) : Go p e below P (T.setTop (mkF m pc Ls (.int x :: rest))) := by
  subst hp; exact Go.st (fun t k => XS.i2s X.here hx rfl (hb hby hd) rfl k) k
theorem Go.i2l {x : Int32} (X : Stand p l e R s m args below meth c T locs cells slots) (hx : p.tables.exec = Jvm.exec) (hby : c.code = by_) (hd : decode by_ pc = .ok (.i2l, 1)) (hp : pc + 1 = pc') (k : Go p e below P (T.setTop (mkF m pc' Ls (.long (x.toInt64) :: rest)))) : Go p e below P (T.setTop (mkF m pc Ls (.int x :: rest))) := by
  subst hp; exact Go.st (fun t k => XS.i2l X.here hx rfl (hb hby hd) rfl k) k
theorem Go.l2i {x : Int64} (X : Stand p l e R s m args below meth c T locs cells slots) (hx : p.tables.exec = Jvm.exec) (hby : c.code = by_) (hd : decode by_ pc = .ok (.l2i, 1)) (hp : pc + 1 = pc') (k : Go p e below P (T.setTop (mkF m pc' Ls (.int (x.toInt32) :: rest)))) : Go p e below P (T.setTop (mkF m pc Ls (.long x :: rest))) := by
  subst hp; exact Go.st (fun t k => XS.l2i X.here hx rfl (hb hby hd) rfl k) k
theorem Go.lcmp {x y : Int64} (X : Stand p l e R s m args below meth c T locs cells slots) (hx : p.tables.exec = Jvm.exec) (hby : c.code = by_) (hd : decode by_ pc = .ok (.lcmp, 1)) (hp : pc + 1 = pc') (k : Go p e below P (T.setTop (mkF m pc' Ls (.int (lcmpW x y) :: rest)))) : Go p e below P (T.setTop (mkF m pc Ls (.long y :: .long x :: rest))) := by
  subst hp; exact Go.st (fun t k => XS.lcmp X.here hx rfl (hb hby hd) rfl k) k
theorem Go.idiv {x y : Int32} (X : Stand p l e R s m args below meth c T locs cells slots) (hx : p.tables.exec = Jvm.exec) (hby : c.code = by_) (hd : decode by_ pc = .ok (.idiv, 1)) (hp : pc + 1 = pc') (hy : y ≠ 0) (k : Go p e below P (T.setTop (mkF m pc' Ls (.int (x / y) :: rest)))) : Go p e below P (T.setTop (mkF m pc Ls (.int y :: .int x :: rest))) := by
  subst hp; exact Go.st (fun t k => XS.idiv X.here hx rfl (hb hby hd) rfl hy k) k
theorem Go.irem {x y : Int32} (X : Stand p l e R s m args below meth c T locs cells slots) (hx : p.tables.exec = Jvm.exec) (hby : c.code = by_) (hd : decode by_ pc = .ok (.irem, 1)) (hp : pc + 1 = pc') (hy : y ≠ 0) (k : Go p e below P (T.setTop (mkF m pc' Ls (.int (x % y) :: rest)))) : Go p e below P (T.setTop (mkF m pc Ls (.int y :: .int x :: rest))) := by
  subst hp; exact Go.st (fun t k => iremM X hx rfl (hb hby hd) rfl hy k) k
theorem Go.ldiv {x y : Int64} (X : Stand p l e R s m args below meth c T locs cells slots) (hx : p.tables.exec = Jvm.exec) (hby : c.code = by_) (hd : decode by_ pc = .ok (.ldiv, 1)) (hp : pc + 1 = pc') (hy : y ≠ 0) (k : Go p e below P (T.setTop (mkF m pc' Ls (.long (x / y) :: rest)))) : Go p e below P (T.setTop (mkF m pc Ls (.long y :: .long x :: rest))) := by
  subst hp; exact Go.st (fun t k => XS.ldiv X.here hx rfl (hb hby hd) rfl hy k) k
theorem Go.lrem {x y : Int64} (X : Stand p l e R s m args below meth c T locs cells slots) (hx : p.tables.exec = Jvm.exec) (hby : c.code = by_) (hd : decode by_ pc = .ok (.lrem, 1)) (hp : pc + 1 = pc') (hy : y ≠ 0) (k : Go p e below P (T.setTop (mkF m pc' Ls (.long (x - (x / y) * y) :: rest)))) : Go p e below P (T.setTop (mkF m pc Ls (.long y :: .long x :: rest))) := by
  subst hp; exact Go.st (fun t k => XS.lrem X.here hx rfl (hb hby hd) rfl hy k) k
theorem Go.dup {w : Value} (X : Stand p l e R s m args below meth c T locs cells slots) (hx : p.tables.exec = Jvm.exec) (hby : c.code = by_) (hd : decode by_ pc = .ok (.dup, 1)) (hp : pc + 1 = pc') (hc : w.category = 1) (k : Go p e below P (T.setTop (mkF m pc' Ls (w :: w :: rest)))) : Go p e below P (T.setTop (mkF m pc Ls (w :: rest))) := by
  subst hp; exact Go.st (fun t k => XS.dup X.here hx rfl (hb hby hd) rfl hc k) k
theorem Go.pop {w : Value} (X : Stand p l e R s m args below meth c T locs cells slots) (hx : p.tables.exec = Jvm.exec) (hby : c.code = by_) (hd : decode by_ pc = .ok (.pop, 1)) (hp : pc + 1 = pc') (hc : w.category = 1) (k : Go p e below P (T.setTop (mkF m pc' Ls rest))) : Go p e below P (T.setTop (mkF m pc Ls (w :: rest))) := by
  subst hp; exact Go.st (fun t k => XS.pop X.here hx rfl (hb hby hd) rfl hc k) k
theorem Go.dupX1 {w u : Value} (X : Stand p l e R s m args below meth c T locs cells slots) (hx : p.tables.exec = Jvm.exec) (hby : c.code = by_) (hd : decode by_ pc = .ok (.dup_x1, 1)) (hp : pc + 1 = pc') (hc : w.category = 1) (hc2 : u.category = 1) (k : Go p e below P (T.setTop (mkF m pc' Ls (w :: u :: w :: rest)))) : Go p e below P (T.setTop (mkF m pc Ls (w :: u :: rest))) := by
  subst hp; exact Go.st (fun t k => XS.dupX1 X.here hx rfl (hb hby hd) rfl hc hc2 k) k
theorem Go.dup2 {w u : Value} (X : Stand p l e R s m args below meth c T locs cells slots) (hx : p.tables.exec = Jvm.exec) (hby : c.code = by_) (hd : decode by_ pc = .ok (.dup2, 1)) (hp : pc + 1 = pc') (hc : w.category = 1) (hc2 : u.category = 1) (k : Go p e below P (T.setTop (mkF m pc' Ls (w :: u :: w :: u :: rest)))) : Go p e below P (T.setTop (mkF m pc Ls (w :: u :: rest))) := by
  subst hp; exact Go.st (fun t k => XT.dup2 X.here hx rfl (hb hby hd) rfl hc hc2 k) k
theorem Go.iconst {i : Int} {v : Int32} (X : Stand p l e R s m args below meth c T locs cells slots) (hx : p.tables.exec = Jvm.exec) (hby : c.code = by_) (hd : decode by_ pc = .ok (.iconst i, 1)) (hp : pc + 1 = pc') (hv : Int32.ofInt i = v) (k : Go p e below P (T.setTop (mkF m pc' Ls (.int v :: rest)))) : Go p e below P (T.setTop (mkF m pc Ls rest)) := by
  subst hp; exact Go.st (fun t k => XS.iconst X.here hx rfl (hb hby hd) (by rw [hv]; exact k)) k
theorem Go.bipush {i : Int} {v : Int32} (X : Stand p l e R s m args below meth c T locs cells slots) (hx : p.tables.exec = Jvm.exec) (hby : c.code = by_) (hd : decode by_ pc = .ok (.bipush i, 2)) (hp : pc + 2 = pc') (hv : (Int8.ofInt i).toInt32 = v) (k : Go p e below P (T.setTop (mkF m pc' Ls (.int v :: rest)))) : Go p e below P (T.setTop (mkF m pc Ls rest)) := by
  subst hp; exact Go.st (fun t k => XS.bipush X.here hx rfl (hb hby hd) (by rw [hv]; exact k)) k
theorem Go.sipush {i : Int} {v : Int32} (X : Stand p l e R s m args below meth c T locs cells slots) (hx : p.tables.exec = Jvm.exec) (hby : c.code = by_) (hd : decode by_ pc = .ok (.sipush i, 3)) (hp : pc + 3 = pc') (hv : (Int16.ofInt i).toInt32 = v) (k : Go p e below P (T.setTop (mkF m pc' Ls (.int v :: rest)))) : Go p e below P (T.setTop (mkF m pc Ls rest)) := by
  subst hp; exact Go.st (fun t k => XS.sipush X.here hx rfl (hb hby hd) (by rw [hv]; exact k)) k
theorem Go.lconst {i : Fin 2} {v : Int64} (X : Stand p l e R s m args below meth c T locs cells slots) (hx : p.tables.exec = Jvm.exec) (hby : c.code = by_) (hd : decode by_ pc = .ok (.lconst i, 1)) (hp : pc + 1 = pc') (hv : Int64.ofNat i = v) (k : Go p e below P (T.setTop (mkF m pc' Ls (.long v :: rest)))) : Go p e below P (T.setTop (mkF m pc Ls rest)) := by
  subst hp; exact Go.st (fun t k => XS.lconst X.here hx rfl (hb hby hd) (by rw [hv]; exact k)) k
theorem Go.aconstNull  (X : Stand p l e R s m args below meth c T locs cells slots) (hx : p.tables.exec = Jvm.exec) (hby : c.code = by_) (hd : decode by_ pc = .ok (.aconst_null, 1)) (hp : pc + 1 = pc') (k : Go p e below P (T.setTop (mkF m pc' Ls (.null :: rest)))) : Go p e below P (T.setTop (mkF m pc Ls rest)) := by
  subst hp; exact Go.st (fun t k => XS.aconstNull X.here hx rfl (hb hby hd) k) k
theorem Go.iloadN {i : Fin 4} {v : Int32} (X : Stand p l e R s m args below meth c T locs cells slots) (hx : p.tables.exec = Jvm.exec) (hby : c.code = by_) (hd : decode by_ pc = .ok (.iload_n i, 1)) (hp : pc + 1 = pc') (hl : Ls[i.val]? = some (.val (.int v))) (k : Go p e below P (T.setTop (mkF m pc' Ls (.int v :: rest)))) : Go p e below P (T.setTop (mkF m pc Ls rest)) := by
  subst hp; exact Go.st (fun t k => XS.iloadN X.here hx rfl (hb hby hd) hl k) k
theorem Go.iload {i : Nat} {v : Int32} (X : Stand p l e R s m args below meth c T locs cells slots) (hx : p.tables.exec = Jvm.exec) (hby : c.code = by_) (hd : decode by_ pc = .ok (.iload i, 2)) (hp : pc + 2 = pc') (hl : Ls[i]? = some (.val (.int v))) (k : Go p e below P (T.setTop (mkF m pc' Ls (.int v :: rest)))) : Go p e below P (T.setTop (mkF m pc Ls rest)) := by
  subst hp; exact Go.st (fun t k => XS.iload X.here hx rfl (hb hby hd) hl k) k
theorem Go.lloadN {i : Fin 4} {v : Int64} (X : Stand p l e R s m args below meth c T locs cells slots) (hx : p.tables.exec = Jvm.exec) (hby : c.code = by_) (hd : decode by_ pc = .ok (.lload_n i, 1)) (hp : pc + 1 = pc') (hl : Ls[i.val]? = some (.val (.long v))) (k : Go p e below P (T.setTop (mkF m pc' Ls (.long v :: rest)))) : Go p e below P (T.setTop (mkF m pc Ls rest)) := by
  subst hp; exact Go.st (fun t k => XS.lloadN X.here hx rfl (hb hby hd) hl k) k
theorem Go.lload {i : Nat} {v : Int64} (X : Stand p l e R s m args below meth c T locs cells slots) (hx : p.tables.exec = Jvm.exec) (hby : c.code = by_) (hd : decode by_ pc = .ok (.lload i, 2)) (hp : pc + 2 = pc') (hl : Ls[i]? = some (.val (.long v))) (k : Go p e below P (T.setTop (mkF m pc' Ls (.long v :: rest)))) : Go p e below P (T.setTop (mkF m pc Ls rest)) := by
  subst hp; exact Go.st (fun t k => XS.lload X.here hx rfl (hb hby hd) hl k) k
theorem Go.aloadN {i : Fin 4} {v : Value} (X : Stand p l e R s m args below meth c T locs cells slots) (hx : p.tables.exec = Jvm.exec) (hby : c.code = by_) (hd : decode by_ pc = .ok (.aload_n i, 1)) (hp : pc + 1 = pc') (hl : Ls[i.val]? = some (.val v)) (hv : v.isRef = true) (k : Go p e below P (T.setTop (mkF m pc' Ls (v :: rest)))) : Go p e below P (T.setTop (mkF m pc Ls rest)) := by
  subst hp; exact Go.st (fun t k => XS.aloadN X.here hx rfl (hb hby hd) hl hv k) k
theorem Go.aload {i : Nat} {v : Value} (X : Stand p l e R s m args below meth c T locs cells slots) (hx : p.tables.exec = Jvm.exec) (hby : c.code = by_) (hd : decode by_ pc = .ok (.aload i, 2)) (hp : pc + 2 = pc') (hl : Ls[i]? = some (.val v)) (hv : v.isRef = true) (k : Go p e below P (T.setTop (mkF m pc' Ls (v :: rest)))) : Go p e below P (T.setTop (mkF m pc Ls rest)) := by
  subst hp; exact Go.st (fun t k => XS.aload X.here hx rfl (hb hby hd) hl hv k) k
theorem Go.ldcI {own : String} {index : Nat} {v : Int32} (X : Stand p l e R s m args below meth c T locs cells slots) (hx : p.tables.exec = Jvm.exec) (hby : c.code = by_) (hd : decode by_ pc = .ok (.ldc index, 2)) (hp : pc + 2 = pc') (hown : s.vm.findClass own = some m.cls) (hk : (Jvm.Cond.constant own index v).before args s = true) (k : Go p e below P (T.setTop (mkF m pc' Ls (.int v :: rest)))) : Go p e below P (T.setTop (mkF m pc Ls rest)) := by
  subst hp; exact Go.st (fun t k => X.ldcI hx hown hk rfl (hb hby hd) k) k
theorem Go.ldcWI {own : String} {index : Nat} {v : Int32} (X : Stand p l e R s m args below meth c T locs cells slots) (hx : p.tables.exec = Jvm.exec) (hby : c.code = by_) (hd : decode by_ pc = .ok (.ldc_w index, 3)) (hp : pc + 3 = pc') (hown : s.vm.findClass own = some m.cls) (hk : (Jvm.Cond.constant own index v).before args s = true) (k : Go p e below P (T.setTop (mkF m pc' Ls (.int v :: rest)))) : Go p e below P (T.setTop (mkF m pc Ls rest)) := by
  subst hp; exact Go.st (fun t k => X.ldcWI hx hown hk rfl (hb hby hd) k) k
theorem Go.ldc2J {own : String} {index : Nat} {v : Int64} (X : Stand p l e R s m args below meth c T locs cells slots) (hx : p.tables.exec = Jvm.exec) (hby : c.code = by_) (hd : decode by_ pc = .ok (.ldc2_w index, 3)) (hp : pc + 3 = pc') (hown : s.vm.findClass own = some m.cls) (hk : (Jvm.Cond.constantLong own index v).before args s = true) (k : Go p e below P (T.setTop (mkF m pc' Ls (.long v :: rest)))) : Go p e below P (T.setTop (mkF m pc Ls rest)) := by
  subst hp; exact Go.st (fun t k => X.ldc2J hx hown hk rfl (hb hby hd) k) k
theorem Go.istoreN {i : Fin 4} {v : Int32} {Ls' : Array Slot} (X : Stand p l e R s m args below meth c T locs cells slots) (hx : p.tables.exec = Jvm.exec) (hby : c.code = by_) (hd : decode by_ pc = .ok (.istore_n i, 1)) (hp : pc + 1 = pc') (hl : storeLocals Ls i.val (.int v) = some Ls') (k : Go p e below P (T.setTop (mkF m pc' Ls' rest))) : Go p e below P (T.setTop (mkF m pc Ls (.int v :: rest))) := by
  subst hp; exact Go.st (fun t k => XS.istoreN X.here hx rfl (hb hby hd) rfl hl k) k
theorem Go.istore {i : Nat} {v : Int32} {Ls' : Array Slot} (X : Stand p l e R s m args below meth c T locs cells slots) (hx : p.tables.exec = Jvm.exec) (hby : c.code = by_) (hd : decode by_ pc = .ok (.istore i, 2)) (hp : pc + 2 = pc') (hl : storeLocals Ls i (.int v) = some Ls') (k : Go p e below P (T.setTop (mkF m pc' Ls' rest))) : Go p e below P (T.setTop (mkF m pc Ls (.int v :: rest))) := by
  subst hp; exact Go.st (fun t k => XS.istore X.here hx rfl (hb hby hd) rfl hl k) k
theorem Go.lstoreN {i : Fin 4} {v : Int64} {Ls' : Array Slot} (X : Stand p l e R s m args below meth c T locs cells slots) (hx : p.tables.exec = Jvm.exec) (hby : c.code = by_) (hd : decode by_ pc = .ok (.lstore_n i, 1)) (hp : pc + 1 = pc') (hl : storeLocals Ls i.val (.long v) = some Ls') (k : Go p e below P (T.setTop (mkF m pc' Ls' rest))) : Go p e below P (T.setTop (mkF m pc Ls (.long v :: rest))) := by
  subst hp; exact Go.st (fun t k => XS.lstoreN X.here hx rfl (hb hby hd) rfl hl k) k
theorem Go.lstore {i : Nat} {v : Int64} {Ls' : Array Slot} (X : Stand p l e R s m args below meth c T locs cells slots) (hx : p.tables.exec = Jvm.exec) (hby : c.code = by_) (hd : decode by_ pc = .ok (.lstore i, 2)) (hp : pc + 2 = pc') (hl : storeLocals Ls i (.long v) = some Ls') (k : Go p e below P (T.setTop (mkF m pc' Ls' rest))) : Go p e below P (T.setTop (mkF m pc Ls (.long v :: rest))) := by
  subst hp; exact Go.st (fun t k => XS.lstore X.here hx rfl (hb hby hd) rfl hl k) k
theorem Go.astoreN {i : Fin 4} {v : Value} {Ls' : Array Slot} (X : Stand p l e R s m args below meth c T locs cells slots) (hx : p.tables.exec = Jvm.exec) (hby : c.code = by_) (hd : decode by_ pc = .ok (.astore_n i, 1)) (hp : pc + 1 = pc') (hv : v.isRef = true) (hl : storeLocals Ls i.val v = some Ls') (k : Go p e below P (T.setTop (mkF m pc' Ls' rest))) : Go p e below P (T.setTop (mkF m pc Ls (v :: rest))) := by
  subst hp; exact Go.st (fun t k => XS.astoreN X.here hx rfl (hb hby hd) rfl hv hl k) k
theorem Go.astore {i : Nat} {v : Value} {Ls' : Array Slot} (X : Stand p l e R s m args below meth c T locs cells slots) (hx : p.tables.exec = Jvm.exec) (hby : c.code = by_) (hd : decode by_ pc = .ok (.astore i, 2)) (hp : pc + 2 = pc') (hv : v.isRef = true) (hl : storeLocals Ls i v = some Ls') (k : Go p e below P (T.setTop (mkF m pc' Ls' rest))) : Go p e below P (T.setTop (mkF m pc Ls (v :: rest))) := by
  subst hp; exact Go.st (fun t k => XS.astore X.here hx rfl (hb hby hd) rfl hv hl k) k
theorem Go.iinc {i : Nat} {cst : Int} {v w : Int32} {Ls' : Array Slot} (X : Stand p l e R s m args below meth c T locs cells slots) (hx : p.tables.exec = Jvm.exec) (hby : c.code = by_) (hd : decode by_ pc = .ok (.iinc i cst, 3)) (hp : pc + 3 = pc') (hl : Ls[i]? = some (.val (.int v))) (hv : v + Int32.ofInt cst = w) (hl' : storeLocals Ls i (.int w) = some Ls') (k : Go p e below P (T.setTop (mkF m pc' Ls' rest))) : Go p e below P (T.setTop (mkF m pc Ls rest)) := by
  subst hp hv; exact Go.st (fun t k => XS.iinc X.here hx rfl (hb hby hd) hl hl' k) k
theorem Go.goto {o : Int} (X : Stand p l e R s m args below meth c T locs cells slots) (hx : p.tables.exec = Jvm.exec) (hby : c.code = by_) (hd : decode by_ pc = .ok (.goto o, 3)) (ho : 0 ≤ (pc : Int) + o) (hp : ((pc : Int) + o).toNat = pc') (k : Go p e below P (T.setTop (mkF m pc' Ls rest))) : Go p e below P (T.setTop (mkF m pc Ls rest)) :=
  Go.st (fun t k => XS.goto X.here hx rfl rfl (hb hby hd) ho hp k) k
theorem Go.icmpY {cd : ClassFile.Cond} {o : Int} {x y : Int32} (X : Stand p l e R s m args below meth c T locs cells slots) (hx : p.tables.exec = Jvm.exec) (hby : c.code = by_) (hd : decode by_ pc = .ok (.if_icmp cd o, 3)) (ho : 0 ≤ (pc : Int) + o) (hp : ((pc : Int) + o).toNat = pc') (q : icP cd x y) (k : Go p e below P (T.setTop (mkF m pc' Ls rest))) : Go p e below P (T.setTop (mkF m pc Ls (.int y :: .int x :: rest))) :=
  Go.st (fun t k => XS.icmpYes X.here hx rfl rfl (hb hby hd) rfl ((icP_iff cd x y).mpr q) ho hp k) k
theorem Go.icmpN {cd : ClassFile.Cond} {o : Int} {x y : Int32} (X : Stand p l e R s m args below meth c T locs cells slots) (hx : p.tables.exec = Jvm.exec) (hby : c.code = by_) (hd : decode by_ pc = .ok (.if_icmp cd o, 3)) (hp : pc + 3 = pc') (q : ¬ icP cd x y) (k : Go p e below P (T.setTop (mkF m pc' Ls rest))) : Go p e below P (T.setTop (mkF m pc Ls (.int y :: .int x :: rest))) := by
  subst hp; exact Go.st (fun t k => XS.icmpNo X.here hx rfl (hb hby hd) rfl (icP_not q) k) k
theorem Go.icmp {cd : ClassFile.Cond} {o : Int} {x y : Int32} {pn : Nat} (X : Stand p l e R s m args below meth c T locs cells slots) (hx : p.tables.exec = Jvm.exec) (hby : c.code = by_) (hd : decode by_ pc = .ok (.if_icmp cd o, 3)) (ho : 0 ≤ (pc : Int) + o) (hp : ((pc : Int) + o).toNat = pc') (hp2 : pc + 3 = pn) (k : icP cd x y → Go p e below P (T.setTop (mkF m pc' Ls rest))) (k2 : ¬ icP cd x y → Go p e below P (T.setTop (mkF m pn Ls rest))) : Go p e below P (T.setTop (mkF m pc Ls (.int y :: .int x :: rest))) := by
  by_cases q : icP cd x y
  · exact Go.icmpY X hx hby hd ho hp q (k q)
  · exact Go.icmpN X hx hby hd hp2 q (k2 q)
theorem Go.ifY {cd : ClassFile.Cond} {o : Int} {x : Int32} (X : Stand p l e R s m args below meth c T locs cells slots) (hx : p.tables.exec = Jvm.exec) (hby : c.code = by_) (hd : decode by_ pc = .ok (.ifCond cd o, 3)) (ho : 0 ≤ (pc : Int) + o) (hp : ((pc : Int) + o).toNat = pc') (q : icP cd x 0) (k : Go p e below P (T.setTop (mkF m pc' Ls rest))) : Go p e below P (T.setTop (mkF m pc Ls (.int x :: rest))) :=
  Go.st (fun t k => XS.ifYes X.here hx rfl rfl (hb hby hd) rfl (by rw [if0]; exact (icP_iff cd x 0).mpr q) ho hp k) k
theorem Go.ifN {cd : ClassFile.Cond} {o : Int} {x : Int32} (X : Stand p l e R s m args below meth c T locs cells slots) (hx : p.tables.exec = Jvm.exec) (hby : c.code = by_) (hd : decode by_ pc = .ok (.ifCond cd o, 3)) (hp : pc + 3 = pc') (q : ¬ icP cd x 0) (k : Go p e below P (T.setTop (mkF m pc' Ls rest))) : Go p e below P (T.setTop (mkF m pc Ls (.int x :: rest))) := by
  subst hp; exact Go.st (fun t k => XS.ifNo X.here hx rfl (hb hby hd) rfl (by rw [if0]; exact icP_not q) k) k
theorem Go.if_ {cd : ClassFile.Cond} {o : Int} {x : Int32} {pn : Nat} (X : Stand p l e R s m args below meth c T locs cells slots) (hx : p.tables.exec = Jvm.exec) (hby : c.code = by_) (hd : decode by_ pc = .ok (.ifCond cd o, 3)) (ho : 0 ≤ (pc : Int) + o) (hp : ((pc : Int) + o).toNat = pc') (hp2 : pc + 3 = pn) (k : icP cd x 0 → Go p e below P (T.setTop (mkF m pc' Ls rest))) (k2 : ¬ icP cd x 0 → Go p e below P (T.setTop (mkF m pn Ls rest))) : Go p e below P (T.setTop (mkF m pc Ls (.int x :: rest))) := by
  by_cases q : icP cd x 0
  · exact Go.ifY X hx hby hd ho hp q (k q)
  · exact Go.ifN X hx hby hd hp2 q (k2 q)
theorem Go.ifnullY {o : Int} (X : Stand p l e R s m args below meth c T locs cells slots) (hx : p.tables.exec = Jvm.exec) (hby : c.code = by_) (hd : decode by_ pc = .ok (.ifnull o, 3)) (ho : 0 ≤ (pc : Int) + o) (hp : ((pc : Int) + o).toNat = pc') (k : Go p e below P (T.setTop (mkF m pc' Ls rest))) : Go p e below P (T.setTop (mkF m pc Ls (.null :: rest))) :=
  Go.st (fun t k => XS.ifnullYes X.here hx rfl rfl (hb hby hd) rfl ho hp k) k
theorem Go.ifnullN {o : Int} {b : Addr} (X : Stand p l e R s m args below meth c T locs cells slots) (hx : p.tables.exec = Jvm.exec) (hby : c.code = by_) (hd : decode by_ pc = .ok (.ifnull o, 3)) (hp : pc + 3 = pc') (k : Go p e below P (T.setTop (mkF m pc' Ls rest))) : Go p e below P (T.setTop (mkF m pc Ls (.ref b :: rest))) := by
  subst hp; exact Go.st (fun t k => XS.ifnullNo X.here hx rfl (hb hby hd) rfl k) k
theorem Go.ifnonnullY {o : Int} {b : Addr} (X : Stand p l e R s m args below meth c T locs cells slots) (hx : p.tables.exec = Jvm.exec) (hby : c.code = by_) (hd : decode by_ pc = .ok (.ifnonnull o, 3)) (ho : 0 ≤ (pc : Int) + o) (hp : ((pc : Int) + o).toNat = pc') (k : Go p e below P (T.setTop (mkF m pc' Ls rest))) : Go p e below P (T.setTop (mkF m pc Ls (.ref b :: rest))) :=
  Go.st (fun t k => XS.ifnonnullYes X.here hx rfl rfl (hb hby hd) rfl ho hp k) k
theorem Go.ifnonnullN {o : Int} (X : Stand p l e R s m args below meth c T locs cells slots) (hx : p.tables.exec = Jvm.exec) (hby : c.code = by_) (hd : decode by_ pc = .ok (.ifnonnull o, 3)) (hp : pc + 3 = pc') (k : Go p e below P (T.setTop (mkF m pc' Ls rest))) : Go p e below P (T.setTop (mkF m pc Ls (.null :: rest))) := by
  subst hp; exact Go.st (fun t k => XS.ifnonnullNo X.here hx rfl (hb hby hd) rfl k) k
theorem Go.acmpEq {o : Int} {b : Addr} (X : Stand p l e R s m args below meth c T locs cells slots) (hx : p.tables.exec = Jvm.exec) (hby : c.code = by_) (hd : decode by_ pc = .ok (.if_acmp .eq o, 3)) (ho : 0 ≤ (pc : Int) + o) (hp : ((pc : Int) + o).toNat = pc') (k : Go p e below P (T.setTop (mkF m pc' Ls rest))) : Go p e below P (T.setTop (mkF m pc Ls (.ref b :: .ref b :: rest))) :=
  Go.st (fun t k => acmp X hx rfl (x := .ref b) (y := .ref b) rfl rfl rfl (hb hby hd) rfl (same := true) (by simp) ho (hp.symm.trans (if_pos rfl).symm) k) k
theorem Go.callS {own : String} {index : Nat} {y : MethodName} {bytes : ByteArray} {maxL : Nat} {ret : Option FieldType} {rm : Room} {W : Nat} {as : Array Value} {Qc : Option Value → Heap → List Loc → Prop} {argsL st : List Value} {ps : List FieldType} {rt : Option FieldType} (X : Stand p l e R s m args below meth c T locs cells slots) (hx : p.tables.exec = Jvm.exec) (hby : c.code = by_) (hZ : Z.Warmed39 s.vm) (hown : s.vm.findClass own = some m.cls)
    (w1 : (Jvm.Cond.methodLink own index y).before a0 Z = true) (w2 : (Jvm.Cond.static y).before a0 Z = true) (w3 : (Jvm.Cond.initialized y.cls).before a0 Z = true) (w4 : (Jvm.Cond.code y bytes maxL ret).before a0 Z = true) (hy : y.cls ≠ "java/lang/invoke/MethodHandle" ∧ y.cls ≠ "java/lang/invoke/VarHandle")
    (hM : Con l Z y bytes maxL ret [] rm as h Qc) (eT : T.heap = h) (hf : rm.frames + 1 ≤ R.frames) (hl : W + (maxL + 11) + rm.locals ≤ R.locals) (hsize : Ls.size = c.maxLocals) (hpd : parseMethodDescriptor y.desc = some ⟨ps, rt⟩) (hlen : argsL.length = ps.length) (hst : st = argsL.reverse ++ rest) (has : argsL.toArray = as) (hW : 0 + (rest.map fun v => v.category).sum ≤ W)
    (hd : decode by_ pc = .ok (.invokestatic index, 3)) (hp : pc + 3 = pc') (hc : cells + rm.cells ≤ R.cells) (hs : slots + rm.slots ≤ R.slots)
    (k : ∀ (v : Option Value) (T' : State) (L : List Loc), Stand p l e R s m args below meth c T' (locs ++ L) (cells + rm.cells) (slots + rm.slots) → Qc v T'.heap L → Go p e below P (T'.setTop (mkF m pc' Ls (v.toList ++ rest)))) : Go p e below P (T.setTop (mkF m pc Ls st)) := by
  subst hp
  obtain ⟨v, _, ⟨T3, L3, k3, n3⟩, -, X3, ⟨Lc3, hQ3, l3, y3, z3⟩, st3⟩ := Jvm.LawKit.callS X hx (y := y) hown (mvT hZ w1) (mvT hZ w2) (mvT hZ w3) (mvT hZ w4) hy (backOf (W := W) hM hZ w4 w3 hf hl) (g := mkF m pc Ls st) rfl hsize (argsL := argsL) (rest := rest) (lenOf hpd hlen) hst hW (hb hby hd) (fun _ _ => ⟨has, eT, hc, hs⟩)
  dsimp only [Pt.U, Pt.locs, Pt.cells, Pt.slots] at X3 l3 y3 z3 st3 hQ3
  subst l3 y3 z3
  exact Go.st st3 (k v T3 Lc3 X3 hQ3)
theorem Go.callI {own : String} {index : Nat} {y : MethodName} {bytes : ByteArray} {maxL : Nat} {rm : Room} {W : Nat} {as : Array Value} {Qc : Option Value → Heap → List Loc → Prop} {argsL st : List Value} {ps : List FieldType} {rt : Option FieldType} {a : Addr} (X : Stand p l e R s m args below meth c T locs cells slots) (hx : p.tables.exec = Jvm.exec) (hby : c.code = by_) (hy1 : y.name = "<init>") (hZ : Z.Warmed39 s.vm) (hown : s.vm.findClass own = some m.cls)
    (w1 : (Jvm.Cond.methodLink own index y).before a0 Z = true) (w2 : (Jvm.Cond.instanceMethod y).before a0 Z = true) (w3 : (Jvm.Cond.initialized y.cls).before a0 Z = true) (w4 : (Jvm.Cond.code y bytes maxL none).before a0 Z = true) (hy : y.cls ≠ "java/lang/invoke/MethodHandle" ∧ y.cls ≠ "java/lang/invoke/VarHandle")
    (hM : Con l Z y bytes maxL none [] rm as h Qc) (eT : T.heap = h) (hf : rm.frames + 1 ≤ R.frames) (hl : W + (maxL + 11) + rm.locals ≤ R.locals) (hsize : Ls.size = c.maxLocals) (hpd : parseMethodDescriptor y.desc = some ⟨ps, rt⟩) (hlen : argsL.length = ps.length) (hst : st = argsL.reverse ++ .ref a :: rest) (has : (.ref a :: argsL).toArray = as) (hW : 0 + (rest.map fun v => v.category).sum ≤ W)
    (hd : decode by_ pc = .ok (.invokespecial index, 3)) (hp : pc + 3 = pc') (hc : cells + rm.cells ≤ R.cells) (hs : slots + rm.slots ≤ R.slots)
    (k : ∀ (v : Option Value) (T' : State) (L : List Loc), Stand p l e R s m args below meth c T' (locs ++ L) (cells + rm.cells) (slots + rm.slots) → Qc v T'.heap L → Go p e below P (T'.setTop (mkF m pc' Ls (v.toList ++ rest)))) : Go p e below P (T.setTop (mkF m pc Ls st)) := by
  subst hp
  obtain ⟨v, _, ⟨T3, L3, k3, n3⟩, -, X3, ⟨Lc3, hQ3, l3, y3, z3⟩, st3⟩ := X.specialBack hx (y := y) hy1 hown (mvT hZ w1) (mvT hZ w2) (mvT hZ w4) hy (backOf (W := W) hM hZ w4 w3 hf hl) (g := mkF m pc Ls st) rfl hsize (Steps.refl _) (a := a) (argsL := argsL) (rest := rest) (lenOf hpd hlen) hst hW (hb hby hd) (fun _ _ => ⟨has, eT, hc, hs⟩)
  dsimp only [Pt.U, Pt.locs, Pt.cells, Pt.slots] at X3 l3 y3 z3 st3 hQ3
  subst l3 y3 z3
  exact Go.via st3 (k v T3 Lc3 X3 hQ3)
theorem Go.callV {own C : String} {index : Nat} {y z : MethodName} {bytes : ByteArray} {maxL : Nat} {ret : Option FieldType} {rm : Room} {W : Nat} {as : Array Value} {Qc : Option Value → Heap → List Loc → Prop} {argsL st : List Value} {ps : List FieldType} {rt : Option FieldType} {a : Addr} (X : Stand p l e R s m args below meth c T locs cells slots) (hx : p.tables.exec = Jvm.exec) (hby : c.code = by_) (hZ : Z.Warmed39 s.vm) (hown : s.vm.findClass own = some m.cls)
    (w1 : (Jvm.Cond.methodLink own index y).before a0 Z = true) (w2 : (Jvm.Cond.declares y).before a0 Z = true) (hnf : NotFace s y) (w5 : (Jvm.Cond.selects C y z).before a0 Z = true) (w6 : (Jvm.Cond.instanceMethod z).before a0 Z = true) (w3 : (Jvm.Cond.initialized z.cls).before a0 Z = true) (w4 : (Jvm.Cond.code z bytes maxL ret).before a0 Z = true) (hy : y.cls ≠ "java/lang/invoke/MethodHandle" ∧ y.cls ≠ "java/lang/invoke/VarHandle")
    (hM : Con l Z z bytes maxL ret [] rm as h Qc) (eT : T.heap = h) (hE : Exa Z h a C) (hf : rm.frames + 1 ≤ R.frames) (hl : W + (maxL + 11) + rm.locals ≤ R.locals) (hsize : Ls.size = c.maxLocals) (hpd : parseMethodDescriptor y.desc = some ⟨ps, rt⟩) (hlen : argsL.length = ps.length) (hst : st = argsL.reverse ++ .ref a :: rest) (has : (.ref a :: argsL).toArray = as) (hW : 0 + (rest.map fun v => v.category).sum ≤ W)
    (hd : decode by_ pc = .ok (.invokevirtual index, 3)) (hp : pc + 3 = pc') (hc : cells + rm.cells ≤ R.cells) (hs : slots + rm.slots ≤ R.slots)
    (k : ∀ (v : Option Value) (T' : State) (L : List Loc), Stand p l e R s m args below meth c T' (locs ++ L) (cells + rm.cells) (slots + rm.slots) → Qc v T'.heap L → Go p e below P (T'.setTop (mkF m pc' Ls (v.toList ++ rest)))) : Go p e below P (T.setTop (mkF m pc Ls st)) := by
  subst hp
  obtain ⟨cq, kq, q4a, q4b, q4c⟩ := isOf (T := T) hZ eT hE
  obtain ⟨v, _, ⟨T3, L3, k3, n3⟩, -, X3, ⟨Lc3, hQ3, l3, y3, z3⟩, st3⟩ := X.virtualBack hx (y := y) (z := z) hown (mvT hZ w1) (mvT hZ w2) hnf (mvT hZ w5) (mvT hZ w6) hy (backOf (W := W) hM hZ w4 w3 hf hl) q4a q4c (g := mkF m pc Ls st) rfl hsize (Steps.refl _) (argsL := argsL) (rest := rest) (lenOf hpd hlen) hst hW (hb hby hd) (fun _ _ => ⟨has, eT, hc, hs⟩)
  dsimp only [Pt.U, Pt.locs, Pt.cells, Pt.slots] at X3 l3 y3 z3 st3 hQ3
  subst l3 y3 z3
  exact Go.via st3 (k v T3 Lc3 X3 hQ3)

theorem Go.nmI {x : Int32} (k : ∀ v : Int32, v = x → Go p e below P (T.setTop (mkF m pc Ls (.int v :: rest)))) : Go p e below P (T.setTop (mkF m pc Ls (.int x :: rest))) := k _ rfl
theorem Go.nmJ {x : Int64} (k : ∀ v : Int64, v = x → Go p e below P (T.setTop (mkF m pc Ls (.long v :: rest)))) : Go p e below P (T.setTop (mkF m pc Ls (.long x :: rest))) := k _ rfl
theorem Go.cut {α : Type} {F : α → State} {x : α} {S : State} (k : Go p e below P (F x)) (k2 : (∀ b, b = x → Go p e below P (F b)) → Go p e below P S) : Go p e below P S := k2 (fun b hb => hb ▸ k)
theorem Go.cutAll {α : Type} {F : α → State} {S : State} (k : ∀ b, Go p e below P (F b)) (k2 : (∀ b, Go p e below P (F b)) → Go p e below P S) : Go p e below P S := k2 k
theorem Go.loop {α : Type} {F : α → State} {I : α → Prop} {μ : α → Nat} (step : ∀ x, I x → (∀ y, I y → μ y < μ x → Go p e below P (F y)) → Go p e below P (F x)) (x : α) (hx : I x) : Go p e below P (F x) := by
  have key : ∀ (n : Nat) (x : α), μ x < n → I x → Go p e below P (F x) := by
    intro n
    induction n with
    | zero => intro x hn; exact absurd hn (Nat.not_lt_zero _)
    | succ n ih => intro x hn hi; exact step x hi (fun y hy hlt => ih y (by omega) hy)
  exact key _ x (Nat.lt_succ_self _) hx
/-- what a law leaves: true, and nothing that stood is written -/
def LQ (n0 : Nat) (v : Option Value) (h : Heap) (L : List Loc) : Prop := v = some (.int 1) ∧ Fr n0 L
end OwnGo
section OwnHeap
variable {p : Program} {l : Launch} {e : Env} {R : Room} {s : State} {m : MethodId} {args : Array Value} {below : List Frame} {meth : Method} {c : Code} {T : State} {locs : List Loc} {cells slots : Nat} {Z : State} {a0 : Array Value} {h h' : Heap} {Q : Option Value → Heap → List Loc → Prop} {P : Option Value → State → Prop} {K N : Nat} {by_ : ByteArray} {pc pc' : Nat} {Ls : Array Slot} {rest : List Value} {a b : Addr} {ty : FieldType} {z i : Int} {f g : Int → Value} {sl : Nat} {v : Value} {ws : List Addr}
/-- an array: its length z, what place i holds -/
def Ar (Z : State) (h : Heap) (a : Addr) (ty : FieldType) (z : Int) (f : Int → Value) : Prop := ∃ cl : Cell, Arr Z h a cl ty ∧ (cl.slots.size : Int) = z ∧ z < 2147483648 ∧ ∀ i : Nat, (i : Int) < z → cl.slots[i]? = some (f i)
theorem Ar.ext (F : Ar Z h a ty z f) (E : Ext h h') : Ar Z h' a ty z f := by obtain ⟨cl, A, r⟩ := F; exact ⟨cl, A.ext E, r⟩
theorem Ar.other (F : Ar Z h a ty z f) (W : Wr h h' b sl v) (q : a ≠ b) : Ar Z h' a ty z f := by obtain ⟨cl, A, r⟩ := F; exact ⟨cl, A.other W q, r⟩
theorem Ar.keep (F : Ar Z h a ty z f) (K : Keep h h' ws) (q : a ∉ ws) : Ar Z h' a ty z f := by obtain ⟨cl, A, r⟩ := F; exact ⟨cl, ⟨K.2.1 a cl A.1 q, A.2⟩, r⟩
theorem Ar.lt (F : Ar Z h a ty z f) : a < h.size := by obtain ⟨cl, A, -⟩ := F; exact A.lt
theorem Ar.congr (F : Ar Z h a ty z f) (q : ∀ i, 0 ≤ i → i < z → f i = g i) : Ar Z h a ty z g := by
  obtain ⟨cl, A, r1, r2, r3⟩ := F
  exact ⟨cl, A, r1, r2, fun i hi => by rw [r3 i hi, q i (by omega) hi]⟩
theorem Ar.bound (F : Ar Z h a ty z f) : 0 ≤ z ∧ z < 2147483648 := by obtain ⟨cl, A, r1, r2, -⟩ := F; omega
theorem Ar.set (F : Ar Z h a ty z f) (W : Wr h h' a i.toNat v) (hi : 0 ≤ i) : Ar Z h' a ty z (fun q => if q = i then v else f q) := by
  obtain ⟨cl, A, r1, r2, r3⟩ := F
  obtain ⟨cl2, w1, w2, w3, w4⟩ := W
  cases w1.symm.trans A.1
  refine ⟨_, A.same ⟨cl, A.1, w2, w3, w4⟩, by rw [sz_set]; exact r1, r2, fun k hk => ?_⟩
  by_cases e : (k : Int) = i
  · have e' : k = i.toNat := by omega
    subst e'
    simp only [Cell.setSlot, if_pos e]
    rw [Array.getElem?_setIfInBounds_self_of_lt w3]
  · show _ = some (if (k : Int) = i then v else f k)
    rw [if_neg e]
    simp only [Cell.setSlot]
    rw [Array.getElem?_setIfInBounds_ne (by omega)]
    exact r3 k hk
theorem Ar.new {cA : ClassId} {n : Int32} (A : Arr Z h a (newA cA ty n) ty) (q : n.toInt = z) (q0 : 0 ≤ z) : Ar Z h a ty z (fun _ => defaultValue ty) := by
  have hs : ((newA cA ty n).slots.size : Int) = z := by rw [sz_new]; simp only [Int32.toNatClampNeg]; omega
  refine ⟨_, A, hs, by have := n.toInt_lt; omega, fun i hi => ?_⟩
  have hlt : i < n.toNatClampNeg := by rw [sz_new] at hs; omega
  simp [newA, Array.getElem?_replicate, hlt]
theorem in_of {cl : Cell} {j : Int32} (r1 : (cl.slots.size : Int) = z) (hj : j.toInt = i) (h0 : 0 ≤ i) (h1 : i < z) : ¬ (j < 0 ∨ cl.slots.size ≤ j.toNatClampNeg) ∧ j.toNatClampNeg = i.toNat := by
  have e : j.toNatClampNeg = i.toNat := by simp only [Int32.toNatClampNeg, hj]
  refine ⟨fun q => ?_, e⟩
  rcases q with q | q
  · rw [Int32.lt_iff_toInt_lt, hj, show (0 : Int32).toInt = 0 from by decide] at q; omega
  · rw [e] at q; omega
theorem Go.alen {zv : Int32} (X : Stand p l e R s m args below meth c T locs cells slots) (hx : p.tables.exec = Jvm.exec) (hby : c.code = by_) (hZ : Z.Warmed39 s.vm) (eT : T.heap = h) (A : Ar Z h a ty z f) (hd : decode by_ pc = .ok (.arraylength, 1)) (hp : pc + 1 = pc') (hz : zv.toInt = z) (k : Go p e below P (T.setTop (mkF m pc' Ls (.int zv :: rest)))) : Go p e below P (T.setTop (mkF m pc Ls (.ref a :: rest))) := by
  subst hp
  obtain ⟨cl, A, r1, r2, -⟩ := A
  have e1 : cl.slots.size.toInt32 = zv := Int32.toInt_inj.mp (by rw [len_toInt (by omega), hz]; exact r1)
  exact Go.st (fun t k => X.arraylength hx (cell := cl) (by rw [eT]; exact A.1) (State.isArrayOf_alike hZ.alike A.2.1) (g := mkF m pc Ls (.ref a :: rest)) rfl rfl (hb hby hd) _ (by rw [e1]; exact k)) k
theorem Go.iaload {j : Int32} (X : Stand p l e R s m args below meth c T locs cells slots) (hx : p.tables.exec = Jvm.exec) (hby : c.code = by_) (hZ : Z.Warmed39 s.vm) (eT : T.heap = h) (A : Ar Z h a .int z f) (hd : decode by_ pc = .ok (.iaload, 1)) (hp : pc + 1 = pc') (hj : j.toInt = i) (h0 : 0 ≤ i) (h1 : i < z) (hv : f i = v) (k : Go p e below P (T.setTop (mkF m pc' Ls (v :: rest)))) : Go p e below P (T.setTop (mkF m pc Ls (.int j :: .ref a :: rest))) := by
  subst hp hv
  obtain ⟨cl, A, r1, r2, r3⟩ := A
  obtain ⟨q1, q2⟩ := in_of r1 hj h0 h1
  exact Go.st (fun t k => X.iaload hx (j := j) (v := f i) (by rw [eT]; exact A.1) (State.isArrayOf_alike hZ.alike A.2.1) A.2.2 q1 (by rw [q2, r3 _ (by omega)]; congr 2; omega) (g := mkF m pc Ls (.int j :: .ref a :: rest)) rfl rfl (hb hby hd) _ k) k
theorem Go.caload {j : Int32} (X : Stand p l e R s m args below meth c T locs cells slots) (hx : p.tables.exec = Jvm.exec) (hby : c.code = by_) (hZ : Z.Warmed39 s.vm) (eT : T.heap = h) (A : Ar Z h a .char z f) (hd : decode by_ pc = .ok (.caload, 1)) (hp : pc + 1 = pc') (hj : j.toInt = i) (h0 : 0 ≤ i) (h1 : i < z) (hv : f i = v) (k : Go p e below P (T.setTop (mkF m pc' Ls (v :: rest)))) : Go p e below P (T.setTop (mkF m pc Ls (.int j :: .ref a :: rest))) := by
  subst hp hv
  obtain ⟨cl, A, r1, r2, r3⟩ := A
  obtain ⟨q1, q2⟩ := in_of r1 hj h0 h1
  exact Go.st (fun t k => X.caload hx (j := j) (v := f i) (by rw [eT]; exact A.1) (State.isArrayOf_alike hZ.alike A.2.1) A.2.2 q1 (by rw [q2, r3 _ (by omega)]; congr 2; omega) (g := mkF m pc Ls (.int j :: .ref a :: rest)) rfl rfl (hb hby hd) _ k) k
theorem Go.baload {j : Int32} (X : Stand p l e R s m args below meth c T locs cells slots) (hx : p.tables.exec = Jvm.exec) (hby : c.code = by_) (hZ : Z.Warmed39 s.vm) (eT : T.heap = h) (A : Ar Z h a .byte z f) (hd : decode by_ pc = .ok (.baload, 1)) (hp : pc + 1 = pc') (hj : j.toInt = i) (h0 : 0 ≤ i) (h1 : i < z) (hv : f i = v) (k : Go p e below P (T.setTop (mkF m pc' Ls (v :: rest)))) : Go p e below P (T.setTop (mkF m pc Ls (.int j :: .ref a :: rest))) := by
  subst hp hv
  obtain ⟨cl, A, r1, r2, r3⟩ := A
  obtain ⟨q1, q2⟩ := in_of r1 hj h0 h1
  exact Go.st (fun t k => X.baloadBytes hx (j := j) (v := f i) (by rw [eT]; exact A.1) (State.isArrayOf_alike hZ.alike A.2.1) A.2.2 q1 (by rw [q2, r3 _ (by omega)]; congr 2; omega) (g := mkF m pc Ls (.int j :: .ref a :: rest)) rfl rfl (hb hby hd) _ k) k
theorem Go.laload {j : Int32} (X : Stand p l e R s m args below meth c T locs cells slots) (hx : p.tables.exec = Jvm.exec) (hby : c.code = by_) (hZ : Z.Warmed39 s.vm) (eT : T.heap = h) (A : Ar Z h a .long z f) (hd : decode by_ pc = .ok (.laload, 1)) (hp : pc + 1 = pc') (hj : j.toInt = i) (h0 : 0 ≤ i) (h1 : i < z) (hv : f i = v) (k : Go p e below P (T.setTop (mkF m pc' Ls (v :: rest)))) : Go p e below P (T.setTop (mkF m pc Ls (.int j :: .ref a :: rest))) := by
  subst hp hv
  obtain ⟨cl, A, r1, r2, r3⟩ := A
  obtain ⟨q1, q2⟩ := in_of r1 hj h0 h1
  exact Go.st (fun t k => X.laload hx (j := j) (v := f i) (by rw [eT]; exact A.1) (State.isArrayOf_alike hZ.alike A.2.1) A.2.2 q1 (by rw [q2, r3 _ (by omega)]; congr 2; omega) (g := mkF m pc Ls (.int j :: .ref a :: rest)) rfl rfl (hb hby hd) _ k) k
theorem Go.saload {j : Int32} (X : Stand p l e R s m args below meth c T locs cells slots) (hx : p.tables.exec = Jvm.exec) (hby : c.code = by_) (hZ : Z.Warmed39 s.vm) (eT : T.heap = h) (A : Ar Z h a .short z f) (hd : decode by_ pc = .ok (.saload, 1)) (hp : pc + 1 = pc') (hj : j.toInt = i) (h0 : 0 ≤ i) (h1 : i < z) (hv : f i = v) (k : Go p e below P (T.setTop (mkF m pc' Ls (v :: rest)))) : Go p e below P (T.setTop (mkF m pc Ls (.int j :: .ref a :: rest))) := by
  subst hp hv
  obtain ⟨cl, A, r1, r2, r3⟩ := A
  obtain ⟨q1, q2⟩ := in_of r1 hj h0 h1
  exact Go.st (fun t k => X.saload hx (j := j) (v := f i) (by rw [eT]; exact A.1) (State.isArrayOf_alike hZ.alike A.2.1) A.2.2 q1 (by rw [q2, r3 _ (by omega)]; congr 2; omega) (g := mkF m pc Ls (.int j :: .ref a :: rest)) rfl rfl (hb hby hd) _ k) k
theorem Go.aaload {j : Int32} (X : Stand p l e R s m args below meth c T locs cells slots) (hx : p.tables.exec = Jvm.exec) (hby : c.code = by_) (hZ : Z.Warmed39 s.vm) (eT : T.heap = h) (A : Ar Z h a ty z f) (hty : ty.isReference = true) (hd : decode by_ pc = .ok (.aaload, 1)) (hp : pc + 1 = pc') (hj : j.toInt = i) (h0 : 0 ≤ i) (h1 : i < z) (hv : f i = v) (k : Go p e below P (T.setTop (mkF m pc' Ls (v :: rest)))) : Go p e below P (T.setTop (mkF m pc Ls (.int j :: .ref a :: rest))) := by
  subst hp hv
  obtain ⟨cl, A, r1, r2, r3⟩ := A
  obtain ⟨q1, q2⟩ := in_of r1 hj h0 h1
  exact Go.st (fun t k => X.aaload hx (j := j) (v := f i) (by rw [eT]; exact A.1) (State.isArrayOf_alike hZ.alike A.2.1) hty A.2.2 q1 (by rw [q2, r3 _ (by omega)]; congr 2; omega) (g := mkF m pc Ls (.int j :: .ref a :: rest)) rfl rfl (hb hby hd) _ k) k
theorem Go.iastore {j : Int32} {x : Int32} (X : Stand p l e R s m args below meth c T locs cells slots) (hx : p.tables.exec = Jvm.exec) (hby : c.code = by_) (hZ : Z.Warmed39 s.vm) (eT : T.heap = h) (A : Ar Z h a .int z f) (hd : decode by_ pc = .ok (.iastore, 1)) (hp : pc + 1 = pc') (hj : j.toInt = i) (h0 : 0 ≤ i) (h1 : i < z)
    (k : ∀ (T' : State) (h' : Heap), Stand p l e R s m args below meth c T' (locs ++ [⟨a, i.toNat⟩]) cells slots → T'.heap = h' → Wr h h' a i.toNat (.int x) → Ar Z h' a .int z (fun q => if q = i then (.int x) else f q) → Go p e below P (T'.setTop (mkF m pc' Ls rest))) : Go p e below P (T.setTop (mkF m pc Ls (.int x :: .int j :: .ref a :: rest))) := by
  subst hp
  have A0 := A
  obtain ⟨cl, A, r1, r2, r3⟩ := A
  obtain ⟨q1, q2⟩ := in_of r1 hj h0 h1
  obtain ⟨T', h', X', e', W', st⟩ := stI X hx hZ eT A (j := j) q1 (g := mkF m pc Ls (.int x :: .int j :: .ref a :: rest)) rfl rfl (hb hby hd)
  rw [q2] at X' W'
  exact Go.st st (k T' h' X' e' W' (A0.set W' h0))
theorem Go.castore {j : Int32} {x : Int32} (X : Stand p l e R s m args below meth c T locs cells slots) (hx : p.tables.exec = Jvm.exec) (hby : c.code = by_) (hZ : Z.Warmed39 s.vm) (eT : T.heap = h) (A : Ar Z h a .char z f) (hd : decode by_ pc = .ok (.castore, 1)) (hp : pc + 1 = pc') (hj : j.toInt = i) (h0 : 0 ≤ i) (h1 : i < z)
    (k : ∀ (T' : State) (h' : Heap), Stand p l e R s m args below meth c T' (locs ++ [⟨a, i.toNat⟩]) cells slots → T'.heap = h' → Wr h h' a i.toNat (.int (nar .char x)) → Ar Z h' a .char z (fun q => if q = i then (.int (nar .char x)) else f q) → Go p e below P (T'.setTop (mkF m pc' Ls rest))) : Go p e below P (T.setTop (mkF m pc Ls (.int x :: .int j :: .ref a :: rest))) := by
  subst hp
  have A0 := A
  obtain ⟨cl, A, r1, r2, r3⟩ := A
  obtain ⟨q1, q2⟩ := in_of r1 hj h0 h1
  obtain ⟨T', h', X', e', W', st⟩ := stC X hx hZ eT A (j := j) q1 (g := mkF m pc Ls (.int x :: .int j :: .ref a :: rest)) rfl rfl (hb hby hd)
  rw [q2] at X' W'
  exact Go.st st (k T' h' X' e' W' (A0.set W' h0))
theorem Go.bastore {j : Int32} {x : Int32} (X : Stand p l e R s m args below meth c T locs cells slots) (hx : p.tables.exec = Jvm.exec) (hby : c.code = by_) (hZ : Z.Warmed39 s.vm) (eT : T.heap = h) (A : Ar Z h a .byte z f) (hd : decode by_ pc = .ok (.bastore, 1)) (hp : pc + 1 = pc') (hj : j.toInt = i) (h0 : 0 ≤ i) (h1 : i < z)
    (k : ∀ (T' : State) (h' : Heap), Stand p l e R s m args below meth c T' (locs ++ [⟨a, i.toNat⟩]) cells slots → T'.heap = h' → Wr h h' a i.toNat (.int (nar .byte x)) → Ar Z h' a .byte z (fun q => if q = i then (.int (nar .byte x)) else f q) → Go p e below P (T'.setTop (mkF m pc' Ls rest))) : Go p e below P (T.setTop (mkF m pc Ls (.int x :: .int j :: .ref a :: rest))) := by
  subst hp
  have A0 := A
  obtain ⟨cl, A, r1, r2, r3⟩ := A
  obtain ⟨q1, q2⟩ := in_of r1 hj h0 h1
  obtain ⟨T', h', X', e', W', st⟩ := stB X hx hZ eT A (j := j) q1 (g := mkF m pc Ls (.int x :: .int j :: .ref a :: rest)) rfl rfl (hb hby hd)
  rw [q2] at X' W'
  exact Go.st st (k T' h' X' e' W' (A0.set W' h0))
theorem Go.lastore {j : Int32} {x : Int64} (X : Stand p l e R s m args below meth c T locs cells slots) (hx : p.tables.exec = Jvm.exec) (hby : c.code = by_) (hZ : Z.Warmed39 s.vm) (eT : T.heap = h) (A : Ar Z h a .long z f) (hd : decode by_ pc = .ok (.lastore, 1)) (hp : pc + 1 = pc') (hj : j.toInt = i) (h0 : 0 ≤ i) (h1 : i < z)
    (k : ∀ (T' : State) (h' : Heap), Stand p l e R s m args below meth c T' (locs ++ [⟨a, i.toNat⟩]) cells slots → T'.heap = h' → Wr h h' a i.toNat (.long x) → Ar Z h' a .long z (fun q => if q = i then (.long x) else f q) → Go p e below P (T'.setTop (mkF m pc' Ls rest))) : Go p e below P (T.setTop (mkF m pc Ls (.long x :: .int j :: .ref a :: rest))) := by
  subst hp
  have A0 := A
  obtain ⟨cl, A, r1, r2, r3⟩ := A
  obtain ⟨q1, q2⟩ := in_of r1 hj h0 h1
  obtain ⟨T', h', X', e', W', st⟩ := stJ X hx hZ eT A (j := j) q1 (g := mkF m pc Ls (.long x :: .int j :: .ref a :: rest)) rfl rfl (hb hby hd)
  rw [q2] at X' W'
  exact Go.st st (k T' h' X' e' W' (A0.set W' h0))
theorem Go.aastore {j : Int32} (X : Stand p l e R s m args below meth c T locs cells slots) (hx : p.tables.exec = Jvm.exec) (hby : c.code = by_) (hZ : Z.Warmed39 s.vm) (eT : T.heap = h) (A : Ar Z h a ty z f) (hty : ty.isReference = true) (F : Sto Z h a v) (hd : decode by_ pc = .ok (.aastore, 1)) (hp : pc + 1 = pc') (hj : j.toInt = i) (h0 : 0 ≤ i) (h1 : i < z)
    (k : ∀ (T' : State) (h' : Heap), Stand p l e R s m args below meth c T' (locs ++ [⟨a, i.toNat⟩]) cells slots → T'.heap = h' → Wr h h' a i.toNat v → Ar Z h' a ty z (fun q => if q = i then v else f q) → Go p e below P (T'.setTop (mkF m pc' Ls rest))) : Go p e below P (T.setTop (mkF m pc Ls (v :: .int j :: .ref a :: rest))) := by
  subst hp
  have A0 := A
  obtain ⟨cl, A, r1, r2, r3⟩ := A
  obtain ⟨q1, q2⟩ := in_of r1 hj h0 h1
  obtain ⟨T', h', X', e', W', st⟩ := stR X hx hZ eT A (j := j) q1 hty F (g := mkF m pc Ls (v :: .int j :: .ref a :: rest)) rfl rfl (hb hby hd)
  rw [q2] at X' W'
  exact Go.st st (k T' h' X' e' W' (A0.set W' h0))
theorem Go.newarr {aty : ArrayType} {n : Int32} {cap : Nat} (X : Stand p l e R s m args below meth c T locs cells slots) (hx : p.tables.exec = Jvm.exec) (hby : c.code = by_) (hZ : Z.Warmed39 s.vm) (w : (Jvm.Cond.arrayClass (newarray.typeOf aty)).before a0 Z = true) (eT : T.heap = h) (hd : decode by_ pc = .ok (.newarray aty, 2)) (hp : pc + 2 = pc') (hz : n.toInt = z) (h0 : 0 ≤ z) (hcap : z ≤ cap) (hb0 : cap * 8 ≤ 536870912) (hc : cells + 1 ≤ R.cells) (hl : slots + cap ≤ R.slots)
    (k : ∀ (b : Addr) (T' : State) (h' : Heap), b = h.size → Stand p l e R s m args below meth c T' locs (cells + 1) (slots + cap) → T'.heap = h' → Ext h h' → Ar Z h' b (newarray.typeOf aty) z (fun _ => defaultValue (newarray.typeOf aty)) → Go p e below P (T'.setTop (mkF m pc' Ls (.ref b :: rest)))) : Go p e below P (T.setTop (mkF m pc Ls (.int n :: rest))) := by
  subst hp
  obtain ⟨T', h', cA, X', e', E', A', st⟩ := newP X hx hZ w eT (g := mkF m pc Ls (.int n :: rest)) rfl (hb hby hd) rfl (by rw [Int32.lt_iff_toInt_lt, hz, show (0 : Int32).toInt = 0 from by decide]; omega) (cap := cap) (by simp only [Int32.toNatClampNeg, hz]; omega) hb0 hc hl
  exact Go.st st (k _ T' h' rfl X' e' E' (Ar.new A' hz h0))
theorem Go.new_ {own C : String} {index n : Nat} (X : Stand p l e R s m args below meth c T locs cells slots) (hx : p.tables.exec = Jvm.exec) (hby : c.code = by_) (hZ : Z.Warmed39 s.vm) (hown : s.vm.findClass own = some m.cls) (w : (Jvm.Cond.classLink own index C).before a0 Z = true) (wi : (Jvm.Cond.instantiable C n).before a0 Z = true) (wz : (Jvm.Cond.initialized C).before a0 Z = true) (eT : T.heap = h) (hd : decode by_ pc = .ok (.new index, 3)) (hp : pc + 3 = pc') (hc : cells + 1 ≤ R.cells) (hl : slots + n ≤ R.slots)
    (k : ∀ (b : Addr) (T' : State) (h' : Heap), b = h.size → Stand p l e R s m args below meth c T' locs (cells + 1) (slots + n) → T'.heap = h' → Ext h h' → Exa Z h' b C → (∀ {O nm d : String} {ty : FieldType}, Laid Z a0 C O nm d → parseFieldDescriptor d = some ty → Fld Z h' b O nm d (defaultValue ty)) → Go p e below P (T'.setTop (mkF m pc' Ls (.ref b :: rest)))) : Go p e below P (T.setTop (mkF m pc Ls rest)) := by
  subst hp
  obtain ⟨T', h', X', e', E', A', D', -, st⟩ := newO X hx hZ hown w wi wz eT (g := mkF m pc Ls rest) rfl (hb hby hd) hc hl
  exact Go.st st (k _ T' h' rfl X' e' E' A' D')
theorem Go.getF {own R0 O n d : String} {index : Nat} (X : Stand p l e R s m args below meth c T locs cells slots) (hx : p.tables.exec = Jvm.exec) (hby : c.code = by_) (hZ : Z.Warmed39 s.vm) (hown : s.vm.findClass own = some m.cls) (w : (Jvm.Cond.fieldLink own index R0 n d).before a0 Z = true) (via : Via Z R0 O n d) (eT : T.heap = h) (F : Fld Z h a O n d v) (hd : decode by_ pc = .ok (.getfield index, 3)) (hp : pc + 3 = pc')
    (k : ∀ T' : State, Stand p l e R s m args below meth c T' locs cells slots → T'.heap = h → Go p e below P (T'.setTop (mkF m pc' Ls (v :: rest)))) : Go p e below P (T.setTop (mkF m pc Ls (.ref a :: rest))) := by
  subst hp
  obtain ⟨T', X', e', st⟩ := Jvm.RoadKit.getF X hx hZ hown (host := "") (Or.inl w) via eT F (g := mkF m pc Ls (.ref a :: rest)) rfl rfl (hb hby hd)
  exact Go.st st (k T' X' e')
theorem Go.getSt {own R0 O n d : String} {index : Nat} (X : Stand p l e R s m args below meth c T locs cells slots) (hx : p.tables.exec = Jvm.exec) (hby : c.code = by_) (hZ : Z.Warmed39 s.vm) (hown : s.vm.findClass own = some m.cls) (w : (Jvm.Cond.fieldLink own index R0 n d).before a0 Z = true) (via : Via Z R0 O n d) (eT : T.heap = h) (F : Sta Z h O n d v) (hd : decode by_ pc = .ok (.getstatic index, 3)) (hp : pc + 3 = pc')
    (k : ∀ T' : State, Stand p l e R s m args below meth c T' locs cells slots → T'.heap = h → Go p e below P (T'.setTop (mkF m pc' Ls (v :: rest)))) : Go p e below P (T.setTop (mkF m pc Ls rest)) := by
  subst hp
  obtain ⟨T', X', e', st⟩ := Jvm.RoadKit.getS X hx hZ (host := "") hown w via eT F (g := mkF m pc Ls rest) rfl (hb hby hd)
  exact Go.st st (k T' X' e')
theorem Go.putF {own R0 O n d C : String} {index kk : Nat} {old : Value} (X : Stand p l e R s m args below meth c T locs cells slots) (hx : p.tables.exec = Jvm.exec) (hby : c.code = by_) (hZ : Z.Warmed39 s.vm) (hown : s.vm.findClass own = some m.cls) (w : (Jvm.Cond.fieldLink own index R0 n d).before a0 Z = true) (via : Via Z R0 O n d) (eT : T.heap = h) (F : Fld Z h a O n d old) (E : Exa Z h a C) (L : (Jvm.Cond.lays C O n d).before a0 Z = true ∨ ((Jvm.Cond.laysFinal C O n d).before a0 Z = true ∧ own = O ∧ meth.name = "<init>")) (wi : (Jvm.Cond.instantiable C kk).before a0 Z = true)
    (hty : parseFieldDescriptor d = some ty) (hn : narrow ty v = v) (hf : fits ty v = true) (hd : decode by_ pc = .ok (.putfield index, 3)) (hp : pc + 3 = pc')
    (k : ∀ (T' : State) (h' : Heap), Stand p l e R s m args below meth c T' (locs ++ [⟨a, slotOf Z O n d⟩]) cells slots → T'.heap = h' → Wr h h' a (slotOf Z O n d) v → Go p e below P (T'.setTop (mkF m pc' Ls rest))) : Go p e below P (T.setTop (mkF m pc Ls (v :: .ref a :: rest))) := by
  subst hp
  obtain ⟨T', h', X', e', W', st⟩ := Jvm.RoadKit.putF X hx hZ hown (host := "") (Or.inl w) via eT F E L wi hty hn hf (g := mkF m pc Ls (v :: .ref a :: rest)) rfl rfl (hb hby hd)
  exact Go.st st (k T' h' X' e' W')
theorem Go.initO {own : String} {idx W : Nat} (X : Stand p l e R s m args below meth c T locs cells slots) (hx : p.tables.exec = Jvm.exec) (hby : c.code = by_) (hZ : Z.Warmed39 s.vm) (hown : s.vm.findClass own = some m.cls) (w1 : (Jvm.Cond.methodLink own idx Lib.objectInit).before a0 Z = true) (w2 : (Jvm.Cond.instanceMethod Lib.objectInit).before a0 Z = true) (w3 : (Jvm.Cond.code Lib.objectInit ⟨#[0xb1]⟩ 1 none).before a0 Z = true) (eT : T.heap = h) (hsize : Ls.size = c.maxLocals) (hd : decode by_ pc = .ok (.invokespecial idx, 3)) (hp : pc + 3 = pc') (hf : 1 ≤ R.frames) (hW : 0 + (rest.map fun v => v.category).sum ≤ W) (hl : W + 12 ≤ R.locals)
    (k : ∀ T' : State, Stand p l e R s m args below meth c T' locs cells slots → T'.heap = h → Go p e below P (T'.setTop (mkF m pc' Ls rest))) : Go p e below P (T.setTop (mkF m pc Ls (.ref a :: rest))) := by
  subst hp
  obtain ⟨T', X', e', st⟩ := Jvm.RoadKit.initO X hx hZ hown w1 w2 w3 eT (g := mkF m pc Ls (.ref a :: rest)) rfl hsize rfl (hb hby hd) hf (W := W) hW hl
  exact Go.st st (k T' X' e')
theorem Fr.one {n : Nat} (q : n ≤ a) : Fr n [⟨a, sl⟩] := fun y hy => by cases List.mem_singleton.mp hy; exact q
end OwnHeap

end Jvm.RoadKit
namespace Jvm.Pilot.@@N@@
open Jvm Jvm.ClassFile Sem Op Lib Jvm.Free Jvm.Stand Jvm.LawKit Jvm.RoadKit Bundle Jvm.Pilot.@@N@@.Jvm.D
abbrev own_us (x k : Int32) : Int32 := (x.toUInt32 >>> (k &&& 31).toUInt32).toInt32
def own_p (x : Int32) : Prop := (97 ≤ x ∧ x ≤ 122) ∨ (65 ≤ x ∧ x ≤ 90) ∨ (48 ≤ x ∧ x ≤ 57) ∨ x = 95
instance (x : Int32) : Decidable (own_p x) := by unfold own_p; infer_instance
def own_a (x : Int32) : Int32 := if own_p x then 1 else 0
def own_let (x : Int32) : Int32 := if x ||| 32 < 97 then 0 else if 122 < x ||| 32 then 0 else 1
def own_dig (x : Int32) : Int32 := if own_us x 4 ≠ 3 then 0 else if 10 ≤ x &&& 15 then 0 else 1
def own_und (x : Int32) : Int32 := if x ≠ 95 then 0 else 1
def own_r (x : Int32) : Int32 := if own_let x ≠ 0 ∨ own_dig x ≠ 0 ∨ own_und x ≠ 0 then 1 else 0
def own_bd (q : Int) : Int32 := if q = 6 then 95 else if q = 5 then 57 else if q = 4 then 48 else if q = 3 then 90 else if q = 2 then 65 else if q = 1 then 122 else 97
theorem own_nza (x : Int32) : nar .boolean (own_a x) = own_a x := by unfold own_a; split <;> rfl
theorem own_nzr (x : Int32) : nar .boolean (own_r x) = own_r x := by unfold own_r; split <;> rfl
theorem own_lts (x : Int32) (k : Int32) : (x < k ↔ x.toInt < k.toInt) ∧ (x ≤ k ↔ x.toInt ≤ k.toInt) ∧ (k < x ↔ k.toInt < x.toInt) ∧ (k ≤ x ↔ k.toInt ≤ x.toInt) := ⟨Int32.lt_iff_toInt_lt, Int32.le_iff_toInt_le, Int32.lt_iff_toInt_lt, Int32.le_iff_toInt_le⟩
/-- the numbers 0 .. 127 one by one -/
theorem own_small : ∀ n : Fin 128, own_r (Int32.ofNat n.val) = own_a (Int32.ofNat n.val) := by decide +kernel
theorem own_or_neg (x : Int32) (h : x.toInt < 0) : (x ||| 32).toInt < 0 := by
  have h1 : x.toBitVec.msb = true := by
    rw [BitVec.msb_eq_toInt]; exact decide_eq_true h
  have h2 : (x ||| 32).toBitVec.msb = true := by
    rw [Int32.toBitVec_or, BitVec.msb_or, h1]; rfl
  rw [BitVec.msb_eq_toInt] at h2
  exact of_decide_eq_true h2
theorem own_or_big (x : Int32) (h : 128 ≤ x.toInt) : 128 ≤ (x ||| 32).toInt := by
  have r := rng32 x
  have e1 : x.toBitVec.toInt = (x.toBitVec.toNat : Int) := by
    have q : x.toBitVec.toInt = x.toInt := rfl
    rw [BitVec.toInt_eq_toNat_cond]
    rw [BitVec.toInt_eq_toNat_cond] at q
    split at q
    · rename_i w; rw [if_pos w]
    · have := x.toBitVec.isLt; omega
  have hn : 128 ≤ x.toBitVec.toNat ∧ x.toBitVec.toNat < 2 ^ 31 := by
    have q : x.toBitVec.toInt = x.toInt := rfl
    omega
  have h2 : (x ||| 32).toBitVec.toNat = x.toBitVec.toNat ||| 32 := by rw [Int32.toBitVec_or, BitVec.toNat_or]; rfl
  have h3 : x.toBitVec.toNat ≤ x.toBitVec.toNat ||| 32 := Nat.left_le_or
  have h4 : x.toBitVec.toNat ||| 32 < 2 ^ 31 := Nat.or_lt_two_pow hn.2 (by decide)
  have h5 : (x ||| 32).toBitVec.toInt = ((x ||| 32).toBitVec.toNat : Int) := by
    rw [BitVec.toInt_eq_toNat_cond, if_pos (by rw [h2]; omega)]
  have h6 : (x ||| 32).toInt = (x ||| 32).toBitVec.toInt := rfl
  rw [h6, h5, h2]; omega
theorem own_law (x : Int32) : own_a x = own_r x := by
  by_cases h0 : 0 ≤ x.toInt ∧ x.toInt < 128
  · have e : x = Int32.ofNat x.toInt.toNat := Int32.toInt_inj.mp (by
      rw [Int32.toInt_ofNat_small (by omega)]; show _ = ((x.toInt.toNat : Nat) : Int); omega)
    have q := own_small ⟨x.toInt.toNat, by omega⟩
    rw [e]; exact q.symm
  · have k97 : (97 : Int32).toInt = 97 := by decide
    have k122 : (122 : Int32).toInt = 122 := by decide
    have k65 : (65 : Int32).toInt = 65 := by decide
    have k90 : (90 : Int32).toInt = 90 := by decide
    have k48 : (48 : Int32).toInt = 48 := by decide
    have k57 : (57 : Int32).toInt = 57 := by decide
    have k95 : (95 : Int32).toInt = 95 := by decide
    have k3 : (3 : Int32).toInt = 3 := by decide
    have n95 : x ≠ 95 := fun q => by rw [q, k95] at h0; omega
    have hp : ¬ own_p x := by
      unfold own_p
      simp only [Int32.le_iff_toInt_le, k97, k122, k65, k90, k48, k57, n95, or_false]
      omega
    have hl : own_let x = 0 := by
      unfold own_let
      simp only [Int32.lt_iff_toInt_lt, k97, k122]
      by_cases hn : x.toInt < 0
      · have := own_or_neg x hn
        rw [if_pos (by omega)]
      · have := own_or_big x (by omega)
        rw [if_neg (by omega), if_pos (by omega)]
    have hd : own_dig x = 0 := by
      unfold own_dig
      have e4 : (own_us x 4).toInt = x.toInt % 4294967296 / (2 ^ 4 : Nat) := c_iushr x 4 4 (by decide) (by decide)
      rw [if_pos]
      intro q
      rw [q, k3] at e4
      have r := rng32 x
      omega
    have hu : own_und x = 0 := by unfold own_und; rw [if_pos n95]
    simp [own_a, own_r, hp, hl, hd, hu]
theorem d1_0 : decode prog_28_method_4_code 0 = .ok (.iload_n 0, 1) := by decide +kernel
theorem d1_1 : decode prog_28_method_4_code 1 = .ok (.bipush 97, 2) := by decide +kernel
theorem d1_3 : decode prog_28_method_4_code 3 = .ok (.if_icmp .lt 9, 3) := by decide +kernel
theorem d1_6 : decode prog_28_method_4_code 6 = .ok (.iload_n 0, 1) := by decide +kernel
theorem d1_7 : decode prog_28_method_4_code 7 = .ok (.bipush 122, 2) := by decide +kernel
theorem d1_9 : decode prog_28_method_4_code 9 = .ok (.if_icmp .le 33, 3) := by decide +kernel
theorem d1_12 : decode prog_28_method_4_code 12 = .ok (.iload_n 0, 1) := by decide +kernel
theorem d1_13 : decode prog_28_method_4_code 13 = .ok (.bipush 65, 2) := by decide +kernel
theorem d1_15 : decode prog_28_method_4_code 15 = .ok (.if_icmp .lt 9, 3) := by decide +kernel
theorem d1_18 : decode prog_28_method_4_code 18 = .ok (.iload_n 0, 1) := by decide +kernel
theorem d1_19 : decode prog_28_method_4_code 19 = .ok (.bipush 90, 2) := by decide +kernel
theorem d1_21 : decode prog_28_method_4_code 21 = .ok (.if_icmp .le 21, 3) := by decide +kernel
theorem d1_24 : decode prog_28_method_4_code 24 = .ok (.iload_n 0, 1) := by decide +kernel
theorem d1_25 : decode prog_28_method_4_code 25 = .ok (.bipush 48, 2) := by decide +kernel
theorem d1_27 : decode prog_28_method_4_code 27 = .ok (.if_icmp .lt 9, 3) := by decide +kernel
theorem d1_30 : decode prog_28_method_4_code 30 = .ok (.iload_n 0, 1) := by decide +kernel
theorem d1_31 : decode prog_28_method_4_code 31 = .ok (.bipush 57, 2) := by decide +kernel
theorem d1_33 : decode prog_28_method_4_code 33 = .ok (.if_icmp .le 9, 3) := by decide +kernel
theorem d1_36 : decode prog_28_method_4_code 36 = .ok (.iload_n 0, 1) := by decide +kernel
theorem d1_37 : decode prog_28_method_4_code 37 = .ok (.bipush 95, 2) := by decide +kernel
theorem d1_39 : decode prog_28_method_4_code 39 = .ok (.if_icmp .ne 7, 3) := by decide +kernel
theorem d1_42 : decode prog_28_method_4_code 42 = .ok (.iconst 1, 1) := by decide +kernel
theorem d1_43 : decode prog_28_method_4_code 43 = .ok (.goto 4, 3) := by decide +kernel
theorem d1_46 : decode prog_28_method_4_code 46 = .ok (.iconst 0, 1) := by decide +kernel
theorem d1_47 : decode prog_28_method_4_code 47 = .ok (.ireturn, 1) := by decide +kernel
theorem ef_1 (m : MethodId) (x0 : Int32) : entryFrame m #[(.int x0)] 1 = mkF m 0 #[.val (.int x0)] [] := by first | (simp [entryFrame, mkF, argsToLocals, Value.category]; done) | rfl
theorem pn_Lexer : plainName "com/example/glacis/glacis/engine/Lexer" = true := by first | (simp [plainName, overriddenIn]; done) | decide +kernel
set_option maxRecDepth 65536 in
set_option maxHeartbeats 40000000 in
theorem rm1 (l : Launch) (Z : State) (a0 : Array Value) (hw : ∀ d ∈ tables_1, d.before a0 Z = true) (x0 : Int32) (h0 : Heap) :
    Con l Z (⟨"com/example/glacis/glacis/engine/Lexer", "isNamePart", "(I)Z"⟩ : MethodName) prog_28_method_4_code 1 (some .boolean) [] ({ frames := 0, cells := 0, slots := 0, locals := 0 } : Room) #[(.int x0)] h0 (PQ (some (.int (own_a x0))) h0) := by
  refine Con.of (plainFor_of_name pn_Lexer) ?_
  intro p e s m below meth c s₁ hx hby hml hown hnm hret hlk hZ X0 e0
  refine Go.cast (ef_1 m x0) ?_
  replace hown : s.vm.findClass "com/example/glacis/glacis/engine/Lexer" = some m.cls := hown
  refine Go.iloadN (pc' := 1) X0 hx hby d1_0 rfl rfl ?_
  refine Go.bipush (pc' := 3) X0 hx hby d1_1 rfl (v := (97 : Int32)) (by decide) ?_
  refine Go.icmp (pc' := 12) (pn := 6) X0 hx hby d1_3 (by decide) (by decide) rfl (fun (c1 : x0 < (97 : Int32)) => ?_) (fun (c1 : ¬ (x0 < (97 : Int32))) => ?_)
  ·
    refine Go.iloadN (pc' := 13) X0 hx hby d1_12 rfl rfl ?_
    refine Go.bipush (pc' := 15) X0 hx hby d1_13 rfl (v := (65 : Int32)) (by decide) ?_
    refine Go.icmp (pc' := 24) (pn := 18) X0 hx hby d1_15 (by decide) (by decide) rfl (fun (c2 : x0 < (65 : Int32)) => ?_) (fun (c2 : ¬ (x0 < (65 : Int32))) => ?_)
    ·
      refine Go.iloadN (pc' := 25) X0 hx hby d1_24 rfl rfl ?_
      refine Go.bipush (pc' := 27) X0 hx hby d1_25 rfl (v := (48 : Int32)) (by decide) ?_
      refine Go.icmp (pc' := 36) (pn := 30) X0 hx hby d1_27 (by decide) (by decide) rfl (fun (c3 : x0 < (48 : Int32)) => ?_) (fun (c3 : ¬ (x0 < (48 : Int32))) => ?_)
      ·
        refine Go.iloadN (pc' := 37) X0 hx hby d1_36 rfl rfl ?_
        refine Go.bipush (pc' := 39) X0 hx hby d1_37 rfl (v := (95 : Int32)) (by decide) ?_
        refine Go.icmp (pc' := 46) (pn := 42) X0 hx hby d1_39 (by decide) (by decide) rfl (fun (c4 : x0 ≠ (95 : Int32)) => ?_) (fun (c4 : ¬ (x0 ≠ (95 : Int32))) => ?_)
        ·
          refine Go.iconst (pc' := 47) X0 hx hby d1_46 rfl (v := (0 : Int32)) (by decide) ?_
          have g : ¬ own_p x0 := by
            unfold own_p
            rintro (q | q | q | q)
            · exact (by first | exact absurd q.2 (by assumption) | exact absurd q.1 (Int32.not_le.mpr (by assumption)))
            · exact (by first | exact absurd q.2 (by assumption) | exact absurd q.1 (Int32.not_le.mpr (by assumption)))
            · exact (by first | exact absurd q.2 (by assumption) | exact absurd q.1 (Int32.not_le.mpr (by assumption)))
            · exact absurd q (by assumption)
          exact Go.retZ X0 hx hby hlk hret (by simp) d1_47 (by decide) (by decide) ⟨by rw [show own_a x0 = (0 : Int32) by simp [own_a, g]]; rfl, rfl, e0⟩
        ·
          refine Go.iconst (pc' := 43) X0 hx hby d1_42 rfl (v := (1 : Int32)) (by decide) ?_
          refine Go.goto (pc' := 47) X0 hx hby d1_43 (by decide) (by decide) ?_
          have g : own_p x0 := by
            unfold own_p
            first | exact Or.inl ⟨Int32.not_lt.mp (by assumption), by assumption⟩ | exact Or.inr (Or.inl ⟨Int32.not_lt.mp (by assumption), by assumption⟩) | exact Or.inr (Or.inr (Or.inl ⟨Int32.not_lt.mp (by assumption), by assumption⟩)) | exact Or.inr (Or.inr (Or.inr (Classical.not_not.mp (by assumption))))
          exact Go.retZ X0 hx hby hlk hret (by simp) d1_47 (by decide) (by decide) ⟨by rw [show own_a x0 = (1 : Int32) by simp [own_a, g]]; rfl, rfl, e0⟩
      ·
        refine Go.iloadN (pc' := 31) X0 hx hby d1_30 rfl rfl ?_
        refine Go.bipush (pc' := 33) X0 hx hby d1_31 rfl (v := (57 : Int32)) (by decide) ?_
        refine Go.icmp (pc' := 42) (pn := 36) X0 hx hby d1_33 (by decide) (by decide) rfl (fun (c5 : x0 ≤ (57 : Int32)) => ?_) (fun (c5 : ¬ (x0 ≤ (57 : Int32))) => ?_)
        ·
          refine Go.iconst (pc' := 43) X0 hx hby d1_42 rfl (v := (1 : Int32)) (by decide) ?_
          refine Go.goto (pc' := 47) X0 hx hby d1_43 (by decide) (by decide) ?_
          have g : own_p x0 := by
            unfold own_p
            first | exact Or.inl ⟨Int32.not_lt.mp (by assumption), by assumption⟩ | exact Or.inr (Or.inl ⟨Int32.not_lt.mp (by assumption), by assumption⟩) | exact Or.inr (Or.inr (Or.inl ⟨Int32.not_lt.mp (by assumption), by assumption⟩)) | exact Or.inr (Or.inr (Or.inr (Classical.not_not.mp (by assumption))))
          exact Go.retZ X0 hx hby hlk hret (by simp) d1_47 (by decide) (by decide) ⟨by rw [show own_a x0 = (1 : Int32) by simp [own_a, g]]; rfl, rfl, e0⟩
        ·
          refine Go.iloadN (pc' := 37) X0 hx hby d1_36 rfl rfl ?_
          refine Go.bipush (pc' := 39) X0 hx hby d1_37 rfl (v := (95 : Int32)) (by decide) ?_
          refine Go.icmp (pc' := 46) (pn := 42) X0 hx hby d1_39 (by decide) (by decide) rfl (fun (c6 : x0 ≠ (95 : Int32)) => ?_) (fun (c6 : ¬ (x0 ≠ (95 : Int32))) => ?_)
          ·
            refine Go.iconst (pc' := 47) X0 hx hby d1_46 rfl (v := (0 : Int32)) (by decide) ?_
            have g : ¬ own_p x0 := by
              unfold own_p
              rintro (q | q | q | q)
              · exact (by first | exact absurd q.2 (by assumption) | exact absurd q.1 (Int32.not_le.mpr (by assumption)))
              · exact (by first | exact absurd q.2 (by assumption) | exact absurd q.1 (Int32.not_le.mpr (by assumption)))
              · exact (by first | exact absurd q.2 (by assumption) | exact absurd q.1 (Int32.not_le.mpr (by assumption)))
              · exact absurd q (by assumption)
            exact Go.retZ X0 hx hby hlk hret (by simp) d1_47 (by decide) (by decide) ⟨by rw [show own_a x0 = (0 : Int32) by simp [own_a, g]]; rfl, rfl, e0⟩
          ·
            refine Go.iconst (pc' := 43) X0 hx hby d1_42 rfl (v := (1 : Int32)) (by decide) ?_
            refine Go.goto (pc' := 47) X0 hx hby d1_43 (by decide) (by decide) ?_
            have g : own_p x0 := by
              unfold own_p
              first | exact Or.inl ⟨Int32.not_lt.mp (by assumption), by assumption⟩ | exact Or.inr (Or.inl ⟨Int32.not_lt.mp (by assumption), by assumption⟩) | exact Or.inr (Or.inr (Or.inl ⟨Int32.not_lt.mp (by assumption), by assumption⟩)) | exact Or.inr (Or.inr (Or.inr (Classical.not_not.mp (by assumption))))
            exact Go.retZ X0 hx hby hlk hret (by simp) d1_47 (by decide) (by decide) ⟨by rw [show own_a x0 = (1 : Int32) by simp [own_a, g]]; rfl, rfl, e0⟩
    ·
      refine Go.iloadN (pc' := 19) X0 hx hby d1_18 rfl rfl ?_
      refine Go.bipush (pc' := 21) X0 hx hby d1_19 rfl (v := (90 : Int32)) (by decide) ?_
      refine Go.icmp (pc' := 42) (pn := 24) X0 hx hby d1_21 (by decide) (by decide) rfl (fun (c7 : x0 ≤ (90 : Int32)) => ?_) (fun (c7 : ¬ (x0 ≤ (90 : Int32))) => ?_)
      ·
        refine Go.iconst (pc' := 43) X0 hx hby d1_42 rfl (v := (1 : Int32)) (by decide) ?_
        refine Go.goto (pc' := 47) X0 hx hby d1_43 (by decide) (by decide) ?_
        have g : own_p x0 := by
          unfold own_p
          first | exact Or.inl ⟨Int32.not_lt.mp (by assumption), by assumption⟩ | exact Or.inr (Or.inl ⟨Int32.not_lt.mp (by assumption), by assumption⟩) | exact Or.inr (Or.inr (Or.inl ⟨Int32.not_lt.mp (by assumption), by assumption⟩)) | exact Or.inr (Or.inr (Or.inr (Classical.not_not.mp (by assumption))))
        exact Go.retZ X0 hx hby hlk hret (by simp) d1_47 (by decide) (by decide) ⟨by rw [show own_a x0 = (1 : Int32) by simp [own_a, g]]; rfl, rfl, e0⟩
      ·
        refine Go.iloadN (pc' := 25) X0 hx hby d1_24 rfl rfl ?_
        refine Go.bipush (pc' := 27) X0 hx hby d1_25 rfl (v := (48 : Int32)) (by decide) ?_
        refine Go.icmp (pc' := 36) (pn := 30) X0 hx hby d1_27 (by decide) (by decide) rfl (fun (c8 : x0 < (48 : Int32)) => ?_) (fun (c8 : ¬ (x0 < (48 : Int32))) => ?_)
        ·
          refine Go.iloadN (pc' := 37) X0 hx hby d1_36 rfl rfl ?_
          refine Go.bipush (pc' := 39) X0 hx hby d1_37 rfl (v := (95 : Int32)) (by decide) ?_
          refine Go.icmp (pc' := 46) (pn := 42) X0 hx hby d1_39 (by decide) (by decide) rfl (fun (c9 : x0 ≠ (95 : Int32)) => ?_) (fun (c9 : ¬ (x0 ≠ (95 : Int32))) => ?_)
          ·
            refine Go.iconst (pc' := 47) X0 hx hby d1_46 rfl (v := (0 : Int32)) (by decide) ?_
            have g : ¬ own_p x0 := by
              unfold own_p
              rintro (q | q | q | q)
              · exact (by first | exact absurd q.2 (by assumption) | exact absurd q.1 (Int32.not_le.mpr (by assumption)))
              · exact (by first | exact absurd q.2 (by assumption) | exact absurd q.1 (Int32.not_le.mpr (by assumption)))
              · exact (by first | exact absurd q.2 (by assumption) | exact absurd q.1 (Int32.not_le.mpr (by assumption)))
              · exact absurd q (by assumption)
            exact Go.retZ X0 hx hby hlk hret (by simp) d1_47 (by decide) (by decide) ⟨by rw [show own_a x0 = (0 : Int32) by simp [own_a, g]]; rfl, rfl, e0⟩
          ·
            refine Go.iconst (pc' := 43) X0 hx hby d1_42 rfl (v := (1 : Int32)) (by decide) ?_
            refine Go.goto (pc' := 47) X0 hx hby d1_43 (by decide) (by decide) ?_
            have g : own_p x0 := by
              unfold own_p
              first | exact Or.inl ⟨Int32.not_lt.mp (by assumption), by assumption⟩ | exact Or.inr (Or.inl ⟨Int32.not_lt.mp (by assumption), by assumption⟩) | exact Or.inr (Or.inr (Or.inl ⟨Int32.not_lt.mp (by assumption), by assumption⟩)) | exact Or.inr (Or.inr (Or.inr (Classical.not_not.mp (by assumption))))
            exact Go.retZ X0 hx hby hlk hret (by simp) d1_47 (by decide) (by decide) ⟨by rw [show own_a x0 = (1 : Int32) by simp [own_a, g]]; rfl, rfl, e0⟩
        ·
          refine Go.iloadN (pc' := 31) X0 hx hby d1_30 rfl rfl ?_
          refine Go.bipush (pc' := 33) X0 hx hby d1_31 rfl (v := (57 : Int32)) (by decide) ?_
          refine Go.icmp (pc' := 42) (pn := 36) X0 hx hby d1_33 (by decide) (by decide) rfl (fun (c10 : x0 ≤ (57 : Int32)) => ?_) (fun (c10 : ¬ (x0 ≤ (57 : Int32))) => ?_)
          ·
            refine Go.iconst (pc' := 43) X0 hx hby d1_42 rfl (v := (1 : Int32)) (by decide) ?_
            refine Go.goto (pc' := 47) X0 hx hby d1_43 (by decide) (by decide) ?_
            have g : own_p x0 := by
              unfold own_p
              first | exact Or.inl ⟨Int32.not_lt.mp (by assumption), by assumption⟩ | exact Or.inr (Or.inl ⟨Int32.not_lt.mp (by assumption), by assumption⟩) | exact Or.inr (Or.inr (Or.inl ⟨Int32.not_lt.mp (by assumption), by assumption⟩)) | exact Or.inr (Or.inr (Or.inr (Classical.not_not.mp (by assumption))))
            exact Go.retZ X0 hx hby hlk hret (by simp) d1_47 (by decide) (by decide) ⟨by rw [show own_a x0 = (1 : Int32) by simp [own_a, g]]; rfl, rfl, e0⟩
          ·
            refine Go.iloadN (pc' := 37) X0 hx hby d1_36 rfl rfl ?_
            refine Go.bipush (pc' := 39) X0 hx hby d1_37 rfl (v := (95 : Int32)) (by decide) ?_
            refine Go.icmp (pc' := 46) (pn := 42) X0 hx hby d1_39 (by decide) (by decide) rfl (fun (c11 : x0 ≠ (95 : Int32)) => ?_) (fun (c11 : ¬ (x0 ≠ (95 : Int32))) => ?_)
            ·
              refine Go.iconst (pc' := 47) X0 hx hby d1_46 rfl (v := (0 : Int32)) (by decide) ?_
              have g : ¬ own_p x0 := by
                unfold own_p
                rintro (q | q | q | q)
                · exact (by first | exact absurd q.2 (by assumption) | exact absurd q.1 (Int32.not_le.mpr (by assumption)))
                · exact (by first | exact absurd q.2 (by assumption) | exact absurd q.1 (Int32.not_le.mpr (by assumption)))
                · exact (by first | exact absurd q.2 (by assumption) | exact absurd q.1 (Int32.not_le.mpr (by assumption)))
                · exact absurd q (by assumption)
              exact Go.retZ X0 hx hby hlk hret (by simp) d1_47 (by decide) (by decide) ⟨by rw [show own_a x0 = (0 : Int32) by simp [own_a, g]]; rfl, rfl, e0⟩
            ·
              refine Go.iconst (pc' := 43) X0 hx hby d1_42 rfl (v := (1 : Int32)) (by decide) ?_
              refine Go.goto (pc' := 47) X0 hx hby d1_43 (by decide) (by decide) ?_
              have g : own_p x0 := by
                unfold own_p
                first | exact Or.inl ⟨Int32.not_lt.mp (by assumption), by assumption⟩ | exact Or.inr (Or.inl ⟨Int32.not_lt.mp (by assumption), by assumption⟩) | exact Or.inr (Or.inr (Or.inl ⟨Int32.not_lt.mp (by assumption), by assumption⟩)) | exact Or.inr (Or.inr (Or.inr (Classical.not_not.mp (by assumption))))
              exact Go.retZ X0 hx hby hlk hret (by simp) d1_47 (by decide) (by decide) ⟨by rw [show own_a x0 = (1 : Int32) by simp [own_a, g]]; rfl, rfl, e0⟩
  ·
    refine Go.iloadN (pc' := 7) X0 hx hby d1_6 rfl rfl ?_
    refine Go.bipush (pc' := 9) X0 hx hby d1_7 rfl (v := (122 : Int32)) (by decide) ?_
    refine Go.icmp (pc' := 42) (pn := 12) X0 hx hby d1_9 (by decide) (by decide) rfl (fun (c12 : x0 ≤ (122 : Int32)) => ?_) (fun (c12 : ¬ (x0 ≤ (122 : Int32))) => ?_)
    ·
      refine Go.iconst (pc' := 43) X0 hx hby d1_42 rfl (v := (1 : Int32)) (by decide) ?_
      refine Go.goto (pc' := 47) X0 hx hby d1_43 (by decide) (by decide) ?_
      have g : own_p x0 := by
        unfold own_p
        first | exact Or.inl ⟨Int32.not_lt.mp (by assumption), by assumption⟩ | exact Or.inr (Or.inl ⟨Int32.not_lt.mp (by assumption), by assumption⟩) | exact Or.inr (Or.inr (Or.inl ⟨Int32.not_lt.mp (by assumption), by assumption⟩)) | exact Or.inr (Or.inr (Or.inr (Classical.not_not.mp (by assumption))))
      exact Go.retZ X0 hx hby hlk hret (by simp) d1_47 (by decide) (by decide) ⟨by rw [show own_a x0 = (1 : Int32) by simp [own_a, g]]; rfl, rfl, e0⟩
    ·
      refine Go.iloadN (pc' := 13) X0 hx hby d1_12 rfl rfl ?_
      refine Go.bipush (pc' := 15) X0 hx hby d1_13 rfl (v := (65 : Int32)) (by decide) ?_
      refine Go.icmp (pc' := 24) (pn := 18) X0 hx hby d1_15 (by decide) (by decide) rfl (fun (c13 : x0 < (65 : Int32)) => ?_) (fun (c13 : ¬ (x0 < (65 : Int32))) => ?_)
      ·
        refine Go.iloadN (pc' := 25) X0 hx hby d1_24 rfl rfl ?_
        refine Go.bipush (pc' := 27) X0 hx hby d1_25 rfl (v := (48 : Int32)) (by decide) ?_
        refine Go.icmp (pc' := 36) (pn := 30) X0 hx hby d1_27 (by decide) (by decide) rfl (fun (c14 : x0 < (48 : Int32)) => ?_) (fun (c14 : ¬ (x0 < (48 : Int32))) => ?_)
        ·
          refine Go.iloadN (pc' := 37) X0 hx hby d1_36 rfl rfl ?_
          refine Go.bipush (pc' := 39) X0 hx hby d1_37 rfl (v := (95 : Int32)) (by decide) ?_
          refine Go.icmp (pc' := 46) (pn := 42) X0 hx hby d1_39 (by decide) (by decide) rfl (fun (c15 : x0 ≠ (95 : Int32)) => ?_) (fun (c15 : ¬ (x0 ≠ (95 : Int32))) => ?_)
          ·
            refine Go.iconst (pc' := 47) X0 hx hby d1_46 rfl (v := (0 : Int32)) (by decide) ?_
            have g : ¬ own_p x0 := by
              unfold own_p
              rintro (q | q | q | q)
              · exact (by first | exact absurd q.2 (by assumption) | exact absurd q.1 (Int32.not_le.mpr (by assumption)))
              · exact (by first | exact absurd q.2 (by assumption) | exact absurd q.1 (Int32.not_le.mpr (by assumption)))
              · exact (by first | exact absurd q.2 (by assumption) | exact absurd q.1 (Int32.not_le.mpr (by assumption)))
              · exact absurd q (by assumption)
            exact Go.retZ X0 hx hby hlk hret (by simp) d1_47 (by decide) (by decide) ⟨by rw [show own_a x0 = (0 : Int32) by simp [own_a, g]]; rfl, rfl, e0⟩
          ·
            refine Go.iconst (pc' := 43) X0 hx hby d1_42 rfl (v := (1 : Int32)) (by decide) ?_
            refine Go.goto (pc' := 47) X0 hx hby d1_43 (by decide) (by decide) ?_
            have g : own_p x0 := by
              unfold own_p
              first | exact Or.inl ⟨Int32.not_lt.mp (by assumption), by assumption⟩ | exact Or.inr (Or.inl ⟨Int32.not_lt.mp (by assumption), by assumption⟩) | exact Or.inr (Or.inr (Or.inl ⟨Int32.not_lt.mp (by assumption), by assumption⟩)) | exact Or.inr (Or.inr (Or.inr (Classical.not_not.mp (by assumption))))
            exact Go.retZ X0 hx hby hlk hret (by simp) d1_47 (by decide) (by decide) ⟨by rw [show own_a x0 = (1 : Int32) by simp [own_a, g]]; rfl, rfl, e0⟩
        ·
          refine Go.iloadN (pc' := 31) X0 hx hby d1_30 rfl rfl ?_
          refine Go.bipush (pc' := 33) X0 hx hby d1_31 rfl (v := (57 : Int32)) (by decide) ?_
          refine Go.icmp (pc' := 42) (pn := 36) X0 hx hby d1_33 (by decide) (by decide) rfl (fun (c16 : x0 ≤ (57 : Int32)) => ?_) (fun (c16 : ¬ (x0 ≤ (57 : Int32))) => ?_)
          ·
            refine Go.iconst (pc' := 43) X0 hx hby d1_42 rfl (v := (1 : Int32)) (by decide) ?_
            refine Go.goto (pc' := 47) X0 hx hby d1_43 (by decide) (by decide) ?_
            have g : own_p x0 := by
              unfold own_p
              first | exact Or.inl ⟨Int32.not_lt.mp (by assumption), by assumption⟩ | exact Or.inr (Or.inl ⟨Int32.not_lt.mp (by assumption), by assumption⟩) | exact Or.inr (Or.inr (Or.inl ⟨Int32.not_lt.mp (by assumption), by assumption⟩)) | exact Or.inr (Or.inr (Or.inr (Classical.not_not.mp (by assumption))))
            exact Go.retZ X0 hx hby hlk hret (by simp) d1_47 (by decide) (by decide) ⟨by rw [show own_a x0 = (1 : Int32) by simp [own_a, g]]; rfl, rfl, e0⟩
          ·
            refine Go.iloadN (pc' := 37) X0 hx hby d1_36 rfl rfl ?_
            refine Go.bipush (pc' := 39) X0 hx hby d1_37 rfl (v := (95 : Int32)) (by decide) ?_
            refine Go.icmp (pc' := 46) (pn := 42) X0 hx hby d1_39 (by decide) (by decide) rfl (fun (c17 : x0 ≠ (95 : Int32)) => ?_) (fun (c17 : ¬ (x0 ≠ (95 : Int32))) => ?_)
            ·
              refine Go.iconst (pc' := 47) X0 hx hby d1_46 rfl (v := (0 : Int32)) (by decide) ?_
              have g : ¬ own_p x0 := by
                unfold own_p
                rintro (q | q | q | q)
                · exact (by first | exact absurd q.2 (by assumption) | exact absurd q.1 (Int32.not_le.mpr (by assumption)))
                · exact (by first | exact absurd q.2 (by assumption) | exact absurd q.1 (Int32.not_le.mpr (by assumption)))
                · exact (by first | exact absurd q.2 (by assumption) | exact absurd q.1 (Int32.not_le.mpr (by assumption)))
                · exact absurd q (by assumption)
              exact Go.retZ X0 hx hby hlk hret (by simp) d1_47 (by decide) (by decide) ⟨by rw [show own_a x0 = (0 : Int32) by simp [own_a, g]]; rfl, rfl, e0⟩
            ·
              refine Go.iconst (pc' := 43) X0 hx hby d1_42 rfl (v := (1 : Int32)) (by decide) ?_
              refine Go.goto (pc' := 47) X0 hx hby d1_43 (by decide) (by decide) ?_
              have g : own_p x0 := by
                unfold own_p
                first | exact Or.inl ⟨Int32.not_lt.mp (by assumption), by assumption⟩ | exact Or.inr (Or.inl ⟨Int32.not_lt.mp (by assumption), by assumption⟩) | exact Or.inr (Or.inr (Or.inl ⟨Int32.not_lt.mp (by assumption), by assumption⟩)) | exact Or.inr (Or.inr (Or.inr (Classical.not_not.mp (by assumption))))
              exact Go.retZ X0 hx hby hlk hret (by simp) d1_47 (by decide) (by decide) ⟨by rw [show own_a x0 = (1 : Int32) by simp [own_a, g]]; rfl, rfl, e0⟩
      ·
        refine Go.iloadN (pc' := 19) X0 hx hby d1_18 rfl rfl ?_
        refine Go.bipush (pc' := 21) X0 hx hby d1_19 rfl (v := (90 : Int32)) (by decide) ?_
        refine Go.icmp (pc' := 42) (pn := 24) X0 hx hby d1_21 (by decide) (by decide) rfl (fun (c18 : x0 ≤ (90 : Int32)) => ?_) (fun (c18 : ¬ (x0 ≤ (90 : Int32))) => ?_)
        ·
          refine Go.iconst (pc' := 43) X0 hx hby d1_42 rfl (v := (1 : Int32)) (by decide) ?_
          refine Go.goto (pc' := 47) X0 hx hby d1_43 (by decide) (by decide) ?_
          have g : own_p x0 := by
            unfold own_p
            first | exact Or.inl ⟨Int32.not_lt.mp (by assumption), by assumption⟩ | exact Or.inr (Or.inl ⟨Int32.not_lt.mp (by assumption), by assumption⟩) | exact Or.inr (Or.inr (Or.inl ⟨Int32.not_lt.mp (by assumption), by assumption⟩)) | exact Or.inr (Or.inr (Or.inr (Classical.not_not.mp (by assumption))))
          exact Go.retZ X0 hx hby hlk hret (by simp) d1_47 (by decide) (by decide) ⟨by rw [show own_a x0 = (1 : Int32) by simp [own_a, g]]; rfl, rfl, e0⟩
        ·
          refine Go.iloadN (pc' := 25) X0 hx hby d1_24 rfl rfl ?_
          refine Go.bipush (pc' := 27) X0 hx hby d1_25 rfl (v := (48 : Int32)) (by decide) ?_
          refine Go.icmp (pc' := 36) (pn := 30) X0 hx hby d1_27 (by decide) (by decide) rfl (fun (c19 : x0 < (48 : Int32)) => ?_) (fun (c19 : ¬ (x0 < (48 : Int32))) => ?_)
          ·
            refine Go.iloadN (pc' := 37) X0 hx hby d1_36 rfl rfl ?_
            refine Go.bipush (pc' := 39) X0 hx hby d1_37 rfl (v := (95 : Int32)) (by decide) ?_
            refine Go.icmp (pc' := 46) (pn := 42) X0 hx hby d1_39 (by decide) (by decide) rfl (fun (c20 : x0 ≠ (95 : Int32)) => ?_) (fun (c20 : ¬ (x0 ≠ (95 : Int32))) => ?_)
            ·
              refine Go.iconst (pc' := 47) X0 hx hby d1_46 rfl (v := (0 : Int32)) (by decide) ?_
              have g : ¬ own_p x0 := by
                unfold own_p
                rintro (q | q | q | q)
                · exact (by first | exact absurd q.2 (by assumption) | exact absurd q.1 (Int32.not_le.mpr (by assumption)))
                · exact (by first | exact absurd q.2 (by assumption) | exact absurd q.1 (Int32.not_le.mpr (by assumption)))
                · exact (by first | exact absurd q.2 (by assumption) | exact absurd q.1 (Int32.not_le.mpr (by assumption)))
                · exact absurd q (by assumption)
              exact Go.retZ X0 hx hby hlk hret (by simp) d1_47 (by decide) (by decide) ⟨by rw [show own_a x0 = (0 : Int32) by simp [own_a, g]]; rfl, rfl, e0⟩
            ·
              refine Go.iconst (pc' := 43) X0 hx hby d1_42 rfl (v := (1 : Int32)) (by decide) ?_
              refine Go.goto (pc' := 47) X0 hx hby d1_43 (by decide) (by decide) ?_
              have g : own_p x0 := by
                unfold own_p
                first | exact Or.inl ⟨Int32.not_lt.mp (by assumption), by assumption⟩ | exact Or.inr (Or.inl ⟨Int32.not_lt.mp (by assumption), by assumption⟩) | exact Or.inr (Or.inr (Or.inl ⟨Int32.not_lt.mp (by assumption), by assumption⟩)) | exact Or.inr (Or.inr (Or.inr (Classical.not_not.mp (by assumption))))
              exact Go.retZ X0 hx hby hlk hret (by simp) d1_47 (by decide) (by decide) ⟨by rw [show own_a x0 = (1 : Int32) by simp [own_a, g]]; rfl, rfl, e0⟩
          ·
            refine Go.iloadN (pc' := 31) X0 hx hby d1_30 rfl rfl ?_
            refine Go.bipush (pc' := 33) X0 hx hby d1_31 rfl (v := (57 : Int32)) (by decide) ?_
            refine Go.icmp (pc' := 42) (pn := 36) X0 hx hby d1_33 (by decide) (by decide) rfl (fun (c21 : x0 ≤ (57 : Int32)) => ?_) (fun (c21 : ¬ (x0 ≤ (57 : Int32))) => ?_)
            ·
              refine Go.iconst (pc' := 43) X0 hx hby d1_42 rfl (v := (1 : Int32)) (by decide) ?_
              refine Go.goto (pc' := 47) X0 hx hby d1_43 (by decide) (by decide) ?_
              have g : own_p x0 := by
                unfold own_p
                first | exact Or.inl ⟨Int32.not_lt.mp (by assumption), by assumption⟩ | exact Or.inr (Or.inl ⟨Int32.not_lt.mp (by assumption), by assumption⟩) | exact Or.inr (Or.inr (Or.inl ⟨Int32.not_lt.mp (by assumption), by assumption⟩)) | exact Or.inr (Or.inr (Or.inr (Classical.not_not.mp (by assumption))))
              exact Go.retZ X0 hx hby hlk hret (by simp) d1_47 (by decide) (by decide) ⟨by rw [show own_a x0 = (1 : Int32) by simp [own_a, g]]; rfl, rfl, e0⟩
            ·
              refine Go.iloadN (pc' := 37) X0 hx hby d1_36 rfl rfl ?_
              refine Go.bipush (pc' := 39) X0 hx hby d1_37 rfl (v := (95 : Int32)) (by decide) ?_
              refine Go.icmp (pc' := 46) (pn := 42) X0 hx hby d1_39 (by decide) (by decide) rfl (fun (c22 : x0 ≠ (95 : Int32)) => ?_) (fun (c22 : ¬ (x0 ≠ (95 : Int32))) => ?_)
              ·
                refine Go.iconst (pc' := 47) X0 hx hby d1_46 rfl (v := (0 : Int32)) (by decide) ?_
                have g : ¬ own_p x0 := by
                  unfold own_p
                  rintro (q | q | q | q)
                  · exact (by first | exact absurd q.2 (by assumption) | exact absurd q.1 (Int32.not_le.mpr (by assumption)))
                  · exact (by first | exact absurd q.2 (by assumption) | exact absurd q.1 (Int32.not_le.mpr (by assumption)))
                  · exact (by first | exact absurd q.2 (by assumption) | exact absurd q.1 (Int32.not_le.mpr (by assumption)))
                  · exact absurd q (by assumption)
                exact Go.retZ X0 hx hby hlk hret (by simp) d1_47 (by decide) (by decide) ⟨by rw [show own_a x0 = (0 : Int32) by simp [own_a, g]]; rfl, rfl, e0⟩
              ·
                refine Go.iconst (pc' := 43) X0 hx hby d1_42 rfl (v := (1 : Int32)) (by decide) ?_
                refine Go.goto (pc' := 47) X0 hx hby d1_43 (by decide) (by decide) ?_
                have g : own_p x0 := by
                  unfold own_p
                  first | exact Or.inl ⟨Int32.not_lt.mp (by assumption), by assumption⟩ | exact Or.inr (Or.inl ⟨Int32.not_lt.mp (by assumption), by assumption⟩) | exact Or.inr (Or.inr (Or.inl ⟨Int32.not_lt.mp (by assumption), by assumption⟩)) | exact Or.inr (Or.inr (Or.inr (Classical.not_not.mp (by assumption))))
                exact Go.retZ X0 hx hby hlk hret (by simp) d1_47 (by decide) (by decide) ⟨by rw [show own_a x0 = (1 : Int32) by simp [own_a, g]]; rfl, rfl, e0⟩
theorem d2_0 : decode method_2_code 0 = .ok (.iload_n 0, 1) := by decide +kernel
theorem d2_1 : decode method_2_code 1 = .ok (.bipush 32, 2) := by decide +kernel
theorem d2_3 : decode method_2_code 3 = .ok (.ior, 1) := by decide +kernel
theorem d2_4 : decode method_2_code 4 = .ok (.istore_n 1, 1) := by decide +kernel
theorem d2_5 : decode method_2_code 5 = .ok (.iload_n 1, 1) := by decide +kernel
theorem d2_6 : decode method_2_code 6 = .ok (.bipush 97, 2) := by decide +kernel
theorem d2_8 : decode method_2_code 8 = .ok (.if_icmp .lt 13, 3) := by decide +kernel
theorem d2_11 : decode method_2_code 11 = .ok (.iload_n 1, 1) := by decide +kernel
theorem d2_12 : decode method_2_code 12 = .ok (.bipush 122, 2) := by decide +kernel
theorem d2_14 : decode method_2_code 14 = .ok (.if_icmp .gt 7, 3) := by decide +kernel
theorem d2_17 : decode method_2_code 17 = .ok (.iconst 1, 1) := by decide +kernel
theorem d2_18 : decode method_2_code 18 = .ok (.goto 4, 3) := by decide +kernel
theorem d2_21 : decode method_2_code 21 = .ok (.iconst 0, 1) := by decide +kernel
theorem d2_22 : decode method_2_code 22 = .ok (.istore_n 2, 1) := by decide +kernel
theorem d2_23 : decode method_2_code 23 = .ok (.iload_n 0, 1) := by decide +kernel
theorem d2_24 : decode method_2_code 24 = .ok (.iconst 4, 1) := by decide +kernel
theorem d2_25 : decode method_2_code 25 = .ok (.iushr, 1) := by decide +kernel
theorem d2_26 : decode method_2_code 26 = .ok (.iconst 3, 1) := by decide +kernel
theorem d2_27 : decode method_2_code 27 = .ok (.if_icmp .ne 16, 3) := by decide +kernel
theorem d2_30 : decode method_2_code 30 = .ok (.iload_n 0, 1) := by decide +kernel
theorem d2_31 : decode method_2_code 31 = .ok (.bipush 15, 2) := by decide +kernel
theorem d2_33 : decode method_2_code 33 = .ok (.iand, 1) := by decide +kernel
theorem d2_34 : decode method_2_code 34 = .ok (.bipush 10, 2) := by decide +kernel
theorem d2_36 : decode method_2_code 36 = .ok (.if_icmp .ge 7, 3) := by decide +kernel
theorem d2_39 : decode method_2_code 39 = .ok (.iconst 1, 1) := by decide +kernel
theorem d2_40 : decode method_2_code 40 = .ok (.goto 4, 3) := by decide +kernel
theorem d2_43 : decode method_2_code 43 = .ok (.iconst 0, 1) := by decide +kernel
theorem d2_44 : decode method_2_code 44 = .ok (.istore_n 3, 1) := by decide +kernel
theorem d2_45 : decode method_2_code 45 = .ok (.iload_n 0, 1) := by decide +kernel
theorem d2_46 : decode method_2_code 46 = .ok (.bipush 95, 2) := by decide +kernel
theorem d2_48 : decode method_2_code 48 = .ok (.if_icmp .ne 7, 3) := by decide +kernel
theorem d2_51 : decode method_2_code 51 = .ok (.iconst 1, 1) := by decide +kernel
theorem d2_52 : decode method_2_code 52 = .ok (.goto 4, 3) := by decide +kernel
theorem d2_55 : decode method_2_code 55 = .ok (.iconst 0, 1) := by decide +kernel
theorem d2_56 : decode method_2_code 56 = .ok (.istore 4, 2) := by decide +kernel
theorem d2_58 : decode method_2_code 58 = .ok (.iload_n 2, 1) := by decide +kernel
theorem d2_59 : decode method_2_code 59 = .ok (.ifCond .ne 12, 3) := by decide +kernel
theorem d2_62 : decode method_2_code 62 = .ok (.iload_n 3, 1) := by decide +kernel
theorem d2_63 : decode method_2_code 63 = .ok (.ifCond .ne 8, 3) := by decide +kernel
theorem d2_66 : decode method_2_code 66 = .ok (.iload 4, 2) := by decide +kernel
theorem d2_68 : decode method_2_code 68 = .ok (.ifCond .eq 7, 3) := by decide +kernel
theorem d2_71 : decode method_2_code 71 = .ok (.iconst 1, 1) := by decide +kernel
theorem d2_72 : decode method_2_code 72 = .ok (.goto 4, 3) := by decide +kernel
theorem d2_75 : decode method_2_code 75 = .ok (.iconst 0, 1) := by decide +kernel
theorem d2_76 : decode method_2_code 76 = .ok (.ireturn, 1) := by decide +kernel
theorem ef_2 (m : MethodId) (x0 : Int32) : entryFrame m #[(.int x0)] 5 = mkF m 0 #[.val (.int x0), .unset, .unset, .unset, .unset] [] := by first | (simp [entryFrame, mkF, argsToLocals, Value.category]; done) | rfl
theorem pn_LexerIsNamePartPinLaw : plainName "com/example/glacis/glacis/engine/LexerIsNamePartPinLaw" = true := by first | (simp [plainName, overriddenIn]; done) | decide +kernel
set_option maxRecDepth 65536 in
set_option maxHeartbeats 40000000 in
theorem rm2 (l : Launch) (Z : State) (a0 : Array Value) (hw : ∀ d ∈ tables_1, d.before a0 Z = true) (x0 : Int32) (h0 : Heap) :
    Con l Z (⟨"com/example/glacis/glacis/engine/LexerIsNamePartPinLaw", "reference", "(I)Z"⟩ : MethodName) method_2_code 5 (some .boolean) [] ({ frames := 0, cells := 0, slots := 0, locals := 0 } : Room) #[(.int x0)] h0 (PQ (some (.int (own_r x0))) h0) := by
  refine Con.of (plainFor_of_name pn_LexerIsNamePartPinLaw) ?_
  intro p e s m below meth c s₁ hx hby hml hown hnm hret hlk hZ X0 e0
  refine Go.cast (ef_2 m x0) ?_
  replace hown : s.vm.findClass "com/example/glacis/glacis/engine/LexerIsNamePartPinLaw" = some m.cls := hown
  refine Go.iloadN (pc' := 1) X0 hx hby d2_0 rfl rfl ?_
  refine Go.bipush (pc' := 3) X0 hx hby d2_1 rfl (v := (32 : Int32)) (by decide) ?_
  refine Go.ior (pc' := 4) X0 hx hby d2_3 rfl ?_
  refine Go.istoreN (Ls' := #[.val (.int x0), .val (.int (x0 ||| (32 : Int32))), .unset, .unset, .unset]) (pc' := 5) X0 hx hby d2_4 rfl rfl ?_
  refine Go.iloadN (pc' := 6) X0 hx hby d2_5 rfl rfl ?_
  refine Go.bipush (pc' := 8) X0 hx hby d2_6 rfl (v := (97 : Int32)) (by decide) ?_
  refine Go.cut (F := fun (b2 : Int32) => s₁.setTop (mkF m 22 #[.val (.int x0), .val (.int (x0 ||| (32 : Int32))), .unset, .unset, .unset] [(.int b2)])) (x := own_let x0) ?_ (fun j1 => ?_)
  ·
    show Go p e below _ (s₁.setTop (mkF m 22 #[.val (.int x0), .val (.int (x0 ||| (32 : Int32))), .unset, .unset, .unset] [(.int (own_let x0))]))
    refine Go.istoreN (Ls' := #[.val (.int x0), .val (.int (x0 ||| (32 : Int32))), .val (.int (own_let x0)), .unset, .unset]) (pc' := 23) X0 hx hby d2_22 rfl rfl ?_
    refine Go.iloadN (pc' := 24) X0 hx hby d2_23 rfl rfl ?_
    refine Go.iconst (pc' := 25) X0 hx hby d2_24 rfl (v := (4 : Int32)) (by decide) ?_
    refine Go.iushr (pc' := 26) X0 hx hby d2_25 rfl ?_
    refine Go.iconst (pc' := 27) X0 hx hby d2_26 rfl (v := (3 : Int32)) (by decide) ?_
    refine Go.cut (F := fun (b4 : Int32) => s₁.setTop (mkF m 44 #[.val (.int x0), .val (.int (x0 ||| (32 : Int32))), .val (.int (own_let x0)), .unset, .unset] [(.int b4)])) (x := own_dig x0) ?_ (fun j3 => ?_)
    ·
      show Go p e below _ (s₁.setTop (mkF m 44 #[.val (.int x0), .val (.int (x0 ||| (32 : Int32))), .val (.int (own_let x0)), .unset, .unset] [(.int (own_dig x0))]))
      refine Go.istoreN (Ls' := #[.val (.int x0), .val (.int (x0 ||| (32 : Int32))), .val (.int (own_let x0)), .val (.int (own_dig x0)), .unset]) (pc' := 45) X0 hx hby d2_44 rfl rfl ?_
      refine Go.iloadN (pc' := 46) X0 hx hby d2_45 rfl rfl ?_
      refine Go.bipush (pc' := 48) X0 hx hby d2_46 rfl (v := (95 : Int32)) (by decide) ?_
      refine Go.cut (F := fun (b6 : Int32) => s₁.setTop (mkF m 56 #[.val (.int x0), .val (.int (x0 ||| (32 : Int32))), .val (.int (own_let x0)), .val (.int (own_dig x0)), .unset] [(.int b6)])) (x := own_und x0) ?_ (fun j5 => ?_)
      ·
        show Go p e below _ (s₁.setTop (mkF m 56 #[.val (.int x0), .val (.int (x0 ||| (32 : Int32))), .val (.int (own_let x0)), .val (.int (own_dig x0)), .unset] [(.int (own_und x0))]))
        refine Go.istore (Ls' := #[.val (.int x0), .val (.int (x0 ||| (32 : Int32))), .val (.int (own_let x0)), .val (.int (own_dig x0)), .val (.int (own_und x0))]) (pc' := 58) X0 hx hby d2_56 rfl rfl ?_
        refine Go.iloadN (pc' := 59) X0 hx hby d2_58 rfl rfl ?_
        refine Go.if_ (pc' := 71) (pn := 62) X0 hx hby d2_59 (by decide) (by decide) rfl (fun (c7 : (own_let x0) ≠ 0) => ?_) (fun (c7 : ¬ ((own_let x0) ≠ 0)) => ?_)
        ·
          refine Go.iconst (pc' := 72) X0 hx hby d2_71 rfl (v := (1 : Int32)) (by decide) ?_
          refine Go.goto (pc' := 76) X0 hx hby d2_72 (by decide) (by decide) ?_
          exact Go.retZ X0 hx hby hlk hret (by simp) d2_76 (by decide) (by decide) ⟨by rw [show own_r x0 = (1 : Int32) by simp [own_r, c7]]; rfl, rfl, e0⟩
        ·
          refine Go.iloadN (pc' := 63) X0 hx hby d2_62 rfl rfl ?_
          refine Go.if_ (pc' := 71) (pn := 66) X0 hx hby d2_63 (by decide) (by decide) rfl (fun (c8 : (own_dig x0) ≠ 0) => ?_) (fun (c8 : ¬ ((own_dig x0) ≠ 0)) => ?_)
          ·
            refine Go.iconst (pc' := 72) X0 hx hby d2_71 rfl (v := (1 : Int32)) (by decide) ?_
            refine Go.goto (pc' := 76) X0 hx hby d2_72 (by decide) (by decide) ?_
            exact Go.retZ X0 hx hby hlk hret (by simp) d2_76 (by decide) (by decide) ⟨by rw [show own_r x0 = (1 : Int32) by simp [own_r, c7, c8]]; rfl, rfl, e0⟩
          ·
            refine Go.iload (pc' := 68) X0 hx hby d2_66 rfl rfl ?_
            refine Go.if_ (pc' := 75) (pn := 71) X0 hx hby d2_68 (by decide) (by decide) rfl (fun (c9 : (own_und x0) = 0) => ?_) (fun (c9 : ¬ ((own_und x0) = 0)) => ?_)
            ·
              refine Go.iconst (pc' := 76) X0 hx hby d2_75 rfl (v := (0 : Int32)) (by decide) ?_
              exact Go.retZ X0 hx hby hlk hret (by simp) d2_76 (by decide) (by decide) ⟨by rw [show own_r x0 = (0 : Int32) by simp [own_r, c7, c8, c9]]; rfl, rfl, e0⟩
            ·
              refine Go.iconst (pc' := 72) X0 hx hby d2_71 rfl (v := (1 : Int32)) (by decide) ?_
              refine Go.goto (pc' := 76) X0 hx hby d2_72 (by decide) (by decide) ?_
              exact Go.retZ X0 hx hby hlk hret (by simp) d2_76 (by decide) (by decide) ⟨by rw [show own_r x0 = (1 : Int32) by simp [own_r, c7, c8, c9]]; rfl, rfl, e0⟩
      ·
        refine Go.icmp (pc' := 55) (pn := 51) X0 hx hby d2_48 (by decide) (by decide) rfl (fun (c10 : x0 ≠ (95 : Int32)) => ?_) (fun (c10 : ¬ (x0 ≠ (95 : Int32))) => ?_)
        ·
          refine Go.iconst (pc' := 56) X0 hx hby d2_55 rfl (v := (0 : Int32)) (by decide) ?_
          exact j5 _ (by simp [own_und, c10])
        ·
          refine Go.iconst (pc' := 52) X0 hx hby d2_51 rfl (v := (1 : Int32)) (by decide) ?_
          refine Go.goto (pc' := 56) X0 hx hby d2_52 (by decide) (by decide) ?_
          exact j5 _ (by simp [own_und, c10])
    ·
      refine Go.icmp (pc' := 43) (pn := 30) X0 hx hby d2_27 (by decide) (by decide) rfl (fun (c11 : ((x0.toUInt32 >>> ((4 : Int32) &&& 31).toUInt32).toInt32) ≠ (3 : Int32)) => ?_) (fun (c11 : ¬ (((x0.toUInt32 >>> ((4 : Int32) &&& 31).toUInt32).toInt32) ≠ (3 : Int32))) => ?_)
      ·
        refine Go.iconst (pc' := 44) X0 hx hby d2_43 rfl (v := (0 : Int32)) (by decide) ?_
        exact j3 _ (by simp only [own_dig]; rw [if_pos c11])
      ·
        refine Go.iloadN (pc' := 31) X0 hx hby d2_30 rfl rfl ?_
        refine Go.bipush (pc' := 33) X0 hx hby d2_31 rfl (v := (15 : Int32)) (by decide) ?_
        refine Go.iand (pc' := 34) X0 hx hby d2_33 rfl ?_
        refine Go.bipush (pc' := 36) X0 hx hby d2_34 rfl (v := (10 : Int32)) (by decide) ?_
        refine Go.icmp (pc' := 43) (pn := 39) X0 hx hby d2_36 (by decide) (by decide) rfl (fun (c12 : (10 : Int32) ≤ (x0 &&& (15 : Int32))) => ?_) (fun (c12 : ¬ ((10 : Int32) ≤ (x0 &&& (15 : Int32)))) => ?_)
        ·
          refine Go.iconst (pc' := 44) X0 hx hby d2_43 rfl (v := (0 : Int32)) (by decide) ?_
          exact j3 _ (by simp only [own_dig]; rw [if_neg c11, if_pos c12])
        ·
          refine Go.iconst (pc' := 40) X0 hx hby d2_39 rfl (v := (1 : Int32)) (by decide) ?_
          refine Go.goto (pc' := 44) X0 hx hby d2_40 (by decide) (by decide) ?_
          exact j3 _ (by simp only [own_dig]; rw [if_neg c11, if_neg c12])
  ·
    refine Go.icmp (pc' := 21) (pn := 11) X0 hx hby d2_8 (by decide) (by decide) rfl (fun (c13 : (x0 ||| (32 : Int32)) < (97 : Int32)) => ?_) (fun (c13 : ¬ ((x0 ||| (32 : Int32)) < (97 : Int32))) => ?_)
    ·
      refine Go.iconst (pc' := 22) X0 hx hby d2_21 rfl (v := (0 : Int32)) (by decide) ?_
      exact j1 _ (by simp [own_let, c13])
    ·
      refine Go.iloadN (pc' := 12) X0 hx hby d2_11 rfl rfl ?_
      refine Go.bipush (pc' := 14) X0 hx hby d2_12 rfl (v := (122 : Int32)) (by decide) ?_
      refine Go.icmp (pc' := 21) (pn := 17) X0 hx hby d2_14 (by decide) (by decide) rfl (fun (c14 : (122 : Int32) < (x0 ||| (32 : Int32))) => ?_) (fun (c14 : ¬ ((122 : Int32) < (x0 ||| (32 : Int32)))) => ?_)
      ·
        refine Go.iconst (pc' := 22) X0 hx hby d2_21 rfl (v := (0 : Int32)) (by decide) ?_
        exact j1 _ (by simp [own_let, c13, c14])
      ·
        refine Go.iconst (pc' := 18) X0 hx hby d2_17 rfl (v := (1 : Int32)) (by decide) ?_
        refine Go.goto (pc' := 22) X0 hx hby d2_18 (by decide) (by decide) ?_
        exact j1 _ (by simp [own_let, c13, c14])
theorem pd_0 : parseMethodDescriptor "(I)Z" = some ⟨[.int], some .boolean⟩ := by decide +kernel
theorem ef_0 (m : MethodId) (x0 : Int32) (x1 : Int32) : entryFrame m #[(.int x0), (.int x1)] maxLocals = mkF m 0 #[.val (.int x0), .val (.int x1), .unset, .unset, .unset, .unset] [] := by first | (simp [entryFrame, mkF, argsToLocals, Value.category, maxLocals]; done) | rfl
set_option maxRecDepth 65536 in
set_option maxHeartbeats 40000000 in
theorem rm0 (l : Launch) (Z : State) (a0 : Array Value) (hw : ∀ d ∈ tables_1, d.before a0 Z = true) (x0 : Int32) (x1 : Int32) (h0 : Heap) :
    Con l Z x code maxLocals ret tables_1 room_1 #[(.int x0), (.int x1)] h0 (LQ h0.size) := by
  refine Con.of (plainFor_of_name pn_LexerIsNamePartPinLaw) ?_
  intro p e s m below meth c s₁ hx hby hml hown hnm hret hlk hZ X0 e0
  refine Go.cast (ef_0 m x0 x1) ?_
  change c.maxLocals = 6 at hml
  replace hown : s.vm.findClass "com/example/glacis/glacis/engine/LexerIsNamePartPinLaw" = some m.cls := hown
  refine Go.iloadN (pc' := 1) X0 hx hby at_0 rfl rfl ?_
  refine Go.iconst (pc' := 2) X0 hx hby at_1 rfl (v := (1 : Int32)) (by decide) ?_
  refine Go.iand (pc' := 3) X0 hx hby at_2 rfl ?_
  refine Go.if_ (pc' := 11) (pn := 6) X0 hx hby at_3 (by decide) (by decide) rfl (fun (c1 : (x1 &&& (1 : Int32)) ≠ 0) => ?_) (fun (c1 : ¬ ((x1 &&& (1 : Int32)) ≠ 0)) => ?_)
  ·
    refine Go.bipush (pc' := 13) X0 hx hby at_11 rfl (v := (7 : Int32)) (by decide) ?_
    refine Go.newarr (pc' := 15) (cap := 7) (z := 7) X0 hx hby hZ (hw _ (List.mem_of_getElem? (i := 0) rfl)) e0 at_13 rfl (by decide) (by decide) (by decide) (by decide) (by decide) (by decide) ?_
    intro b2 T3 h4 g5 X6 e7 E8 A9
    have g10 : h0.size ≤ b2 := by rw [g5]; exact (Nat.le_refl _)
    have z11 : h0.size ≤ h4.size := Nat.le_trans (Nat.le_refl _) E8.1
    have f12 : Ar Z h4 b2 .int 7 (fun _ => (.int 0)) := A9
    show Go p e below _ (T3.setTop (mkF m 15 #[.val (.int x0), .val (.int x1), .unset, .unset, .unset, .unset] [(.ref b2)]))
    refine Go.dup (pc' := 16) X6 hx hby at_15 rfl rfl ?_
    refine Go.iconst (pc' := 17) X6 hx hby at_16 rfl (v := (0 : Int32)) (by decide) ?_
    refine Go.bipush (pc' := 19) X6 hx hby at_17 rfl (v := (97 : Int32)) (by decide) ?_
    refine Go.iastore (pc' := 20) (i := 0) X6 hx hby hZ e7 f12 at_19 rfl (by decide) (by decide) (by decide) ?_
    intro T13 h14 X15 e16 W17 A18
    have z19 : h0.size ≤ h14.size := by rw [Wr.size W17]; exact z11
    have f20 : Ar Z h14 b2 .int 7 (fun q => if q = 0 then (.int (97 : Int32)) else (.int 0)) := A18
    have N21 : Fr h0.size _ := Fr.snoc X15 (Fr.nil _) g10
    show Go p e below _ (T13.setTop (mkF m 20 #[.val (.int x0), .val (.int x1), .unset, .unset, .unset, .unset] [(.ref b2)]))
    refine Go.dup (pc' := 21) X15 hx hby at_20 rfl rfl ?_
    refine Go.iconst (pc' := 22) X15 hx hby at_21 rfl (v := (1 : Int32)) (by decide) ?_
    refine Go.bipush (pc' := 24) X15 hx hby at_22 rfl (v := (122 : Int32)) (by decide) ?_
    refine Go.iastore (pc' := 25) (i := 1) X15 hx hby hZ e16 f20 at_24 rfl (by decide) (by decide) (by decide) ?_
    intro T22 h23 X24 e25 W26 A27
    have z28 : h0.size ≤ h23.size := by rw [Wr.size W26]; exact z19
    have f29 : Ar Z h23 b2 .int 7 (fun q => if q = 1 then (.int (122 : Int32)) else if q = 0 then (.int (97 : Int32)) else (.int 0)) := A27
    have N30 : Fr h0.size _ := Fr.snoc X24 N21 g10
    show Go p e below _ (T22.setTop (mkF m 25 #[.val (.int x0), .val (.int x1), .unset, .unset, .unset, .unset] [(.ref b2)]))
    refine Go.dup (pc' := 26) X24 hx hby at_25 rfl rfl ?_
    refine Go.iconst (pc' := 27) X24 hx hby at_26 rfl (v := (2 : Int32)) (by decide) ?_
    refine Go.bipush (pc' := 29) X24 hx hby at_27 rfl (v := (65 : Int32)) (by decide) ?_
    refine Go.iastore (pc' := 30) (i := 2) X24 hx hby hZ e25 f29 at_29 rfl (by decide) (by decide) (by decide) ?_
    intro T31 h32 X33 e34 W35 A36
    have z37 : h0.size ≤ h32.size := by rw [Wr.size W35]; exact z28
    have f38 : Ar Z h32 b2 .int 7 (fun q => if q = 2 then (.int (65 : Int32)) else if q = 1 then (.int (122 : Int32)) else if q = 0 then (.int (97 : Int32)) else (.int 0)) := A36
    have N39 : Fr h0.size _ := Fr.snoc X33 N30 g10
    show Go p e below _ (T31.setTop (mkF m 30 #[.val (.int x0), .val (.int x1), .unset, .unset, .unset, .unset] [(.ref b2)]))
    refine Go.dup (pc' := 31) X33 hx hby at_30 rfl rfl ?_
    refine Go.iconst (pc' := 32) X33 hx hby at_31 rfl (v := (3 : Int32)) (by decide) ?_
    refine Go.bipush (pc' := 34) X33 hx hby at_32 rfl (v := (90 : Int32)) (by decide) ?_
    refine Go.iastore (pc' := 35) (i := 3) X33 hx hby hZ e34 f38 at_34 rfl (by decide) (by decide) (by decide) ?_
    intro T40 h41 X42 e43 W44 A45
    have z46 : h0.size ≤ h41.size := by rw [Wr.size W44]; exact z37
    have f47 : Ar Z h41 b2 .int 7 (fun q => if q = 3 then (.int (90 : Int32)) else if q = 2 then (.int (65 : Int32)) else if q = 1 then (.int (122 : Int32)) else if q = 0 then (.int (97 : Int32)) else (.int 0)) := A45
    have N48 : Fr h0.size _ := Fr.snoc X42 N39 g10
    show Go p e below _ (T40.setTop (mkF m 35 #[.val (.int x0), .val (.int x1), .unset, .unset, .unset, .unset] [(.ref b2)]))
    refine Go.dup (pc' := 36) X42 hx hby at_35 rfl rfl ?_
    refine Go.iconst (pc' := 37) X42 hx hby at_36 rfl (v := (4 : Int32)) (by decide) ?_
    refine Go.bipush (pc' := 39) X42 hx hby at_37 rfl (v := (48 : Int32)) (by decide) ?_
    refine Go.iastore (pc' := 40) (i := 4) X42 hx hby hZ e43 f47 at_39 rfl (by decide) (by decide) (by decide) ?_
    intro T49 h50 X51 e52 W53 A54
    have z55 : h0.size ≤ h50.size := by rw [Wr.size W53]; exact z46
    have f56 : Ar Z h50 b2 .int 7 (fun q => if q = 4 then (.int (48 : Int32)) else if q = 3 then (.int (90 : Int32)) else if q = 2 then (.int (65 : Int32)) else if q = 1 then (.int (122 : Int32)) else if q = 0 then (.int (97 : Int32)) else (.int 0)) := A54
    have N57 : Fr h0.size _ := Fr.snoc X51 N48 g10
    show Go p e below _ (T49.setTop (mkF m 40 #[.val (.int x0), .val (.int x1), .unset, .unset, .unset, .unset] [(.ref b2)]))
    refine Go.dup (pc' := 41) X51 hx hby at_40 rfl rfl ?_
    refine Go.iconst (pc' := 42) X51 hx hby at_41 rfl (v := (5 : Int32)) (by decide) ?_
    refine Go.bipush (pc' := 44) X51 hx hby at_42 rfl (v := (57 : Int32)) (by decide) ?_
    refine Go.iastore (pc' := 45) (i := 5) X51 hx hby hZ e52 f56 at_44 rfl (by decide) (by decide) (by decide) ?_
    intro T58 h59 X60 e61 W62 A63
    have z64 : h0.size ≤ h59.size := by rw [Wr.size W62]; exact z55
    have f65 : Ar Z h59 b2 .int 7 (fun q => if q = 5 then (.int (57 : Int32)) else if q = 4 then (.int (48 : Int32)) else if q = 3 then (.int (90 : Int32)) else if q = 2 then (.int (65 : Int32)) else if q = 1 then (.int (122 : Int32)) else if q = 0 then (.int (97 : Int32)) else (.int 0)) := A63
    have N66 : Fr h0.size _ := Fr.snoc X60 N57 g10
    show Go p e below _ (T58.setTop (mkF m 45 #[.val (.int x0), .val (.int x1), .unset, .unset, .unset, .unset] [(.ref b2)]))
    refine Go.dup (pc' := 46) X60 hx hby at_45 rfl rfl ?_
    refine Go.bipush (pc' := 48) X60 hx hby at_46 rfl (v := (6 : Int32)) (by decide) ?_
    refine Go.bipush (pc' := 50) X60 hx hby at_48 rfl (v := (95 : Int32)) (by decide) ?_
    refine Go.iastore (pc' := 51) (i := 6) X60 hx hby hZ e61 f65 at_50 rfl (by decide) (by decide) (by decide) ?_
    intro T67 h68 X69 e70 W71 A72
    have z73 : h0.size ≤ h68.size := by rw [Wr.size W71]; exact z64
    have f74 : Ar Z h68 b2 .int 7 (fun q => if q = 6 then (.int (95 : Int32)) else if q = 5 then (.int (57 : Int32)) else if q = 4 then (.int (48 : Int32)) else if q = 3 then (.int (90 : Int32)) else if q = 2 then (.int (65 : Int32)) else if q = 1 then (.int (122 : Int32)) else if q = 0 then (.int (97 : Int32)) else (.int 0)) := A72
    have N75 : Fr h0.size _ := Fr.snoc X69 N66 g10
    show Go p e below _ (T67.setTop (mkF m 51 #[.val (.int x0), .val (.int x1), .unset, .unset, .unset, .unset] [(.ref b2)]))
    have f76 : Ar Z h68 b2 .int 7 (fun q => .int (own_bd q)) := f74.congr (by intro i h0 h1; simp only [own_bd]; (repeat' split) <;> first | rfl | omega)
    refine Go.astoreN (Ls' := #[.val (.int x0), .val (.int x1), .unset, .val (.ref b2), .unset, .unset]) (pc' := 52) X69 hx hby at_51 rfl rfl rfl ?_
    refine Go.iloadN (pc' := 53) X69 hx hby at_52 rfl rfl ?_
    refine Go.iconst (pc' := 54) X69 hx hby at_53 rfl (v := (1 : Int32)) (by decide) ?_
    refine Go.iushr (pc' := 55) X69 hx hby at_54 rfl ?_
    refine Go.bipush (pc' := 57) X69 hx hby at_55 rfl (v := (7 : Int32)) (by decide) ?_
    refine Go.iand (pc' := 58) X69 hx hby at_57 rfl ?_
    refine Go.bipush (pc' := 60) X69 hx hby at_58 rfl (v := (7 : Int32)) (by decide) ?_
    refine Go.irem (pc' := 61) X69 hx hby at_60 rfl (by decide) ?_
    refine Go.nmI (fun (i : Int32) (hi : i = (((x1.toUInt32 >>> ((1 : Int32) &&& 31).toUInt32).toInt32) &&& (7 : Int32)) % (7 : Int32)) => ?_)
    refine Go.istore (Ls' := #[.val (.int x0), .val (.int x1), .unset, .val (.ref b2), .val (.int i), .unset]) (pc' := 63) X69 hx hby at_61 rfl rfl ?_
    refine Go.iloadN (pc' := 64) X69 hx hby at_63 rfl rfl ?_
    refine Go.iconst (pc' := 65) X69 hx hby at_64 rfl (v := (4 : Int32)) (by decide) ?_
    refine Go.iushr (pc' := 66) X69 hx hby at_65 rfl ?_
    refine Go.iconst (pc' := 67) X69 hx hby at_66 rfl (v := (3 : Int32)) (by decide) ?_
    refine Go.irem (pc' := 68) X69 hx hby at_67 rfl (by decide) ?_
    refine Go.iconst (pc' := 69) X69 hx hby at_68 rfl (v := (1 : Int32)) (by decide) ?_
    refine Go.isub (pc' := 70) X69 hx hby at_69 rfl ?_
    refine Go.istore (Ls' := #[.val (.int x0), .val (.int x1), .unset, .val (.ref b2), .val (.int i), .val (.int ((((x1.toUInt32 >>> ((4 : Int32) &&& 31).toUInt32).toInt32) % (3 : Int32)) - (1 : Int32)))]) (pc' := 72) X69 hx hby at_70 rfl rfl ?_
    refine Go.aloadN (pc' := 73) X69 hx hby at_72 rfl rfl rfl ?_
    refine Go.iload (pc' := 75) X69 hx hby at_73 rfl rfl ?_
    have hi : 0 ≤ i.toInt ∧ i.toInt < 7 := by
      have q := c_mask ((x1.toUInt32 >>> ((1 : Int32) &&& 31).toUInt32).toInt32) 7 3 (by decide) (by decide)
      have q2 := (c_irem ((x1.toUInt32 >>> ((1 : Int32) &&& 31).toUInt32).toInt32 &&& 7) 7 7 (by decide)).1 (by omega)
      rw [← hi] at q2; omega
    refine Go.iaload (pc' := 76) (i := i.toInt) (v := (.int (own_bd i.toInt))) X69 hx hby hZ e70 f76 at_75 rfl rfl hi.1 hi.2 rfl ?_
    refine Go.iload (pc' := 78) X69 hx hby at_76 rfl rfl ?_
    refine Go.iadd (pc' := 79) X69 hx hby at_78 rfl ?_
    refine Go.nmI (fun (cc : Int32) (hcc : cc = (own_bd i.toInt) + ((((x1.toUInt32 >>> ((4 : Int32) &&& 31).toUInt32).toInt32) % (3 : Int32)) - (1 : Int32))) => ?_)
    refine Go.istoreN (Ls' := #[.val (.int x0), .val (.int x1), .val (.int cc), .val (.ref b2), .val (.int i), .val (.int ((((x1.toUInt32 >>> ((4 : Int32) &&& 31).toUInt32).toInt32) % (3 : Int32)) - (1 : Int32)))]) (pc' := 80) X69 hx hby at_79 rfl rfl ?_
    refine Go.iloadN (pc' := 81) X69 hx hby at_80 rfl rfl ?_
    refine Go.callS (pc' := 84) (W := 0) (argsL := [(.int cc)]) (rest := []) X69 hx hby hZ hown (hw _ (List.mem_of_getElem? (i := 1) rfl)) (hw _ (List.mem_of_getElem? (i := 2) rfl)) (hw _ (List.mem_of_getElem? (i := 3) rfl)) (hw _ (List.mem_of_getElem? (i := 4) rfl)) (by decide) (rm1 l Z a0 hw cc h68) e70 (by decide) (by decide) (by rw [hml]; rfl) pd_0 rfl rfl rfl (Nat.le_of_eq rfl) at_81 rfl (by decide) (by decide) ?_
    rintro r77 T78 L79 X80 ⟨rfl, rfl, e82⟩
    rw [List.append_nil] at X80
    show Go p e below _ (T78.setTop (mkF m 84 #[.val (.int x0), .val (.int x1), .val (.int cc), .val (.ref b2), .val (.int i), .val (.int ((((x1.toUInt32 >>> ((4 : Int32) &&& 31).toUInt32).toInt32) % (3 : Int32)) - (1 : Int32)))] [(.int (own_a cc))]))
    refine Go.iloadN (pc' := 85) X80 hx hby at_84 rfl rfl ?_
    refine Go.callS (pc' := 88) (W := 1) (argsL := [(.int cc)]) (rest := [(.int (own_a cc))]) X80 hx hby hZ hown (hw _ (List.mem_of_getElem? (i := 5) rfl)) (hw _ (List.mem_of_getElem? (i := 6) rfl)) (hw _ (List.mem_of_getElem? (i := 7) rfl)) (hw _ (List.mem_of_getElem? (i := 8) rfl)) (by decide) (rm2 l Z a0 hw cc h68) e82 (by decide) (by decide) (by rw [hml]; rfl) pd_0 rfl rfl rfl (Nat.le_of_eq rfl) at_85 rfl (by decide) (by decide) ?_
    rintro r83 T84 L85 X86 ⟨rfl, rfl, e88⟩
    rw [List.append_nil] at X86
    show Go p e below _ (T84.setTop (mkF m 88 #[.val (.int x0), .val (.int x1), .val (.int cc), .val (.ref b2), .val (.int i), .val (.int ((((x1.toUInt32 >>> ((4 : Int32) &&& 31).toUInt32).toInt32) % (3 : Int32)) - (1 : Int32)))] [(.int (own_r cc)), (.int (own_a cc))]))
    refine Go.icmpN (pc' := 91) X86 hx hby at_88 rfl (show ¬ ((own_a cc) ≠ (own_r cc)) from fun q => q (own_law _)) ?_
    refine Go.iconst (pc' := 92) X86 hx hby at_91 rfl (v := (1 : Int32)) (by decide) ?_
    refine Go.goto (pc' := 96) X86 hx hby at_92 (by decide) (by decide) ?_
    exact Go.retZ X86 hx hby hlk hret (by simp) at_96 (by decide) (by decide) ⟨rfl, N75⟩
  ·
    refine Go.iloadN (pc' := 7) X0 hx hby at_6 rfl rfl ?_
    refine Go.istoreN (Ls' := #[.val (.int x0), .val (.int x1), .val (.int x0), .unset, .unset, .unset]) (pc' := 8) X0 hx hby at_7 rfl rfl ?_
    refine Go.goto (pc' := 80) X0 hx hby at_8 (by decide) (by decide) ?_
    refine Go.iloadN (pc' := 81) X0 hx hby at_80 rfl rfl ?_
    refine Go.callS (pc' := 84) (W := 0) (argsL := [(.int x0)]) (rest := []) X0 hx hby hZ hown (hw _ (List.mem_of_getElem? (i := 1) rfl)) (hw _ (List.mem_of_getElem? (i := 2) rfl)) (hw _ (List.mem_of_getElem? (i := 3) rfl)) (hw _ (List.mem_of_getElem? (i := 4) rfl)) (by decide) (rm1 l Z a0 hw x0 h0) e0 (by decide) (by decide) (by rw [hml]; rfl) pd_0 rfl rfl rfl (Nat.le_of_eq rfl) at_81 rfl (by decide) (by decide) ?_
    rintro r89 T90 L91 X92 ⟨rfl, rfl, e94⟩
    rw [List.append_nil] at X92
    show Go p e below _ (T90.setTop (mkF m 84 #[.val (.int x0), .val (.int x1), .val (.int x0), .unset, .unset, .unset] [(.int (own_a x0))]))
    refine Go.iloadN (pc' := 85) X92 hx hby at_84 rfl rfl ?_
    refine Go.callS (pc' := 88) (W := 1) (argsL := [(.int x0)]) (rest := [(.int (own_a x0))]) X92 hx hby hZ hown (hw _ (List.mem_of_getElem? (i := 5) rfl)) (hw _ (List.mem_of_getElem? (i := 6) rfl)) (hw _ (List.mem_of_getElem? (i := 7) rfl)) (hw _ (List.mem_of_getElem? (i := 8) rfl)) (by decide) (rm2 l Z a0 hw x0 h0) e94 (by decide) (by decide) (by rw [hml]; rfl) pd_0 rfl rfl rfl (Nat.le_of_eq rfl) at_85 rfl (by decide) (by decide) ?_
    rintro r95 T96 L97 X98 ⟨rfl, rfl, e100⟩
    rw [List.append_nil] at X98
    show Go p e below _ (T96.setTop (mkF m 88 #[.val (.int x0), .val (.int x1), .val (.int x0), .unset, .unset, .unset] [(.int (own_r x0)), (.int (own_a x0))]))
    refine Go.icmpN (pc' := 91) X98 hx hby at_88 rfl (show ¬ ((own_a x0) ≠ (own_r x0)) from fun q => q (own_law _)) ?_
    refine Go.iconst (pc' := 92) X98 hx hby at_91 rfl (v := (1 : Int32)) (by decide) ?_
    refine Go.goto (pc' := 96) X98 hx hby at_92 (by decide) (by decide) ?_
    exact Go.retZ X98 hx hby hlk hret (by simp) at_96 (by decide) (by decide) ⟨rfl, (Fr.nil _)⟩
set_option maxRecDepth 65536 in
set_option maxHeartbeats 40000000 in
theorem comes_1 {Post : Tables → Env → Array Value → State → Outcome → State → Prop} (hpost : ∀ tb e args s v u, (limb_1_1.after args s (.returned v) u = true ∧ limb_1_2.after args s (.returned v) u = true ∧ True) → FrameEnd s (.returned v) u (Jvm.fieldLocs frame_1_writes args s ++ Jvm.arrayLocs frame_1_arrays args s ++ Jvm.staticLocs frame_1_statics s) 16 128 → Post tb e args s (.returned v) u) :
    ArmFor flags0 classFile x code maxLocals ret World_1 tables_1 room_1 Calls_1 rest_1 Pre_1 Post := by
  intro l hfl _ _ p e ha hc hk s m args below hf hA hF happ hP
  obtain ⟨hcalls, hrest, hpre⟩ := hP
  obtain ⟨-, -, -, hnamed, -, -, -, hat⟩ := (Spec.applies_iff hf).mp happ
  obtain ⟨hg, hn⟩ := and_e (Cond.before_iff.mp (show (Jvm.Cond.and given_1 narrow_1).before args s = true from hpre))
  obtain ⟨h1, g0⟩ := and_e hg
  obtain ⟨w0, w1, rfl⟩ : ∃ w0 w1 : Value, args = #[w0, w1] := by
    have hs : args.size = 2 := by simpa [Cond.value, given_1] using h1
    obtain ⟨L⟩ := args
    match L, hs with
    | [w0, w1], _ => exact ⟨w0, w1, rfl⟩
  have hw := fun d (hd : d ∈ tables_1) => atoms_spec (ws := Jvm.Cond.code x code maxLocals ret :: tables_1) hat d (List.mem_cons_of_mem _ hd)
  have hfit : Fit s := fun {y c} hc i hi => by
    obtain ⟨ha, rfl⟩ := Array.getElem?_eq_some_iff.mp hc
    have q := List.all_eq_true.mp ((Array.all_eq_true_iff_forall_mem.mp hF) _ (Array.getElem_mem ha)) i (List.mem_range.mpr hi)
    simpa [Array.getElem?_eq_getElem hi] using q
  obtain ⟨k0, g1⟩ := and_e g0
  obtain ⟨i0, e0⟩ := is_v k0
  obtain rfl : w0 = (.int i0) := Option.some.inj e0
  obtain ⟨i1, e1⟩ := is_v g1
  obtain rfl : w1 = (.int i1) := Option.some.inj e1
  obtain ⟨n, o, h1, h2, h3, _, L, rfl, ⟨rfl, N⟩, hq⟩ := rm0 l s _ hw i0 i1 s.heap p e ha hc hk s m _ below hf ((Spec.applies_iff_loose hf).mp happ).1 ⟨rfl, State.Warmed39.refl s, rfl⟩ trivial
  refine ⟨n, _, h1, h2, h3, hpost _ _ _ _ _ _ ⟨Cond.after_iff.mpr rfl, Cond.after_iff.mpr (eq_i res_at (Term.int_eval (1)) rfl), trivial⟩ ⟨hq.1, hq.2.1, (hq.2.2.sift fun y hy => Or.inr (N y hy)).mono (by decide) (by decide)⟩⟩
theorem main_1_1 : Claimed_1_1 := comes_1 fun _ _ _ _ _ _ h hF => ⟨h.1, hF⟩
theorem main_1_2 : Claimed_1_2 := comes_1 fun _ _ _ _ _ _ h hF => ⟨h.2.1, hF⟩
end Jvm.Pilot.@@N@@
namespace Jvm.Pilot.@@N@@
open Jvm Jvm.ClassFile Sem Op Lib Jvm.Free Jvm.Stand Jvm.Pilot.@@N@@.Jvm.D
/-! MADE BY PROGRAM (witnessworld.py) out of the Statement's table words and the real class files: 9 classes; the members and pool entries that the words name. The judged class is class 1, her method 2. -/
namespace start1
open Jvm.ClassFile
def u (s : String) : CpInfo := .utf8 (stringToUtf16 s)
/-- a pool by its gaps: so many unusable entries, then the entry; so many at the end -/
def gap : Nat → List CpInfo → List CpInfo
  | 0, r => r
  | n + 1, r => .unusable :: gap n r
def poolList (es : List (Nat × CpInfo)) (last : Nat) : List CpInfo := es.foldr (fun e r => gap e.1 (e.2 :: r)) (gap last [])
def pool (es : List (Nat × CpInfo)) (last : Nat) : Array CpInfo := ⟨poolList es last⟩
def fileOf (pool : Array CpInfo) (this : Nat) (attrs : Array Attribute := #[]) (ms : Array MethodInfo := #[]) (fl : Nat := 33) (sup : Nat := 0) (ifs : Array Nat := #[]) (fds : Array FieldInfo := #[]) : ClassFile where
  minorVersion := 0
  majorVersion := 65
  constantPool := pool
  accessFlags := fl
  thisClass := this
  superClass := sup
  interfaces := ifs
  fields := fds
  methods := ms
  attributes := attrs
def plain (name : String) (sup : Option ClassId) : Class where
  name := name
  kind := .ordinary
  loader := none
  accessFlags := 33
  super := sup
  interfaces := #[]
  cf := none
  fields := #[]
  methods := #[]
  instanceTypes := #[]
  staticTypes := #[]
  resolved := #[]
  callSites := []
  init := .initialized
  statics := none
  mirror := none

def pool0 : Array CpInfo := pool [(5, u "<init>"), (0, u "()V"), (1, .class_ 10), (1, u "java/lang/Object")] 113

def k0m0 : Method := { name := "<init>", desc := "()V", sig := { parameters := [], returnType := none }, accessFlags := 1, code := none }
/-- java/lang/Object -/
def k0 : Class := { plain "java/lang/Object" none with
  accessFlags := 33
  interfaces := #[]
  cf := some (fileOf pool0 8 #[] #[{ accessFlags := 1, nameIndex := 5, descriptorIndex := 6, attributes := #[] }] 33 0 #[] #[])
  fields := #[]
  methods := #[k0m0]
  instanceTypes := #[]
  staticTypes := #[]
  resolved := Array.replicate 124 none
  statics := none }

def pool1 : Array CpInfo := pool [(2, .class_ 4), (1, u "java/lang/Object"), (0, u "<init>"), (0, u "()V"), (0, .methodref 8 9), (0, .class_ 10), (0, .nameAndType 11 12), (0, u "com/example/glacis/glacis/engine/Lexer"), (0, u "isNamePart"), (0, u "(I)Z"), (0, .methodref 14 15), (0, .class_ 16), (0, .nameAndType 17 12), (0, u "com/example/glacis/glacis/engine/LexerIsNamePartPinLaw"), (0, u "reference"), (3, u "law"), (0, u "(II)Z")] 2

def k1m0 : Method := { name := "<init>", desc := "()V", sig := { parameters := [], returnType := none }, accessFlags := 2, code := none }
def k1c1 : Code := { maxStack := 2, maxLocals := 5, code := method_2_code, exceptionTable := #[], attributes := #[] }
def k1m1 : Method := { name := "reference", desc := "(I)Z", sig := { parameters := [.int], returnType := some .boolean }, accessFlags := 10, code := some k1c1 }
def k1c2 : Code := { maxStack := 4, maxLocals := 6, code := code, exceptionTable := #[], attributes := #[] }
def k1m2 : Method := { name := "law", desc := "(II)Z", sig := { parameters := [.int, .int], returnType := some .boolean }, accessFlags := 9, code := some k1c2 }
/-- com/example/glacis/glacis/engine/LexerIsNamePartPinLaw -/
def k1 : Class := { plain "com/example/glacis/glacis/engine/LexerIsNamePartPinLaw" (some 0) with
  accessFlags := 49
  interfaces := #[]
  cf := some (fileOf pool1 14 #[] #[{ accessFlags := 2, nameIndex := 5, descriptorIndex := 6, attributes := #[] }, { accessFlags := 10, nameIndex := 17, descriptorIndex := 12, attributes := #[] }, { accessFlags := 9, nameIndex := 21, descriptorIndex := 22, attributes := #[] }] 49 2 #[] #[])
  fields := #[]
  methods := #[k1m0, k1m1, k1m2]
  instanceTypes := #[]
  staticTypes := #[]
  resolved := Array.replicate 25 none
  statics := none }

def pool2 : Array CpInfo := pool [(2, .class_ 4), (1, u "java/lang/Object"), (3, .class_ 10), (1, u "com/example/glacis/glacis/engine/Lexer"), (0, u "line"), (0, u "I"), (2, u "column"), (4, u "text"), (3, u "Ljava/lang/String;"), (5, u "file"), (36, u "(I)Z"), (12, u "offset"), (118, u "isNamePart"), (75, u "OPERATOR_CHARACTERS"), (1, u "LONE_CHARACTERS")] 32

def k2c0 : Code := { maxStack := 2, maxLocals := 1, code := prog_28_method_4_code, exceptionTable := #[], attributes := #[] }
def k2m0 : Method := { name := "isNamePart", desc := "(I)Z", sig := { parameters := [.int], returnType := some .boolean }, accessFlags := 8, code := some k2c0 }
/-- com/example/glacis/glacis/engine/Lexer -/
def k2 : Class := { plain "com/example/glacis/glacis/engine/Lexer" (some 0) with
  accessFlags := 48
  interfaces := #[]
  cf := some (fileOf pool2 8 #[] #[{ accessFlags := 8, nameIndex := 199, descriptorIndex := 67, attributes := #[] }] 48 2 #[] #[{ accessFlags := 26, nameIndex := 275, descriptorIndex := 24, attributes := #[] }, { accessFlags := 26, nameIndex := 277, descriptorIndex := 24, attributes := #[] }, { accessFlags := 18, nameIndex := 20, descriptorIndex := 24, attributes := #[] }, { accessFlags := 18, nameIndex := 30, descriptorIndex := 24, attributes := #[] }, { accessFlags := 2, nameIndex := 80, descriptorIndex := 12, attributes := #[] }, { accessFlags := 2, nameIndex := 11, descriptorIndex := 12, attributes := #[] }, { accessFlags := 2, nameIndex := 15, descriptorIndex := 12, attributes := #[] }])
  fields := #[{ name := "OPERATOR_CHARACTERS", type := (.object "java/lang/String"), accessFlags := 26, slot := 0, constantValue := 0 }, { name := "LONE_CHARACTERS", type := (.object "java/lang/String"), accessFlags := 26, slot := 1, constantValue := 0 }, { name := "text", type := (.object "java/lang/String"), accessFlags := 18, slot := 0, constantValue := 0 }, { name := "file", type := (.object "java/lang/String"), accessFlags := 18, slot := 1, constantValue := 0 }, { name := "offset", type := .int, accessFlags := 2, slot := 2, constantValue := 0 }, { name := "line", type := .int, accessFlags := 2, slot := 3, constantValue := 0 }, { name := "column", type := .int, accessFlags := 2, slot := 4, constantValue := 0 }]
  methods := #[k2m0]
  instanceTypes := #[(.object "java/lang/String"), (.object "java/lang/String"), .int, .int, .int]
  staticTypes := #[(.object "java/lang/String"), (.object "java/lang/String")]
  resolved := Array.replicate 310 none
  statics := none }

def pool3 : Array CpInfo := pool [(1, u "java/lang/Cloneable"), (0, .class_ 1), (0, u "java/lang/Object"), (0, .class_ 3)] 3

/-- java/lang/Cloneable -/
def k3 : Class := { plain "java/lang/Cloneable" (some 0) with
  accessFlags := 1537
  interfaces := #[]
  cf := some (fileOf pool3 2 #[] #[] 1537 4 #[] #[])
  fields := #[]
  methods := #[]
  instanceTypes := #[]
  staticTypes := #[]
  resolved := Array.replicate 8 none
  statics := none }

def pool4 : Array CpInfo := pool [(1, u "java/io/Serializable"), (0, .class_ 1), (0, u "java/lang/Object"), (0, .class_ 3)] 3

/-- java/io/Serializable -/
def k4 : Class := { plain "java/io/Serializable" (some 0) with
  accessFlags := 1537
  interfaces := #[]
  cf := some (fileOf pool4 2 #[] #[] 1537 4 #[] #[])
  fields := #[]
  methods := #[]
  instanceTypes := #[]
  staticTypes := #[]
  resolved := Array.replicate 8 none
  statics := none }

/-- the primitive byte -/
def k5 : Class := { plain "byte" none with kind := .primitive 'B', accessFlags := 0x411 }
/-- [B -/
def k6 : Class := { plain "[B" (some 0) with kind := .array 5 .byte, interfaces := #[3, 4], accessFlags := 1041 }

/-- the primitive int -/
def k7 : Class := { plain "int" none with kind := .primitive 'I', accessFlags := 0x411 }
/-- [I -/
def k8 : Class := { plain "[I" (some 0) with kind := .array 7 .int, interfaces := #[3, 4], accessFlags := 1041 }

def heap : Heap := #[]
def classes : Array Class := #[k0, k1, k2, k3, k4, k5, k6, k7, k8]
def interned : List (Array UInt16 × Addr) := []
def slotsUsed : Nat := 0
def theMethod : MethodId := ⟨1, 2⟩
def args0 : Array Value := #[.int 5, .int 3]
def aboutOver (below : List Frame) : State where
  vm := { classes := classes, interned := interned.toArray }
  heap := heap
  slotsUsed := slotsUsed
  threads := #[{ frames := .invoking theMethod args0 :: below }]
def below0 : List Frame := [.native { method := ⟨0, 0⟩, args := #[] }]
def about1 : State := aboutOver below0
def p0 : Program := .bare "" "" ""
def e0 : Env := launch0.env 0 0 0
theorem w_frames : about1.frames = Frame.invoking theMethod args0 :: below0 := rfl
set_option maxRecDepth 65536 in
theorem w_args : argsFit about1.vm theMethod args0 = true := by decide +kernel
set_option maxRecDepth 65536 in
theorem w_heap : heapFits about1 = true := by decide +kernel
set_option maxRecDepth 65536 in
theorem w_runnable : about1.curStatus? = some .runnable := by decide +kernel
set_option maxRecDepth 65536 in
theorem w_alone : about1.alone = true := by decide +kernel
set_option maxRecDepth 65536 in
theorem w_named : about1.methodNamed? x = some theMethod := by decide +kernel
set_option maxRecDepth 65536 in
theorem w_hears : about1.hears theMethod below0 = true := by decide +kernel
set_option maxRecDepth 65536 in
theorem w_ripe : about1.ripe theMethod args0 below0 = true := by decide +kernel
theorem w_running : about1.status = .running := rfl
set_option maxRecDepth 65536 in
theorem w_room : about1.hasRoom e0.platform room_1 = true :=
  launch0.hasRoom_least _ room_1 (by decide +kernel) (by decide +kernel) (by decide +kernel) (by decide +kernel) (by decide +kernel) (by decide +kernel)
theorem allAtoms_all (ts : List Jvm.Cond) (a : Array Jvm.Value) (st : Jvm.State) : (allAtoms ts).before a st = ts.all (fun c => c.before a st) := by
  induction ts with
  | nil => rfl
  | cons c t ih =>
    show (Jvm.Cond.and c (allAtoms t)).before a st = _
    rw [Jvm.Cond.before_and, ih, List.all_cons]
def words1 : List Jvm.Cond := Jvm.Cond.code x code maxLocals ret :: tables_1
/-- a 'code' word, met by the world's own term for the bytes: nothing is compared byte by byte -/
theorem code_word {y : MethodName} {bytes : ByteArray} {mx : Nat} {rt : Option FieldType} {a : Array Value} {s : State} {m : MethodId} {meth : Method} {c : Code} (h1 : s.methodNamed? y = some m) (h2 : s.vm.method? m = some meth) (h3 : meth.code = some c) (h4 : c.code = bytes)
    (h5 : (c.maxLocals == mx && c.exceptionTable.isEmpty && decide (c.maxStack ≤ mostOperands) && decide (meth.sig.returnType = rt) && !meth.locks && decide (parseMethodDescriptor y.desc = some meth.sig)) = true) : (Jvm.Cond.code y bytes mx rt).before a s = true := by
  simp only [Bool.and_eq_true, beq_iff_eq, Bool.not_eq_true', decide_eq_true_eq] at h5
  obtain ⟨⟨⟨⟨⟨g1, g2⟩, g3⟩, g4⟩, g5⟩, g6⟩ := h5
  simp [Cond.before, Cond.holds, Cond.value, h1, h2, h3, h4, g1, g2, g3, g4, g5, g6]
def isCode : Jvm.Cond → Bool
  | .code _ _ _ _ => true
  | _ => false
theorem all_split {L : List Jvm.Cond} {P : Jvm.Cond → Bool} (h1 : L.all (fun c => isCode c || P c) = true) (h2 : ∀ c ∈ L.filter isCode, P c = true) : L.all P = true := by
  refine List.all_eq_true.mpr fun c hc => ?_
  have h := List.all_eq_true.mp h1 c hc
  rcases Bool.eq_false_or_eq_true (isCode c) with hi | hi
  · exact h2 c (List.mem_filter.mpr ⟨hc, hi⟩)
  · simpa [hi] using h
set_option maxRecDepth 65536 in
theorem w_c0 : (Jvm.Cond.code x code maxLocals ret).before args0 about1 = true := code_word (m := ⟨1, 2⟩) (meth := k1m2) (c := k1c2) (by decide +kernel) rfl rfl rfl (by decide +kernel)
set_option maxRecDepth 65536 in
theorem w_c1 : (Jvm.Cond.code ({ cls := "com/example/glacis/glacis/engine/Lexer", name := "isNamePart", desc := "(I)Z" } : Jvm.MethodName) prog_28_method_4_code (1 : Nat) (Option.some Jvm.ClassFile.FieldType.boolean)).before args0 about1 = true := code_word (m := ⟨2, 0⟩) (meth := k2m0) (c := k2c0) (by decide +kernel) rfl rfl rfl (by decide +kernel)
set_option maxRecDepth 65536 in
theorem w_c2 : (Jvm.Cond.code ({ cls := "com/example/glacis/glacis/engine/LexerIsNamePartPinLaw", name := "reference", desc := "(I)Z" } : Jvm.MethodName) method_2_code (5 : Nat) (Option.some Jvm.ClassFile.FieldType.boolean)).before args0 about1 = true := code_word (m := ⟨1, 1⟩) (meth := k1m1) (c := k1c1) (by decide +kernel) rfl rfl rfl (by decide +kernel)
def codes1 : List Jvm.Cond := [Jvm.Cond.code x code maxLocals ret, Jvm.Cond.code ({ cls := "com/example/glacis/glacis/engine/Lexer", name := "isNamePart", desc := "(I)Z" } : Jvm.MethodName) prog_28_method_4_code (1 : Nat) (Option.some Jvm.ClassFile.FieldType.boolean), Jvm.Cond.code ({ cls := "com/example/glacis/glacis/engine/LexerIsNamePartPinLaw", name := "reference", desc := "(I)Z" } : Jvm.MethodName) method_2_code (5 : Nat) (Option.some Jvm.ClassFile.FieldType.boolean)]
set_option maxRecDepth 65536 in
theorem codes_eq : words1.filter isCode = codes1 := rfl
theorem w_codes : ∀ c ∈ words1.filter isCode, c.before args0 about1 = true := by
  rw [codes_eq]
  intro c hc
  simp only [codes1, List.mem_cons, List.not_mem_nil, or_false] at hc
  rcases hc with rfl | rfl | rfl
  · exact w_c0
  · exact w_c1
  · exact w_c2
set_option maxRecDepth 65536 in
theorem w_t1 : words1.all (fun c => isCode c || c.before args0 about1) = true := by decide +kernel
theorem w_tables : (allAtoms (Jvm.Cond.code x code maxLocals ret :: tables_1)).before args0 about1 = true := by
  rw [allAtoms_all]
  show words1.all (fun c => c.before args0 about1) = true
  refine all_split ?_ w_codes
  rw [w_t1]
set_option maxRecDepth 65536 in
theorem w_case : (Jvm.Cond.and given_1 narrow_1).before args0 about1 = true := by decide +kernel
theorem w_applies : (headSpec (Jvm.Cond.code x code maxLocals ret :: tables_1) room_1).applies x e0.platform about1 = true :=
  (Spec.applies_iff w_frames).mpr ⟨w_running, w_runnable, w_alone, w_named, w_hears, w_ripe, w_room, w_tables⟩
theorem atStart : AtStart classFile x code maxLocals ret World_1 tables_1 room_1 Calls_1 rest_1 Pre_1 launch0 p0 e0 about1 theMethod args0 below0 :=
  ⟨lists_1, trivial, launch0.admits_env _ _ _, launch0.least_env, fairChoices_fair.cas, fairChoices_fair.clock, w_frames, w_args, w_heap, w_applies, trivial, trivial, w_case⟩
end start1
theorem witness_1 : WitnessClaimed_1 := ⟨start1.p0, start1.e0, start1.about1, start1.theMethod, start1.args0, start1.below0, start1.atStart⟩
end Jvm.Pilot.@@N@@
