import JvmDerived
import JvmDerived.Pilot.@@N@@Statement
import JvmDerived.Pilot.@@N@@Code
set_option linter.unusedVariables false
set_option linter.unusedSimpArgs false
namespace Jvm.RoadKit
open Sem ClassFile Op Lib Jvm.Stand Jvm.Free Jvm.LawKit
section OwnGo
variable {p : Program} {l : Launch} {e : Env} {R : Room} {s : State} {m : MethodId} {args : Array Value} {below : List Frame} {meth : Method} {c : Code} {T : State} {locs : List Loc} {cells slots : Nat} {Z : State} {a0 : Array Value} {h : Heap} {Q : Option Value → Heap → List Loc → Prop} {P : Option Value → State → Prop} {K N : Nat} {by_ : ByteArray} {pc pc' : Nat} {Ls : Array Slot} {rest : List Value}
/-- from S the run comes to its end, and P says what it leaves -/
def Go (p : Program) (e : Env) (below : List Frame) (P : Option Value → State → Prop) (S : State) : Prop :=
  ∃ U v, Steps p.tables e below S U ∧ U.status = .running ∧ Ended U below (.returned v) ∧ P v U
/-- an end within a frame: the narrow one, and the wide one (String constants may have been interned) -/
def Nr (s : State) (Q : Option Value → Heap → List Loc → Prop) (K N : Nat) (v : Option Value) (U : State) : Prop := ∃ L, Q v U.heap L ∧ FrameEnd s (.returned v) U L K N
def Wd (s : State) (Q : Option Value → Heap → List Loc → Prop) (K N : Nat) (v : Option Value) (U : State) : Prop := ∃ L, Q v U.heap L ∧ ReturnedEndW s (.returned v) U L K N
theorem Go.st {A B : State} (f : ∀ t, Steps p.tables e below A t → Steps p.tables e below B t) (k : Go p e below P A) : Go p e below P B := by
  obtain ⟨U, v, h1, h2⟩ := k
  exact ⟨U, v, f _ h1, h2⟩
theorem Go.via {A B : State} (f : Steps p.tables e below B A) (k : Go p e below P A) : Go p e below P B := by
  obtain ⟨U, v, h1, h2⟩ := k
  exact ⟨U, v, f.trans h1, h2⟩
/-- the contract of a body -/
abbrev Con (l : Launch) (Z : State) (y : MethodName) (bytes : ByteArray) (maxL : Nat) (ret : Option FieldType) (ws : List Jvm.Cond) (rm : Room) (as : Array Value) (h : Heap) (Q : Option Value → Heap → List Loc → Prop) : Prop :=
  MetFree l y (head1 (Jvm.Cond.code y bytes maxL ret :: ws) rm) (fun a U => a = as ∧ Z.Warmed39 U.vm ∧ U.heap = h) (fun _ _ _ _ _ => True) (fun _ U o U' => ∃ v L, o = .returned v ∧ Q v U'.heap L ∧ FrameEnd U o U' L rm.cells rm.slots)
theorem Con.of {y : MethodName} {bytes : ByteArray} {maxL : Nat} {ret : Option FieldType} {ws : List Jvm.Cond} {rm : Room} {as : Array Value} (hpn : plainFor y = true)
    (body : ∀ (p : Program) (e : Env) (s : State) (m : MethodId) (below : List Frame) (meth : Method) (c : Code) (s₁ : State), p.tables.exec = Jvm.exec → c.code = bytes → c.maxLocals = maxL → s.vm.findClass y.cls = some m.cls → meth.name = y.name → meth.sig.returnType = ret → meth.locks = false → Z.Warmed39 s.vm →
      Stand p l e rm s m as below meth c s₁ [] 0 0 → s₁.heap = h → Go p e below (Nr s Q rm.cells rm.slots) (s₁.setTop (entryFrame m as maxL))) : Con l Z y bytes maxL ret ws rm as h Q := by
  refine MetFree.of_bodySF hpn hisR ?_
  intro p e s m args below meth c s₁ Bd hml0 hP hK
  obtain ⟨rfl, hZ, hh⟩ := hP
  have hown := findClass_of_methodNamed Bd.named
  have hnm := (name_of_methodNamed Bd.named Bd.method).1
  have X0 := Stand.of_body Bd
  have e0 : s₁.heap = h := by rw [← hh, Bd.state]; rfl
  obtain ⟨U, v, h1, h2, h3, L, h4, h5⟩ := body p e s m below meth c s₁ Bd.exec Bd.bytes hml0 hown hnm Bd.returns Bd.notSynchronized hZ X0 e0
  exact ⟨U, _, h1, h2, h3, v, L, rfl, h4, h5⟩
theorem Go.cast {g g' : JFrame} (q : g = g') (k : Go p e below P (T.setTop g')) : Go p e below P (T.setTop g) := q ▸ k
/-- a body that only reads numbers: what it returns, and nothing moved -/
def PQ (w : Option Value) (h0 : Heap) (v : Option Value) (h : Heap) (L : List Loc) : Prop := v = w ∧ L = [] ∧ h = h0
theorem Go.end_ {w : Option Value} {A : State} (X : Stand p l e R s m args below meth c T locs cells slots) (hlk : meth.locks = false) (hr0 : meth.sig.returnType = none → w = none) (f : ∀ fs, (∀ (f : JFrame) (acts : List Action), f.method = m → f.locked = none → f.entered = [] → (doReturn e (T.setTop f) acts w).1 = T.setFrames fs) → Steps p.tables e below A (T.setFrames fs))
    (hc : cells ≤ K) (hn : slots ≤ N) (q : Q w T.heap locs) : Go p e below (Nr s Q K N) A := by
  obtain ⟨fs, hr, hrun, hended, hW, hsame⟩ := X.leave (v := w) hr0 hlk
  exact ⟨_, _, f fs hr, hrun, hended, locs, q, ⟨_, rfl⟩, hW, hsame.mono hc hn⟩
theorem Go.ret0 (X : Stand p l e R s m args below meth c T locs cells slots) (hx : p.tables.exec = Jvm.exec) (hby : c.code = by_) (hlk : meth.locks = false) (hret : meth.sig.returnType = none) (hd : decode by_ pc = .ok (.return_, 1)) (hc : cells ≤ K) (hn : slots ≤ N) (q : Q none T.heap locs) : Go p e below (Nr s Q K N) (T.setTop (mkF m pc Ls [])) :=
  Go.end_ X hlk (fun _ => rfl) (fun fs hr => X.returnOut hx hret (hb hby hd) hr) hc hn q
theorem Go.retV {w : Value} {t : FieldType} {i : Instr} (X : Stand p l e R s m args below meth c T locs cells slots) (hx : p.tables.exec = Jvm.exec) (hby : c.code = by_) (hlk : meth.locks = false) (hret : meth.sig.returnType = some t) (hnw : narrow t w = w)
    (hi : (i = .ireturn ∧ (t = .int ∨ t = .boolean ∨ t = .byte ∨ t = .char ∨ t = .short) ∧ ∃ z, w = .int z) ∨ (i = .lreturn ∧ t = .long ∧ ∃ z, w = .long z) ∨ (i = .dreturn ∧ t = .double ∧ ∃ z, w = .double z) ∨ (i = .freturn ∧ t = .float ∧ ∃ z, w = .float z) ∨ (i = .areturn ∧ t.isReference = true ∧ w.isRef = true))
    (hd : decode by_ pc = .ok (i, 1)) (hc : cells ≤ K) (hn : slots ≤ N) (q : Q (some w) T.heap locs) : Go p e below (Nr s Q K N) (T.setTop (mkF m pc Ls (w :: rest))) :=
  Go.end_ X hlk (fun h => by rw [hret] at h; cases h) (fun fs hr => retOut X hx hret hnw hi (hb hby hd) hr) hc hn q
theorem Go.retI {z : Int32} (X : Stand p l e R s m args below meth c T locs cells slots) (hx : p.tables.exec = Jvm.exec) (hby : c.code = by_) (hlk : meth.locks = false) (hret : meth.sig.returnType = some .int) (hd : decode by_ pc = .ok (.ireturn, 1)) (hc : cells ≤ K) (hn : slots ≤ N) (q : Q (some (.int z)) T.heap locs) : Go p e below (Nr s Q K N) (T.setTop (mkF m pc Ls (.int z :: rest))) :=
  Go.retV X hx hby hlk hret rfl (Or.inl ⟨rfl, Or.inl rfl, z, rfl⟩) hd hc hn q
theorem Go.retZ {z : Int32} {t : FieldType} (X : Stand p l e R s m args below meth c T locs cells slots) (hx : p.tables.exec = Jvm.exec) (hby : c.code = by_) (hlk : meth.locks = false) (hret : meth.sig.returnType = some t) (ht : t = .boolean ∨ t = .byte ∨ t = .char ∨ t = .short) (hd : decode by_ pc = .ok (.ireturn, 1)) (hc : cells ≤ K) (hn : slots ≤ N) (q : Q (some (.int (nar t z))) T.heap locs) : Go p e below (Nr s Q K N) (T.setTop (mkF m pc Ls (.int z :: rest))) :=
  Go.end_ X hlk (fun h => by rw [hret] at h; cases h) (fun fs hr => retN X hx hret ht (hb hby hd) hr) hc hn q
theorem Go.retJ {z : Int64} (X : Stand p l e R s m args below meth c T locs cells slots) (hx : p.tables.exec = Jvm.exec) (hby : c.code = by_) (hlk : meth.locks = false) (hret : meth.sig.returnType = some .long) (hd : decode by_ pc = .ok (.lreturn, 1)) (hc : cells ≤ K) (hn : slots ≤ N) (q : Q (some (.long z)) T.heap locs) : Go p e below (Nr s Q K N) (T.setTop (mkF m pc Ls (.long z :: rest))) :=
  Go.retV X hx hby hlk hret rfl (Or.inr (Or.inl ⟨rfl, rfl, z, rfl⟩)) hd hc hn q
theorem Go.retA {w : Value} {t : FieldType} (X : Stand p l e R s m args below meth c T locs cells slots) (hx : p.tables.exec = Jvm.exec) (hby : c.code = by_) (hlk : meth.locks = false) (hret : meth.sig.returnType = some t) (hnw : narrow t w = w) (ht : t.isReference = true) (hw : w.isRef = true) (hd : decode by_ pc = .ok (.areturn, 1)) (hc : cells ≤ K) (hn : slots ≤ N) (q : Q (some w) T.heap locs) : Go p e below (Nr s Q K N) (T.setTop (mkF m pc Ls (w :: rest))) :=
  Go.retV X hx hby hlk hret hnw (Or.inr (Or.inr (Or.inr (Or.inr ⟨rfl, ht, hw⟩)))) hd hc hn q
def icP : ClassFile.Cond → Int32 → Int32 → Prop
  | .eq, x, y => x = y
  | .ne, x, y => x ≠ y
  | .lt, x, y => x < y
  | .ge, x, y => y ≤ x
  | .gt, x, y => y < x
  | .le, x, y => x ≤ y
theorem icP_iff (cd : ClassFile.Cond) (x y : Int32) : if_icmp.holds cd x y = true ↔ icP cd x y := by cases cd <;> simp [if_icmp.holds, icP]
theorem icP_not {cd : ClassFile.Cond} {x y : Int32} (q : ¬ icP cd x y) : if_icmp.holds cd x y = false := by
  cases hq : if_icmp.holds cd x y
  · rfl
  · exact absurd ((icP_iff cd x y).mp hq) q

theorem Go.iadd {x y : Int32} (X : Stand p l e R s m args below meth c T locs cells slots) (hx : p.tables.exec = Jvm.exec) (hby : c.code = by_) (hd : decode by_ pc = .ok (.iadd, 1)) (hp : pc + 1 = pc') (k : Go p e below P (T.setTop (mkF m pc' Ls (.int (x + y) :: rest)))) : Go p e below P (T.setTop (mkF m pc Ls (.int y :: .int x :: rest))) := by
  subst hp; exact Go.st (fun t k => XS.iadd X.here hx rfl (hb hby hd) rfl k) k
theorem Go.isub {x y : Int32} (X : Stand p l e R s m args below meth c T locs cells slots) (hx : p.tables.exec = Jvm.exec) (hby : c.code = by_) (hd : decode by_ pc = .ok (.isub, 1)) (hp : pc + 1 = pc') (k : Go p e below P (T.setTop (mkF m pc' Ls (.int (x - y) :: rest)))) : Go p e below P (T.setTop (mkF m pc Ls (.int y :: .int x :: rest))) := by
  subst hp; exact Go.st (fun t k => XS.isub X.here hx rfl (hb hby hd) rfl k) k
theorem Go.imul {x y : Int32} (X : Stand p l e R s m args below meth c T locs cells slots) (hx : p.tables.exec = Jvm.exec) (hby : c.code = by_) (hd : decode by_ pc = .ok (.imul, 1)) (hp : pc + 1 = pc') (k : Go p e below P (T.setTop (mkF m pc' Ls (.int (x * y) :: rest)))) : Go p e below P (T.setTop (mkF m pc Ls (.int y :: .int x :: rest))) := by
  subst hp; exact Go.st (fun t k => XS.imul X.here hx rfl (hb hby hd) rfl k) k
theorem Go.iand {x y : Int32} (X : Stand p l e R s m args below meth c T locs cells slots) (hx : p.tables.exec = Jvm.exec) (hby : c.code = by_) (hd : decode by_ pc = .ok (.iand, 1)) (hp : pc + 1 = pc') (k : Go p e below P (T.setTop (mkF m pc' Ls (.int (x &&& y) :: rest)))) : Go p e below P (T.setTop (mkF m pc Ls (.int y :: .int x :: rest))) := by
  subst hp; exact Go.st (fun t k => XS.iand X.here hx rfl (hb hby hd) rfl k) k
theorem Go.ior {x y : Int32} (X : Stand p l e R s m args below meth c T locs cells slots) (hx : p.tables.exec = Jvm.exec) (hby : c.code = by_) (hd : decode by_ pc = .ok (.ior, 1)) (hp : pc + 1 = pc') (k : Go p e below P (T.setTop (mkF m pc' Ls (.int (x ||| y) :: rest)))) : Go p e below P (T.setTop (mkF m pc Ls (.int y :: .int x :: rest))) := by
  subst hp; exact Go.st (fun t k => XS.ior X.here hx rfl (hb hby hd) rfl k) k
theorem Go.ixor {x y : Int32} (X : Stand p l e R s m args below meth c T locs cells slots) (hx : p.tables.exec = Jvm.exec) (hby : c.code = by_) (hd : decode by_ pc = .ok (.ixor, 1)) (hp : pc + 1 = pc') (k : Go p e below P (T.setTop (mkF m pc' Ls (.int (x ^^^ y) :: rest)))) : Go p e below P (T.setTop (mkF m pc Ls (.int y :: .int x :: rest))) := by
  subst hp; exact Go.st (fun t k => XS.ixor X.here hx rfl (hb hby hd) rfl k) k
theorem Go.ladd {x y : Int64} (X : Stand p l e R s m args below meth c T locs cells slots) (hx : p.tables.exec = Jvm.exec) (hby : c.code = by_) (hd : decode by_ pc = .ok (.ladd, 1)) (hp : pc + 1 = pc') (k : Go p e below P (T.setTop (mkF m pc' Ls (.long (x + y) :: rest)))) : Go p e below P (T.setTop (mkF m pc Ls (.long y :: .long x :: rest))) := by
  subst hp; exact Go.st (fun t k => XS.ladd X.here hx rfl (hb hby hd) rfl k) k
theorem Go.lsub {x y : Int64} (X : Stand p l e R s m args below meth c T locs cells slots) (hx : p.tables.exec = Jvm.exec) (hby : c.code = by_) (hd : decode by_ pc = .ok (.lsub, 1)) (hp : pc + 1 = pc') (k : Go p e below P (T.setTop (mkF m pc' Ls (.long (x - y) :: rest)))) : Go p e below P (T.setTop (mkF m pc Ls (.long y :: .long x :: rest))) := by
  subst hp; exact Go.st (fun t k => XS.lsub X.here hx rfl (hb hby hd) rfl k) k
theorem Go.lmul {x y : Int64} (X : Stand p l e R s m args below meth c T locs cells slots) (hx : p.tables.exec = Jvm.exec) (hby : c.code = by_) (hd : decode by_ pc = .ok (.lmul, 1)) (hp : pc + 1 = pc') (k : Go p e below P (T.setTop (mkF m pc' Ls (.long (x * y) :: rest)))) : Go p e below P (T.setTop (mkF m pc Ls (.long y :: .long x :: rest))) := by
  subst hp; exact Go.st (fun t k => XS.lmul X.here hx rfl (hb hby hd) rfl k) k
theorem Go.land {x y : Int64} (X : Stand p l e R s m args below meth c T locs cells slots) (hx : p.tables.exec = Jvm.exec) (hby : c.code = by_) (hd : decode by_ pc = .ok (.land, 1)) (hp : pc + 1 = pc') (k : Go p e below P (T.setTop (mkF m pc' Ls (.long (x &&& y) :: rest)))) : Go p e below P (T.setTop (mkF m pc Ls (.long y :: .long x :: rest))) := by
  subst hp; exact Go.st (fun t k => XS.land X.here hx rfl (hb hby hd) rfl k) k
theorem Go.lor {x y : Int64} (X : Stand p l e R s m args below meth c T locs cells slots) (hx : p.tables.exec = Jvm.exec) (hby : c.code = by_) (hd : decode by_ pc = .ok (.lor, 1)) (hp : pc + 1 = pc') (k : Go p e below P (T.setTop (mkF m pc' Ls (.long (x ||| y) :: rest)))) : Go p e below P (T.setTop (mkF m pc Ls (.long y :: .long x :: rest))) := by
  subst hp; exact Go.st (fun t k => XS.lor X.here hx rfl (hb hby hd) rfl k) k
theorem Go.lxor {x y : Int64} (X : Stand p l e R s m args below meth c T locs cells slots) (hx : p.tables.exec = Jvm.exec) (hby : c.code = by_) (hd : decode by_ pc = .ok (.lxor, 1)) (hp : pc + 1 = pc') (k : Go p e below P (T.setTop (mkF m pc' Ls (.long (x ^^^ y) :: rest)))) : Go p e below P (T.setTop (mkF m pc Ls (.long y :: .long x :: rest))) := by
  subst hp; exact Go.st (fun t k => XS.lxor X.here hx rfl (hb hby hd) rfl k) k
theorem Go.ishl {x y : Int32} (X : Stand p l e R s m args below meth c T locs cells slots) (hx : p.tables.exec = Jvm.exec) (hby : c.code = by_) (hd : decode by_ pc = .ok (.ishl, 1)) (hp : pc + 1 = pc') (k : Go p e below P (T.setTop (mkF m pc' Ls (.int (x <<< (y &&& 31)) :: rest)))) : Go p e below P (T.setTop (mkF m pc Ls (.int y :: .int x :: rest))) := by
  subst hp; exact Go.st (fun t k => XS.ishl X.here hx rfl (hb hby hd) rfl k) k
theorem Go.ishr {x y : Int32} (X : Stand p l e R s m args below meth c T locs cells slots) (hx : p.tables.exec = Jvm.exec) (hby : c.code = by_) (hd : decode by_ pc = .ok (.ishr, 1)) (hp : pc + 1 = pc') (k : Go p e below P (T.setTop (mkF m pc' Ls (.int (x >>> (y &&& 31)) :: rest)))) : Go p e below P (T.setTop (mkF m pc Ls (.int y :: .int x :: rest))) := by
  subst hp; exact Go.st (fun t k => XS.ishr X.here hx rfl (hb hby hd) rfl k) k
theorem Go.iushr {x y : Int32} (X : Stand p l e R s m args below meth c T locs cells slots) (hx : p.tables.exec = Jvm.exec) (hby : c.code = by_) (hd : decode by_ pc = .ok (.iushr, 1)) (hp : pc + 1 = pc') (k : Go p e below P (T.setTop (mkF m pc' Ls (.int ((x.toUInt32 >>> (y &&& 31).toUInt32).toInt32) :: rest)))) : Go p e below P (T.setTop (mkF m pc Ls (.int y :: .int x :: rest))) := by
  subst hp; exact Go.st (fun t k => XS.iushr X.here hx rfl (hb hby hd) rfl k) k
theorem Go.lshl {x : Int64} {y : Int32} (X : Stand p l e R s m args below meth c T locs cells slots) (hx : p.tables.exec = Jvm.exec) (hby : c.code = by_) (hd : decode by_ pc = .ok (.lshl, 1)) (hp : pc + 1 = pc') (k : Go p e below P (T.setTop (mkF m pc' Ls (.long (x <<< (y &&& 0x3f).toInt64) :: rest)))) : Go p e below P (T.setTop (mkF m pc Ls (.int y :: .long x :: rest))) := by
  subst hp; exact Go.st (fun t k => XS.lshl X.here hx rfl (hb hby hd) rfl k) k
theorem Go.lshr {x : Int64} {y : Int32} (X : Stand p l e R s m args below meth c T locs cells slots) (hx : p.tables.exec = Jvm.exec) (hby : c.code = by_) (hd : decode by_ pc = .ok (.lshr, 1)) (hp : pc + 1 = pc') (k : Go p e below P (T.setTop (mkF m pc' Ls (.long (x >>> (y &&& 0x3f).toInt64) :: rest)))) : Go p e below P (T.setTop (mkF m pc Ls (.int y :: .long x :: rest))) := by
  subst hp; exact Go.st (fun t k => XS.lshr X.here hx rfl (hb hby hd) rfl k) k
theorem Go.lushr {x : Int64} {y : Int32} (X : Stand p l e R s m args below meth c T locs cells slots) (hx : p.tables.exec = Jvm.exec) (hby : c.code = by_) (hd : decode by_ pc = .ok (.lushr, 1)) (hp : pc + 1 = pc') (k : Go p e below P (T.setTop (mkF m pc' Ls (.long ((x.toUInt64 >>> (y &&& 0x3f).toInt64.toUInt64).toInt64) :: rest)))) : Go p e below P (T.setTop (mkF m pc Ls (.int y :: .long x :: rest))) := by
  subst hp; exact Go.st (fun t k => XS.lushr X.here hx rfl (hb hby hd) rfl k) k
theorem Go.ineg {x : Int32} (X : Stand p l e R s m args below meth c T locs cells slots) (hx : p.tables.exec = Jvm.exec) (hby : c.code = by_) (hd : decode by_ pc = .ok (.ineg, 1)) (hp : pc + 1 = pc') (k : Go p e below P (T.setTop (mkF m pc' Ls (.int (-x) :: rest)))) : Go p e below P (T.setTop (mkF m pc Ls (.int x :: rest))) := by
  subst hp; exact Go.st (fun t k => XS.ineg X.here hx rfl (hb hby hd) rfl k) k
theorem Go.lneg {x : Int64} (X : Stand p l e R s m args below meth c T locs cells slots) (hx : p.tables.exec = Jvm.exec) (hby : c.code = by_) (hd : decode by_ pc = .ok (.lneg, 1)) (hp : pc + 1 = pc') (k : Go p e below P (T.setTop (mkF m pc' Ls (.long (-x) :: rest)))) : Go p e below P (T.setTop (mkF m pc Ls (.long x :: rest))) := by
  subst hp; exact Go.st (fun t k => XS.lneg X.here hx rfl (hb hby hd) rfl k) k
theorem Go.i2b {x : Int32} (X : Stand p l e R s m args below meth c T locs cells slots) (hx : p.tables.exec = Jvm.exec) (hby : c.code = by_) (hd : decode by_ pc = .ok (.i2b, 1)) (hp : pc + 1 = pc') (k : Go p e below P (T.setTop (mkF m pc' Ls (.int (x.toInt8.toInt32) :: rest)))) : Go p e below P (T.setTop (mkF m pc Ls (.int x :: rest))) := by
  subst hp; exact Go.st (fun t k => XS.i2b X.here hx rfl (hb hby hd) rfl k) k
theorem Go.i2c {x : Int32} (X : Stand p l e R s m args below meth c T locs cells slots) (hx : p.tables.exec = Jvm.exec) (hby : c.code = by_) (hd : decode by_ pc = .ok (.i2c, 1)) (hp : pc + 1 = pc') (k : Go p e below P (T.setTop (mkF m pc' Ls (.int (x.toUInt32.toUInt16.toUInt32.toInt32) :: rest)))) : Go p e below P (T.setTop (mkF m pc Ls (.int x :: rest))) := by
  subst hp; exact Go.st (fun t k => XS.i2c X.here hx rfl (hb hby hd) rfl k) k
theorem Go.i2s {x : Int32} (X : Stand p l e R s m args below meth c T locs cells slots) (hx : p.tables.exec = Jvm.exec) (hby : c.code = by_) (hd : decode by_ pc = .ok (.i2s, 1)) (hp : pc + 1 = pc') (k : Go p e below P (T.setTop (mkF m pc' Ls (.int (x.toInt16.toInt32) :: rest)))) : Go p e below P (T.setTop (mkF m pc Ls (.int x :: rest))) := by
  subst hp; exact Go.st (fun t k => XS.i2s X.here hx rfl (hb hby hd) rfl k) k
theorem Go.i2l {x : Int32} (X : Stand p l e R s m args below meth c T locs cells slots) (hx : p.tables.exec = Jvm.exec) (hby : c.code = by_) (hd : decode by_ pc = .ok (.i2l, 1)) (hp : pc + 1 = pc') (k : Go p e below P (T.setTop (mkF m pc' Ls (.long (x.toInt64) :: rest)))) : Go p e below P (T.setTop (mkF m pc Ls (.int x :: rest))) := by
  subst hp; exact Go.st (fun t k => XS.i2l X.here hx rfl (hb hby hd) rfl k) k
theorem Go.l2i {x : Int64} (X : Stand p l e R s m args below meth c T locs cells slots) (hx : p.tables.exec = Jvm.exec) (hby : c.code = by_) (hd : decode by_ pc = .ok (.l2i, 1)) (hp : pc + 1 = pc') (k : Go p e below P (T.setTop (mkF m pc' Ls (.int (x.toInt32) :: rest)))) : Go p e below P (T.setTop (mkF m pc Ls (.long x :: rest))) := by
  subst hp; exact Go.st (fun t k => XS.l2i X.here hx rfl (hb hby hd) rfl k) k
theorem Go.lcmp {x y : Int64} (X : Stand p l e R s m args below meth c T locs cells slots) (hx : p.tables.exec = Jvm.exec) (hby : c.code = by_) (hd : decode by_ pc = .ok (.lcmp, 1)) (hp : pc + 1 = pc') (k : Go p e below P (T.setTop (mkF m pc' Ls (.int (lcmpW x y) :: rest)))) : Go p e below P (T.setTop (mkF m pc Ls (.long y :: .long x :: rest))) := by
  subst hp; exact Go.st (fun t k => XS.lcmp X.here hx rfl (hb hby hd) rfl k) k
theorem Go.idiv {x y : Int32} (X : Stand p l e R s m args below meth c T locs cells slots) (hx : p.tables.exec = Jvm.exec) (hby : c.code = by_) (hd : decode by_ pc = .ok (.idiv, 1)) (hp : pc + 1 = pc') (hy : y ≠ 0) (k : Go p e below P (T.setTop (mkF m pc' Ls (.int (x / y) :: rest)))) : Go p e below P (T.setTop (mkF m pc Ls (.int y :: .int x :: rest))) := by
  subst hp; exact Go.st (fun t k => XS.idiv X.here hx rfl (hb hby hd) rfl hy k) k
theorem Go.irem {x y : Int32} (X : Stand p l e R s m args below meth c T locs cells slots) (hx : p.tables.exec = Jvm.exec) (hby : c.code = by_) (hd : decode by_ pc = .ok (.irem, 1)) (hp : pc + 1 = pc') (hy : y ≠ 0) (k : Go p e below P (T.setTop (mkF m pc' Ls (.int (x % y) :: rest)))) : Go p e below P (T.setTop (mkF m pc Ls (.int y :: .int x :: rest))) := by
  subst hp; exact Go.st (fun t k => iremM X hx rfl (hb hby hd) rfl hy k) k
theorem Go.ldiv {x y : Int64} (X : Stand p l e R s m args below meth c T locs cells slots) (hx : p.tables.exec = Jvm.exec) (hby : c.code = by_) (hd : decode by_ pc = .ok (.ldiv, 1)) (hp : pc + 1 = pc') (hy : y ≠ 0) (k : Go p e below P (T.setTop (mkF m pc' Ls (.long (x / y) :: rest)))) : Go p e below P (T.setTop (mkF m pc Ls (.long y :: .long x :: rest))) := by
  subst hp; exact Go.st (fun t k => XS.ldiv X.here hx rfl (hb hby hd) rfl hy k) k
theorem Go.lrem {x y : Int64} (X : Stand p l e R s m args below meth c T locs cells slots) (hx : p.tables.exec = Jvm.exec) (hby : c.code = by_) (hd : decode by_ pc = .ok (.lrem, 1)) (hp : pc + 1 = pc') (hy : y ≠ 0) (k : Go p e below P (T.setTop (mkF m pc' Ls (.long (x - (x / y) * y) :: rest)))) : Go p e below P (T.setTop (mkF m pc Ls (.long y :: .long x :: rest))) := by
  subst hp; exact Go.st (fun t k => XS.lrem X.here hx rfl (hb hby hd) rfl hy k) k
theorem Go.dup {w : Value} (X : Stand p l e R s m args below meth c T locs cells slots) (hx : p.tables.exec = Jvm.exec) (hby : c.code = by_) (hd : decode by_ pc = .ok (.dup, 1)) (hp : pc + 1 = pc') (hc : w.category = 1) (k : Go p e below P (T.setTop (mkF m pc' Ls (w :: w :: rest)))) : Go p e below P (T.setTop (mkF m pc Ls (w :: rest))) := by
  subst hp; exact Go.st (fun t k => XS.dup X.here hx rfl (hb hby hd) rfl hc k) k
theorem Go.pop {w : Value} (X : Stand p l e R s m args below meth c T locs cells slots) (hx : p.tables.exec = Jvm.exec) (hby : c.code = by_) (hd : decode by_ pc = .ok (.pop, 1)) (hp : pc + 1 = pc') (hc : w.category = 1) (k : Go p e below P (T.setTop (mkF m pc' Ls rest))) : Go p e below P (T.setTop (mkF m pc Ls (w :: rest))) := by
  subst hp; exact Go.st (fun t k => XS.pop X.here hx rfl (hb hby hd) rfl hc k) k
theorem Go.dupX1 {w u : Value} (X : Stand p l e R s m args below meth c T locs cells slots) (hx : p.tables.exec = Jvm.exec) (hby : c.code = by_) (hd : decode by_ pc = .ok (.dup_x1, 1)) (hp : pc + 1 = pc') (hc : w.category = 1) (hc2 : u.category = 1) (k : Go p e below P (T.setTop (mkF m pc' Ls (w :: u :: w :: rest)))) : Go p e below P (T.setTop (mkF m pc Ls (w :: u :: rest))) := by
  subst hp; exact Go.st (fun t k => XS.dupX1 X.here hx rfl (hb hby hd) rfl hc hc2 k) k
theorem Go.dup2 {w u : Value} (X : Stand p l e R s m args below meth c T locs cells slots) (hx : p.tables.exec = Jvm.exec) (hby : c.code = by_) (hd : decode by_ pc = .ok (.dup2, 1)) (hp : pc + 1 = pc') (hc : w.category = 1) (hc2 : u.category = 1) (k : Go p e below P (T.setTop (mkF m pc' Ls (w :: u :: w :: u :: rest)))) : Go p e below P (T.setTop (mkF m pc Ls (w :: u :: rest))) := by
  subst hp; exact Go.st (fun t k => XT.dup2 X.here hx rfl (hb hby hd) rfl hc hc2 k) k
theorem Go.iconst {i : Int} {v : Int32} (X : Stand p l e R s m args below meth c T locs cells slots) (hx : p.tables.exec = Jvm.exec) (hby : c.code = by_) (hd : decode by_ pc = .ok (.iconst i, 1)) (hp : pc + 1 = pc') (hv : Int32.ofInt i = v) (k : Go p e below P (T.setTop (mkF m pc' Ls (.int v :: rest)))) : Go p e below P (T.setTop (mkF m pc Ls rest)) := by
  subst hp; exact Go.st (fun t k => XS.iconst X.here hx rfl (hb hby hd) (by rw [hv]; exact k)) k
theorem Go.bipush {i : Int} {v : Int32} (X : Stand p l e R s m args below meth c T locs cells slots) (hx : p.tables.exec = Jvm.exec) (hby : c.code = by_) (hd : decode by_ pc = .ok (.bipush i, 2)) (hp : pc + 2 = pc') (hv : (Int8.ofInt i).toInt32 = v) (k : Go p e below P (T.setTop (mkF m pc' Ls (.int v :: rest)))) : Go p e below P (T.setTop (mkF m pc Ls rest)) := by
  subst hp; exact Go.st (fun t k => XS.bipush X.here hx rfl (hb hby hd) (by rw [hv]; exact k)) k
theorem Go.sipush {i : Int} {v : Int32} (X : Stand p l e R s m args below meth c T locs cells slots) (hx : p.tables.exec = Jvm.exec) (hby : c.code = by_) (hd : decode by_ pc = .ok (.sipush i, 3)) (hp : pc + 3 = pc') (hv : (Int16.ofInt i).toInt32 = v) (k : Go p e below P (T.setTop (mkF m pc' Ls (.int v :: rest)))) : Go p e below P (T.setTop (mkF m pc Ls rest)) := by
  subst hp; exact Go.st (fun t k => XS.sipush X.here hx rfl (hb hby hd) (by rw [hv]; exact k)) k
theorem Go.lconst {i : Fin 2} {v : Int64} (X : Stand p l e R s m args below meth c T locs cells slots) (hx : p.tables.exec = Jvm.exec) (hby : c.code = by_) (hd : decode by_ pc = .ok (.lconst i, 1)) (hp : pc + 1 = pc') (hv : Int64.ofNat i = v) (k : Go p e below P (T.setTop (mkF m pc' Ls (.long v :: rest)))) : Go p e below P (T.setTop (mkF m pc Ls rest)) := by
  subst hp; exact Go.st (fun t k => XS.lconst X.here hx rfl (hb hby hd) (by rw [hv]; exact k)) k
theorem Go.aconstNull  (X : Stand p l e R s m args below meth c T locs cells slots) (hx : p.tables.exec = Jvm.exec) (hby : c.code = by_) (hd : decode by_ pc = .ok (.aconst_null, 1)) (hp : pc + 1 = pc') (k : Go p e below P (T.setTop (mkF m pc' Ls (.null :: rest)))) : Go p e below P (T.setTop (mkF m pc Ls rest)) := by
  subst hp; exact Go.st (fun t k => XS.aconstNull X.here hx rfl (hb hby hd) k) k
theorem Go.iloadN {i : Fin 4} {v : Int32} (X : Stand p l e R s m args below meth c T locs cells slots) (hx : p.tables.exec = Jvm.exec) (hby : c.code = by_) (hd : decode by_ pc = .ok (.iload_n i, 1)) (hp : pc + 1 = pc') (hl : Ls[i.val]? = some (.val (.int v))) (k : Go p e below P (T.setTop (mkF m pc' Ls (.int v :: rest)))) : Go p e below P (T.setTop (mkF m pc Ls rest)) := by
  subst hp; exact Go.st (fun t k => XS.iloadN X.here hx rfl (hb hby hd) hl k) k
theorem Go.iload {i : Nat} {v : Int32} (X : Stand p l e R s m args below meth c T locs cells slots) (hx : p.tables.exec = Jvm.exec) (hby : c.code = by_) (hd : decode by_ pc = .ok (.iload i, 2)) (hp : pc + 2 = pc') (hl : Ls[i]? = some (.val (.int v))) (k : Go p e below P (T.setTop (mkF m pc' Ls (.int v :: rest)))) : Go p e below P (T.setTop (mkF m pc Ls rest)) := by
  subst hp; exact Go.st (fun t k => XS.iload X.here hx rfl (hb hby hd) hl k) k
theorem Go.lloadN {i : Fin 4} {v : Int64} (X : Stand p l e R s m args below meth c T locs cells slots) (hx : p.tables.exec = Jvm.exec) (hby : c.code = by_) (hd : decode by_ pc = .ok (.lload_n i, 1)) (hp : pc + 1 = pc') (hl : Ls[i.val]? = some (.val (.long v))) (k : Go p e below P (T.setTop (mkF m pc' Ls (.long v :: rest)))) : Go p e below P (T.setTop (mkF m pc Ls rest)) := by
  subst hp; exact Go.st (fun t k => XS.lloadN X.here hx rfl (hb hby hd) hl k) k
theorem Go.lload {i : Nat} {v : Int64} (X : Stand p l e R s m args below meth c T locs cells slots) (hx : p.tables.exec = Jvm.exec) (hby : c.code = by_) (hd : decode by_ pc = .ok (.lload i, 2)) (hp : pc + 2 = pc') (hl : Ls[i]? = some (.val (.long v))) (k : Go p e below P (T.setTop (mkF m pc' Ls (.long v :: rest)))) : Go p e below P (T.setTop (mkF m pc Ls rest)) := by
  subst hp; exact Go.st (fun t k => XS.lload X.here hx rfl (hb hby hd) hl k) k
theorem Go.aloadN {i : Fin 4} {v : Value} (X : Stand p l e R s m args below meth c T locs cells slots) (hx : p.tables.exec = Jvm.exec) (hby : c.code = by_) (hd : decode by_ pc = .ok (.aload_n i, 1)) (hp : pc + 1 = pc') (hl : Ls[i.val]? = some (.val v)) (hv : v.isRef = true) (k : Go p e below P (T.setTop (mkF m pc' Ls (v :: rest)))) : Go p e below P (T.setTop (mkF m pc Ls rest)) := by
  subst hp; exact Go.st (fun t k => XS.aloadN X.here hx rfl (hb hby hd) hl hv k) k
theorem Go.aload {i : Nat} {v : Value} (X : Stand p l e R s m args below meth c T locs cells slots) (hx : p.tables.exec = Jvm.exec) (hby : c.code = by_) (hd : decode by_ pc = .ok (.aload i, 2)) (hp : pc + 2 = pc') (hl : Ls[i]? = some (.val v)) (hv : v.isRef = true) (k : Go p e below P (T.setTop (mkF m pc' Ls (v :: rest)))) : Go p e below P (T.setTop (mkF m pc Ls rest)) := by
  subst hp; exact Go.st (fun t k => XS.aload X.here hx rfl (hb hby hd) hl hv k) k
theorem Go.ldcI {own : String} {index : Nat} {v : Int32} (X : Stand p l e R s m args below meth c T locs cells slots) (hx : p.tables.exec = Jvm.exec) (hby : c.code = by_) (hd : decode by_ pc = .ok (.ldc index, 2)) (hp : pc + 2 = pc') (hown : s.vm.findClass own = some m.cls) (hk : (Jvm.Cond.constant own index v).before args s = true) (k : Go p e below P (T.setTop (mkF m pc' Ls (.int v :: rest)))) : Go p e below P (T.setTop (mkF m pc Ls rest)) := by
  subst hp; exact Go.st (fun t k => X.ldcI hx hown hk rfl (hb hby hd) k) k
theorem Go.ldcWI {own : String} {index : Nat} {v : Int32} (X : Stand p l e R s m args below meth c T locs cells slots) (hx : p.tables.exec = Jvm.exec) (hby : c.code = by_) (hd : decode by_ pc = .ok (.ldc_w index, 3)) (hp : pc + 3 = pc') (hown : s.vm.findClass own = some m.cls) (hk : (Jvm.Cond.constant own index v).before args s = true) (k : Go p e below P (T.setTop (mkF m pc' Ls (.int v :: rest)))) : Go p e below P (T.setTop (mkF m pc Ls rest)) := by
  subst hp; exact Go.st (fun t k => X.ldcWI hx hown hk rfl (hb hby hd) k) k
theorem Go.ldc2J {own : String} {index : Nat} {v : Int64} (X : Stand p l e R s m args below meth c T locs cells slots) (hx : p.tables.exec = Jvm.exec) (hby : c.code = by_) (hd : decode by_ pc = .ok (.ldc2_w index, 3)) (hp : pc + 3 = pc') (hown : s.vm.findClass own = some m.cls) (hk : (Jvm.Cond.constantLong own index v).before args s = true) (k : Go p e below P (T.setTop (mkF m pc' Ls (.long v :: rest)))) : Go p e below P (T.setTop (mkF m pc Ls rest)) := by
  subst hp; exact Go.st (fun t k => X.ldc2J hx hown hk rfl (hb hby hd) k) k
theorem Go.istoreN {i : Fin 4} {v : Int32} {Ls' : Array Slot} (X : Stand p l e R s m args below meth c T locs cells slots) (hx : p.tables.exec = Jvm.exec) (hby : c.code = by_) (hd : decode by_ pc = .ok (.istore_n i, 1)) (hp : pc + 1 = pc') (hl : storeLocals Ls i.val (.int v) = some Ls') (k : Go p e below P (T.setTop (mkF m pc' Ls' rest))) : Go p e below P (T.setTop (mkF m pc Ls (.int v :: rest))) := by
  subst hp; exact Go.st (fun t k => XS.istoreN X.here hx rfl (hb hby hd) rfl hl k) k
theorem Go.istore {i : Nat} {v : Int32} {Ls' : Array Slot} (X : Stand p l e R s m args below meth c T locs cells slots) (hx : p.tables.exec = Jvm.exec) (hby : c.code = by_) (hd : decode by_ pc = .ok (.istore i, 2)) (hp : pc + 2 = pc') (hl : storeLocals Ls i (.int v) = some Ls') (k : Go p e below P (T.setTop (mkF m pc' Ls' rest))) : Go p e below P (T.setTop (mkF m pc Ls (.int v :: rest))) := by
  subst hp; exact Go.st (fun t k => XS.istore X.here hx rfl (hb hby hd) rfl hl k) k
theorem Go.lstoreN {i : Fin 4} {v : Int64} {Ls' : Array Slot} (X : Stand p l e R s m args below meth c T locs cells slots) (hx : p.tables.exec = Jvm.exec) (hby : c.code = by_) (hd : decode by_ pc = .ok (.lstore_n i, 1)) (hp : pc + 1 = pc') (hl : storeLocals Ls i.val (.long v) = some Ls') (k : Go p e below P (T.setTop (mkF m pc' Ls' rest))) : Go p e below P (T.setTop (mkF m pc Ls (.long v :: rest))) := by
  subst hp; exact Go.st (fun t k => XS.lstoreN X.here hx rfl (hb hby hd) rfl hl k) k
theorem Go.lstore {i : Nat} {v : Int64} {Ls' : Array Slot} (X : Stand p l e R s m args below meth c T locs cells slots) (hx : p.tables.exec = Jvm.exec) (hby : c.code = by_) (hd : decode by_ pc = .ok (.lstore i, 2)) (hp : pc + 2 = pc') (hl : storeLocals Ls i (.long v) = some Ls') (k : Go p e below P (T.setTop (mkF m pc' Ls' rest))) : Go p e below P (T.setTop (mkF m pc Ls (.long v :: rest))) := by
  subst hp; exact Go.st (fun t k => XS.lstore X.here hx rfl (hb hby hd) rfl hl k) k
theorem Go.astoreN {i : Fin 4} {v : Value} {Ls' : Array Slot} (X : Stand p l e R s m args below meth c T locs cells slots) (hx : p.tables.exec = Jvm.exec) (hby : c.code = by_) (hd : decode by_ pc = .ok (.astore_n i, 1)) (hp : pc + 1 = pc') (hv : v.isRef = true) (hl : storeLocals Ls i.val v = some Ls') (k : Go p e below P (T.setTop (mkF m pc' Ls' rest))) : Go p e below P (T.setTop (mkF m pc Ls (v :: rest))) := by
  subst hp; exact Go.st (fun t k => XS.astoreN X.here hx rfl (hb hby hd) rfl hv hl k) k
theorem Go.astore {i : Nat} {v : Value} {Ls' : Array Slot} (X : Stand p l e R s m args below meth c T locs cells slots) (hx : p.tables.exec = Jvm.exec) (hby : c.code = by_) (hd : decode by_ pc = .ok (.astore i, 2)) (hp : pc + 2 = pc') (hv : v.isRef = true) (hl : storeLocals Ls i v = some Ls') (k : Go p e below P (T.setTop (mkF m pc' Ls' rest))) : Go p e below P (T.setTop (mkF m pc Ls (v :: rest))) := by
  subst hp; exact Go.st (fun t k => XS.astore X.here hx rfl (hb hby hd) rfl hv hl k) k
theorem Go.iinc {i : Nat} {cst : Int} {v w : Int32} {Ls' : Array Slot} (X : Stand p l e R s m args below meth c T locs cells slots) (hx : p.tables.exec = Jvm.exec) (hby : c.code = by_) (hd : decode by_ pc = .ok (.iinc i cst, 3)) (hp : pc + 3 = pc') (hl : Ls[i]? = some (.val (.int v))) (hv : v + Int32.ofInt cst = w) (hl' : storeLocals Ls i (.int w) = some Ls') (k : Go p e below P (T.setTop (mkF m pc' Ls' rest))) : Go p e below P (T.setTop (mkF m pc Ls rest)) := by
  subst hp hv; exact Go.st (fun t k => XS.iinc X.here hx rfl (hb hby hd) hl hl' k) k
theorem Go.goto {o : Int} (X : Stand p l e R s m args below meth c T locs cells slots) (hx : p.tables.exec = Jvm.exec) (hby : c.code = by_) (hd : decode by_ pc = .ok (.goto o, 3)) (ho : 0 ≤ (pc : Int) + o) (hp : ((pc : Int) + o).toNat = pc') (k : Go p e below P (T.setTop (mkF m pc' Ls rest))) : Go p e below P (T.setTop (mkF m pc Ls rest)) :=
  Go.st (fun t k => XS.goto X.here hx rfl rfl (hb hby hd) ho hp k) k
theorem Go.icmpY {cd : ClassFile.Cond} {o : Int} {x y : Int32} (X : Stand p l e R s m args below meth c T locs cells slots) (hx : p.tables.exec = Jvm.exec) (hby : c.code = by_) (hd : decode by_ pc = .ok (.if_icmp cd o, 3)) (ho : 0 ≤ (pc : Int) + o) (hp : ((pc : Int) + o).toNat = pc') (q : icP cd x y) (k : Go p e below P (T.setTop (mkF m pc' Ls rest))) : Go p e below P (T.setTop (mkF m pc Ls (.int y :: .int x :: rest))) :=
  Go.st (fun t k => XS.icmpYes X.here hx rfl rfl (hb hby hd) rfl ((icP_iff cd x y).mpr q) ho hp k) k
theorem Go.icmpN {cd : ClassFile.Cond} {o : Int} {x y : Int32} (X : Stand p l e R s m args below meth c T locs cells slots) (hx : p.tables.exec = Jvm.exec) (hby : c.code = by_) (hd : decode by_ pc = .ok (.if_icmp cd o, 3)) (hp : pc + 3 = pc') (q : ¬ icP cd x y) (k : Go p e below P (T.setTop (mkF m pc' Ls rest))) : Go p e below P (T.setTop (mkF m pc Ls (.int y :: .int x :: rest))) := by
  subst hp; exact Go.st (fun t k => XS.icmpNo X.here hx rfl (hb hby hd) rfl (icP_not q) k) k
theorem Go.icmp {cd : ClassFile.Cond} {o : Int} {x y : Int32} {pn : Nat} (X : Stand p l e R s m args below meth c T locs cells slots) (hx : p.tables.exec = Jvm.exec) (hby : c.code = by_) (hd : decode by_ pc = .ok (.if_icmp cd o, 3)) (ho : 0 ≤ (pc : Int) + o) (hp : ((pc : Int) + o).toNat = pc') (hp2 : pc + 3 = pn) (k : icP cd x y → Go p e below P (T.setTop (mkF m pc' Ls rest))) (k2 : ¬ icP cd x y → Go p e below P (T.setTop (mkF m pn Ls rest))) : Go p e below P (T.setTop (mkF m pc Ls (.int y :: .int x :: rest))) := by
  by_cases q : icP cd x y
  · exact Go.icmpY X hx hby hd ho hp q (k q)
  · exact Go.icmpN X hx hby hd hp2 q (k2 q)
theorem Go.ifY {cd : ClassFile.Cond} {o : Int} {x : Int32} (X : Stand p l e R s m args below meth c T locs cells slots) (hx : p.tables.exec = Jvm.exec) (hby : c.code = by_) (hd : decode by_ pc = .ok (.ifCond cd o, 3)) (ho : 0 ≤ (pc : Int) + o) (hp : ((pc : Int) + o).toNat = pc') (q : icP cd x 0) (k : Go p e below P (T.setTop (mkF m pc' Ls rest))) : Go p e below P (T.setTop (mkF m pc Ls (.int x :: rest))) :=
  Go.st (fun t k => XS.ifYes X.here hx rfl rfl (hb hby hd) rfl (by rw [if0]; exact (icP_iff cd x 0).mpr q) ho hp k) k
theorem Go.ifN {cd : ClassFile.Cond} {o : Int} {x : Int32} (X : Stand p l e R s m args below meth c T locs cells slots) (hx : p.tables.exec = Jvm.exec) (hby : c.code = by_) (hd : decode by_ pc = .ok (.ifCond cd o, 3)) (hp : pc + 3 = pc') (q : ¬ icP cd x 0) (k : Go p e below P (T.setTop (mkF m pc' Ls rest))) : Go p e below P (T.setTop (mkF m pc Ls (.int x :: rest))) := by
  subst hp; exact Go.st (fun t k => XS.ifNo X.here hx rfl (hb hby hd) rfl (by rw [if0]; exact icP_not q) k) k
theorem Go.if_ {cd : ClassFile.Cond} {o : Int} {x : Int32} {pn : Nat} (X : Stand p l e R s m args below meth c T locs cells slots) (hx : p.tables.exec = Jvm.exec) (hby : c.code = by_) (hd : decode by_ pc = .ok (.ifCond cd o, 3)) (ho : 0 ≤ (pc : Int) + o) (hp : ((pc : Int) + o).toNat = pc') (hp2 : pc + 3 = pn) (k : icP cd x 0 → Go p e below P (T.setTop (mkF m pc' Ls rest))) (k2 : ¬ icP cd x 0 → Go p e below P (T.setTop (mkF m pn Ls rest))) : Go p e below P (T.setTop (mkF m pc Ls (.int x :: rest))) := by
  by_cases q : icP cd x 0
  · exact Go.ifY X hx hby hd ho hp q (k q)
  · exact Go.ifN X hx hby hd hp2 q (k2 q)
theorem Go.ifnullY {o : Int} (X : Stand p l e R s m args below meth c T locs cells slots) (hx : p.tables.exec = Jvm.exec) (hby : c.code = by_) (hd : decode by_ pc = .ok (.ifnull o, 3)) (ho : 0 ≤ (pc : Int) + o) (hp : ((pc : Int) + o).toNat = pc') (k : Go p e below P (T.setTop (mkF m pc' Ls rest))) : Go p e below P (T.setTop (mkF m pc Ls (.null :: rest))) :=
  Go.st (fun t k => XS.ifnullYes X.here hx rfl rfl (hb hby hd) rfl ho hp k) k
theorem Go.ifnullN {o : Int} {b : Addr} (X : Stand p l e R s m args below meth c T locs cells slots) (hx : p.tables.exec = Jvm.exec) (hby : c.code = by_) (hd : decode by_ pc = .ok (.ifnull o, 3)) (hp : pc + 3 = pc') (k : Go p e below P (T.setTop (mkF m pc' Ls rest))) : Go p e below P (T.setTop (mkF m pc Ls (.ref b :: rest))) := by
  subst hp; exact Go.st (fun t k => XS.ifnullNo X.here hx rfl (hb hby hd) rfl k) k
theorem Go.ifnonnullY {o : Int} {b : Addr} (X : Stand p l e R s m args below meth c T locs cells slots) (hx : p.tables.exec = Jvm.exec) (hby : c.code = by_) (hd : decode by_ pc = .ok (.ifnonnull o, 3)) (ho : 0 ≤ (pc : Int) + o) (hp : ((pc : Int) + o).toNat = pc') (k : Go p e below P (T.setTop (mkF m pc' Ls rest))) : Go p e below P (T.setTop (mkF m pc Ls (.ref b :: rest))) :=
  Go.st (fun t k => XS.ifnonnullYes X.here hx rfl rfl (hb hby hd) rfl ho hp k) k
theorem Go.ifnonnullN {o : Int} (X : Stand p l e R s m args below meth c T locs cells slots) (hx : p.tables.exec = Jvm.exec) (hby : c.code = by_) (hd : decode by_ pc = .ok (.ifnonnull o, 3)) (hp : pc + 3 = pc') (k : Go p e below P (T.setTop (mkF m pc' Ls rest))) : Go p e below P (T.setTop (mkF m pc Ls (.null :: rest))) := by
  subst hp; exact Go.st (fun t k => XS.ifnonnullNo X.here hx rfl (hb hby hd) rfl k) k
theorem Go.acmpEq {o : Int} {b : Addr} (X : Stand p l e R s m args below meth c T locs cells slots) (hx : p.tables.exec = Jvm.exec) (hby : c.code = by_) (hd : decode by_ pc = .ok (.if_acmp .eq o, 3)) (ho : 0 ≤ (pc : Int) + o) (hp : ((pc : Int) + o).toNat = pc') (k : Go p e below P (T.setTop (mkF m pc' Ls rest))) : Go p e below P (T.setTop (mkF m pc Ls (.ref b :: .ref b :: rest))) :=
  Go.st (fun t k => acmp X hx rfl (x := .ref b) (y := .ref b) rfl rfl rfl (hb hby hd) rfl (same := true) (by simp) ho (hp.symm.trans (if_pos rfl).symm) k) k
theorem Go.callS {own : String} {index : Nat} {y : MethodName} {bytes : ByteArray} {maxL : Nat} {ret : Option FieldType} {rm : Room} {W : Nat} {as : Array Value} {Qc : Option Value → Heap → List Loc → Prop} {argsL st : List Value} {ps : List FieldType} {rt : Option FieldType} (X : Stand p l e R s m args below meth c T locs cells slots) (hx : p.tables.exec = Jvm.exec) (hby : c.code = by_) (hZ : Z.Warmed39 s.vm) (hown : s.vm.findClass own = some m.cls)
    (w1 : (Jvm.Cond.methodLink own index y).before a0 Z = true) (w2 : (Jvm.Cond.static y).before a0 Z = true) (w3 : (Jvm.Cond.initialized y.cls).before a0 Z = true) (w4 : (Jvm.Cond.code y bytes maxL ret).before a0 Z = true) (hy : y.cls ≠ "java/lang/invoke/MethodHandle" ∧ y.cls ≠ "java/lang/invoke/VarHandle")
    (hM : Con l Z y bytes maxL ret [] rm as h Qc) (eT : T.heap = h) (hf : rm.frames + 1 ≤ R.frames) (hl : W + (maxL + 11) + rm.locals ≤ R.locals) (hsize : Ls.size = c.maxLocals) (hpd : parseMethodDescriptor y.desc = some ⟨ps, rt⟩) (hlen : argsL.length = ps.length) (hst : st = argsL.reverse ++ rest) (has : argsL.toArray = as) (hW : 0 + (rest.map fun v => v.category).sum ≤ W)
    (hd : decode by_ pc = .ok (.invokestatic index, 3)) (hp : pc + 3 = pc') (hc : cells + rm.cells ≤ R.cells) (hs : slots + rm.slots ≤ R.slots)
    (k : ∀ (v : Option Value) (T' : State) (L : List Loc), Stand p l e R s m args below meth c T' (locs ++ L) (cells + rm.cells) (slots + rm.slots) → Qc v T'.heap L → Go p e below P (T'.setTop (mkF m pc' Ls (v.toList ++ rest)))) : Go p e below P (T.setTop (mkF m pc Ls st)) := by
  subst hp
  obtain ⟨v, _, ⟨T3, L3, k3, n3⟩, -, X3, ⟨Lc3, hQ3, l3, y3, z3⟩, st3⟩ := Jvm.LawKit.callS X hx (y := y) hown (mvT hZ w1) (mvT hZ w2) (mvT hZ w3) (mvT hZ w4) hy (backOf (W := W) hM hZ w4 w3 hf hl) (g := mkF m pc Ls st) rfl hsize (argsL := argsL) (rest := rest) (lenOf hpd hlen) hst hW (hb hby hd) (fun _ _ => ⟨has, eT, hc, hs⟩)
  dsimp only [Pt.U, Pt.locs, Pt.cells, Pt.slots] at X3 l3 y3 z3 st3 hQ3
  subst l3 y3 z3
  exact Go.st st3 (k v T3 Lc3 X3 hQ3)
theorem Go.callI {own : String} {index : Nat} {y : MethodName} {bytes : ByteArray} {maxL : Nat} {rm : Room} {W : Nat} {as : Array Value} {Qc : Option Value → Heap → List Loc → Prop} {argsL st : List Value} {ps : List FieldType} {rt : Option FieldType} {a : Addr} (X : Stand p l e R s m args below meth c T locs cells slots) (hx : p.tables.exec = Jvm.exec) (hby : c.code = by_) (hy1 : y.name = "<init>") (hZ : Z.Warmed39 s.vm) (hown : s.vm.findClass own = some m.cls)
    (w1 : (Jvm.Cond.methodLink own index y).before a0 Z = true) (w2 : (Jvm.Cond.instanceMethod y).before a0 Z = true) (w3 : (Jvm.Cond.initialized y.cls).before a0 Z = true) (w4 : (Jvm.Cond.code y bytes maxL none).before a0 Z = true) (hy : y.cls ≠ "java/lang/invoke/MethodHandle" ∧ y.cls ≠ "java/lang/invoke/VarHandle")
    (hM : Con l Z y bytes maxL none [] rm as h Qc) (eT : T.heap = h) (hf : rm.frames + 1 ≤ R.frames) (hl : W + (maxL + 11) + rm.locals ≤ R.locals) (hsize : Ls.size = c.maxLocals) (hpd : parseMethodDescriptor y.desc = some ⟨ps, rt⟩) (hlen : argsL.length = ps.length) (hst : st = argsL.reverse ++ .ref a :: rest) (has : (.ref a :: argsL).toArray = as) (hW : 0 + (rest.map fun v => v.category).sum ≤ W)
    (hd : decode by_ pc = .ok (.invokespecial index, 3)) (hp : pc + 3 = pc') (hc : cells + rm.cells ≤ R.cells) (hs : slots + rm.slots ≤ R.slots)
    (k : ∀ (v : Option Value) (T' : State) (L : List Loc), Stand p l e R s m args below meth c T' (locs ++ L) (cells + rm.cells) (slots + rm.slots) → Qc v T'.heap L → Go p e below P (T'.setTop (mkF m pc' Ls (v.toList ++ rest)))) : Go p e below P (T.setTop (mkF m pc Ls st)) := by
  subst hp
  obtain ⟨v, _, ⟨T3, L3, k3, n3⟩, -, X3, ⟨Lc3, hQ3, l3, y3, z3⟩, st3⟩ := X.specialBack hx (y := y) hy1 hown (mvT hZ w1) (mvT hZ w2) (mvT hZ w4) hy (backOf (W := W) hM hZ w4 w3 hf hl) (g := mkF m pc Ls st) rfl hsize (Steps.refl _) (a := a) (argsL := argsL) (rest := rest) (lenOf hpd hlen) hst hW (hb hby hd) (fun _ _ => ⟨has, eT, hc, hs⟩)
  dsimp only [Pt.U, Pt.locs, Pt.cells, Pt.slots] at X3 l3 y3 z3 st3 hQ3
  subst l3 y3 z3
  exact Go.via st3 (k v T3 Lc3 X3 hQ3)
theorem Go.callV {own C : String} {index : Nat} {y z : MethodName} {bytes : ByteArray} {maxL : Nat} {ret : Option FieldType} {rm : Room} {W : Nat} {as : Array Value} {Qc : Option Value → Heap → List Loc → Prop} {argsL st : List Value} {ps : List FieldType} {rt : Option FieldType} {a : Addr} (X : Stand p l e R s m args below meth c T locs cells slots) (hx : p.tables.exec = Jvm.exec) (hby : c.code = by_) (hZ : Z.Warmed39 s.vm) (hown : s.vm.findClass own = some m.cls)
    (w1 : (Jvm.Cond.methodLink own index y).before a0 Z = true) (w2 : (Jvm.Cond.declares y).before a0 Z = true) (hnf : NotFace s y) (w5 : (Jvm.Cond.selects C y z).before a0 Z = true) (w6 : (Jvm.Cond.instanceMethod z).before a0 Z = true) (w3 : (Jvm.Cond.initialized z.cls).before a0 Z = true) (w4 : (Jvm.Cond.code z bytes maxL ret).before a0 Z = true) (hy : y.cls ≠ "java/lang/invoke/MethodHandle" ∧ y.cls ≠ "java/lang/invoke/VarHandle")
    (hM : Con l Z z bytes maxL ret [] rm as h Qc) (eT : T.heap = h) (hE : Exa Z h a C) (hf : rm.frames + 1 ≤ R.frames) (hl : W + (maxL + 11) + rm.locals ≤ R.locals) (hsize : Ls.size = c.maxLocals) (hpd : parseMethodDescriptor y.desc = some ⟨ps, rt⟩) (hlen : argsL.length = ps.length) (hst : st = argsL.reverse ++ .ref a :: rest) (has : (.ref a :: argsL).toArray = as) (hW : 0 + (rest.map fun v => v.category).sum ≤ W)
    (hd : decode by_ pc = .ok (.invokevirtual index, 3)) (hp : pc + 3 = pc') (hc : cells + rm.cells ≤ R.cells) (hs : slots + rm.slots ≤ R.slots)
    (k : ∀ (v : Option Value) (T' : State) (L : List Loc), Stand p l e R s m args below meth c T' (locs ++ L) (cells + rm.cells) (slots + rm.slots) → Qc v T'.heap L → Go p e below P (T'.setTop (mkF m pc' Ls (v.toList ++ rest)))) : Go p e below P (T.setTop (mkF m pc Ls st)) := by
  subst hp
  obtain ⟨cq, kq, q4a, q4b, q4c⟩ := isOf (T := T) hZ eT hE
  obtain ⟨v, _, ⟨T3, L3, k3, n3⟩, -, X3, ⟨Lc3, hQ3, l3, y3, z3⟩, st3⟩ := X.virtualBack hx (y := y) (z := z) hown (mvT hZ w1) (mvT hZ w2) hnf (mvT hZ w5) (mvT hZ w6) hy (backOf (W := W) hM hZ w4 w3 hf hl) q4a q4c (g := mkF m pc Ls st) rfl hsize (Steps.refl _) (argsL := argsL) (rest := rest) (lenOf hpd hlen) hst hW (hb hby hd) (fun _ _ => ⟨has, eT, hc, hs⟩)
  dsimp only [Pt.U, Pt.locs, Pt.cells, Pt.slots] at X3 l3 y3 z3 st3 hQ3
  subst l3 y3 z3
  exact Go.via st3 (k v T3 Lc3 X3 hQ3)

theorem Go.nmI {x : Int32} (k : ∀ v : Int32, v = x → Go p e below P (T.setTop (mkF m pc Ls (.int v :: rest)))) : Go p e below P (T.setTop (mkF m pc Ls (.int x :: rest))) := k _ rfl
theorem Go.nmJ {x : Int64} (k : ∀ v : Int64, v = x → Go p e below P (T.setTop (mkF m pc Ls (.long v :: rest)))) : Go p e below P (T.setTop (mkF m pc Ls (.long x :: rest))) := k _ rfl
theorem Go.cut {α : Type} {F : α → State} {x : α} {S : State} (k : Go p e below P (F x)) (k2 : (∀ b, b = x → Go p e below P (F b)) → Go p e below P S) : Go p e below P S := k2 (fun b hb => hb ▸ k)
theorem Go.cutAll {α : Type} {F : α → State} {S : State} (k : ∀ b, Go p e below P (F b)) (k2 : (∀ b, Go p e below P (F b)) → Go p e below P S) : Go p e below P S := k2 k
theorem Go.loop {α : Type} {F : α → State} {I : α → Prop} {μ : α → Nat} (step : ∀ x, I x → (∀ y, I y → μ y < μ x → Go p e below P (F y)) → Go p e below P (F x)) (x : α) (hx : I x) : Go p e below P (F x) := by
  have key : ∀ (n : Nat) (x : α), μ x < n → I x → Go p e below P (F x) := by
    intro n
    induction n with
    | zero => intro x hn; exact absurd hn (Nat.not_lt_zero _)
    | succ n ih => intro x hn hi; exact step x hi (fun y hy hlt => ih y (by omega) hy)
  exact key _ x (Nat.lt_succ_self _) hx
/-- what a law leaves: true, and nothing that stood is written -/
def LQ (n0 : Nat) (v : Option Value) (h : Heap) (L : List Loc) : Prop := v = some (.int 1) ∧ Fr n0 L
end OwnGo
section OwnHeap
variable {p : Program} {l : Launch} {e : Env} {R : Room} {s : State} {m : MethodId} {args : Array Value} {below : List Frame} {meth : Method} {c : Code} {T : State} {locs : List Loc} {cells slots : Nat} {Z : State} {a0 : Array Value} {h h' : Heap} {Q : Option Value → Heap → List Loc → Prop} {P : Option Value → State → Prop} {K N : Nat} {by_ : ByteArray} {pc pc' : Nat} {Ls : Array Slot} {rest : List Value} {a b : Addr} {ty : FieldType} {z i : Int} {f g : Int → Value} {sl : Nat} {v : Value} {ws : List Addr}
/-- an array: its length z, what place i holds -/
def Ar (Z : State) (h : Heap) (a : Addr) (ty : FieldType) (z : Int) (f : Int → Value) : Prop := ∃ cl : Cell, Arr Z h a cl ty ∧ (cl.slots.size : Int) = z ∧ z < 2147483648 ∧ ∀ i : Nat, (i : Int) < z → cl.slots[i]? = some (f i)
theorem Ar.ext (F : Ar Z h a ty z f) (E : Ext h h') : Ar Z h' a ty z f := by obtain ⟨cl, A, r⟩ := F; exact ⟨cl, A.ext E, r⟩
theorem Ar.other (F : Ar Z h a ty z f) (W : Wr h h' b sl v) (q : a ≠ b) : Ar Z h' a ty z f := by obtain ⟨cl, A, r⟩ := F; exact ⟨cl, A.other W q, r⟩
theorem Ar.keep (F : Ar Z h a ty z f) (K : Keep h h' ws) (q : a ∉ ws) : Ar Z h' a ty z f := by obtain ⟨cl, A, r⟩ := F; exact ⟨cl, ⟨K.2.1 a cl A.1 q, A.2⟩, r⟩
theorem Ar.lt (F : Ar Z h a ty z f) : a < h.size := by obtain ⟨cl, A, -⟩ := F; exact A.lt
theorem Ar.congr (F : Ar Z h a ty z f) (q : ∀ i, 0 ≤ i → i < z → f i = g i) : Ar Z h a ty z g := by
  obtain ⟨cl, A, r1, r2, r3⟩ := F
  exact ⟨cl, A, r1, r2, fun i hi => by rw [r3 i hi, q i (by omega) hi]⟩
theorem Ar.bound (F : Ar Z h a ty z f) : 0 ≤ z ∧ z < 2147483648 := by obtain ⟨cl, A, r1, r2, -⟩ := F; omega
theorem Ar.set (F : Ar Z h a ty z f) (W : Wr h h' a i.toNat v) (hi : 0 ≤ i) : Ar Z h' a ty z (fun q => if q = i then v else f q) := by
  obtain ⟨cl, A, r1, r2, r3⟩ := F
  obtain ⟨cl2, w1, w2, w3, w4⟩ := W
  cases w1.symm.trans A.1
  refine ⟨_, A.same ⟨cl, A.1, w2, w3, w4⟩, by rw [sz_set]; exact r1, r2, fun k hk => ?_⟩
  by_cases e : (k : Int) = i
  · have e' : k = i.toNat := by omega
    subst e'
    simp only [Cell.setSlot, if_pos e]
    rw [Array.getElem?_setIfInBounds_self_of_lt w3]
  · show _ = some (if (k : Int) = i then v else f k)
    rw [if_neg e]
    simp only [Cell.setSlot]
    rw [Array.getElem?_setIfInBounds_ne (by omega)]
    exact r3 k hk
theorem Ar.new {cA : ClassId} {n : Int32} (A : Arr Z h a (newA cA ty n) ty) (q : n.toInt = z) (q0 : 0 ≤ z) : Ar Z h a ty z (fun _ => defaultValue ty) := by
  have hs : ((newA cA ty n).slots.size : Int) = z := by rw [sz_new]; simp only [Int32.toNatClampNeg]; omega
  refine ⟨_, A, hs, by have := n.toInt_lt; omega, fun i hi => ?_⟩
  have hlt : i < n.toNatClampNeg := by rw [sz_new] at hs; omega
  simp [newA, Array.getElem?_replicate, hlt]
theorem in_of {cl : Cell} {j : Int32} (r1 : (cl.slots.size : Int) = z) (hj : j.toInt = i) (h0 : 0 ≤ i) (h1 : i < z) : ¬ (j < 0 ∨ cl.slots.size ≤ j.toNatClampNeg) ∧ j.toNatClampNeg = i.toNat := by
  have e : j.toNatClampNeg = i.toNat := by simp only [Int32.toNatClampNeg, hj]
  refine ⟨fun q => ?_, e⟩
  rcases q with q | q
  · rw [Int32.lt_iff_toInt_lt, hj, show (0 : Int32).toInt = 0 from by decide] at q; omega
  · rw [e] at q; omega
theorem Go.alen {zv : Int32} (X : Stand p l e R s m args below meth c T locs cells slots) (hx : p.tables.exec = Jvm.exec) (hby : c.code = by_) (hZ : Z.Warmed39 s.vm) (eT : T.heap = h) (A : Ar Z h a ty z f) (hd : decode by_ pc = .ok (.arraylength, 1)) (hp : pc + 1 = pc') (hz : zv.toInt = z) (k : Go p e below P (T.setTop (mkF m pc' Ls (.int zv :: rest)))) : Go p e below P (T.setTop (mkF m pc Ls (.ref a :: rest))) := by
  subst hp
  obtain ⟨cl, A, r1, r2, -⟩ := A
  have e1 : cl.slots.size.toInt32 = zv := Int32.toInt_inj.mp (by rw [len_toInt (by omega), hz]; exact r1)
  exact Go.st (fun t k => X.arraylength hx (cell := cl) (by rw [eT]; exact A.1) (State.isArrayOf_alike hZ.alike A.2.1) (g := mkF m pc Ls (.ref a :: rest)) rfl rfl (hb hby hd) _ (by rw [e1]; exact k)) k
theorem Go.iaload {j : Int32} (X : Stand p l e R s m args below meth c T locs cells slots) (hx : p.tables.exec = Jvm.exec) (hby : c.code = by_) (hZ : Z.Warmed39 s.vm) (eT : T.heap = h) (A : Ar Z h a .int z f) (hd : decode by_ pc = .ok (.iaload, 1)) (hp : pc + 1 = pc') (hj : j.toInt = i) (h0 : 0 ≤ i) (h1 : i < z) (hv : f i = v) (k : Go p e below P (T.setTop (mkF m pc' Ls (v :: rest)))) : Go p e below P (T.setTop (mkF m pc Ls (.int j :: .ref a :: rest))) := by
  subst hp hv
  obtain ⟨cl, A, r1, r2, r3⟩ := A
  obtain ⟨q1, q2⟩ := in_of r1 hj h0 h1
  exact Go.st (fun t k => X.iaload hx (j := j) (v := f i) (by rw [eT]; exact A.1) (State.isArrayOf_alike hZ.alike A.2.1) A.2.2 q1 (by rw [q2, r3 _ (by omega)]; congr 2; omega) (g := mkF m pc Ls (.int j :: .ref a :: rest)) rfl rfl (hb hby hd) _ k) k
theorem Go.caload {j : Int32} (X : Stand p l e R s m args below meth c T locs cells slots) (hx : p.tables.exec = Jvm.exec) (hby : c.code = by_) (hZ : Z.Warmed39 s.vm) (eT : T.heap = h) (A : Ar Z h a .char z f) (hd : decode by_ pc = .ok (.caload, 1)) (hp : pc + 1 = pc') (hj : j.toInt = i) (h0 : 0 ≤ i) (h1 : i < z) (hv : f i = v) (k : Go p e below P (T.setTop (mkF m pc' Ls (v :: rest)))) : Go p e below P (T.setTop (mkF m pc Ls (.int j :: .ref a :: rest))) := by
  subst hp hv
  obtain ⟨cl, A, r1, r2, r3⟩ := A
  obtain ⟨q1, q2⟩ := in_of r1 hj h0 h1
  exact Go.st (fun t k => X.caload hx (j := j) (v := f i) (by rw [eT]; exact A.1) (State.isArrayOf_alike hZ.alike A.2.1) A.2.2 q1 (by rw [q2, r3 _ (by omega)]; congr 2; omega) (g := mkF m pc Ls (.int j :: .ref a :: rest)) rfl rfl (hb hby hd) _ k) k
theorem Go.baload {j : Int32} (X : Stand p l e R s m args below meth c T locs cells slots) (hx : p.tables.exec = Jvm.exec) (hby : c.code = by_) (hZ : Z.Warmed39 s.vm) (eT : T.heap = h) (A : Ar Z h a .byte z f) (hd : decode by_ pc = .ok (.baload, 1)) (hp : pc + 1 = pc') (hj : j.toInt = i) (h0 : 0 ≤ i) (h1 : i < z) (hv : f i = v) (k : Go p e below P (T.setTop (mkF m pc' Ls (v :: rest)))) : Go p e below P (T.setTop (mkF m pc Ls (.int j :: .ref a :: rest))) := by
  subst hp hv
  obtain ⟨cl, A, r1, r2, r3⟩ := A
  obtain ⟨q1, q2⟩ := in_of r1 hj h0 h1
  exact Go.st (fun t k => X.baloadBytes hx (j := j) (v := f i) (by rw [eT]; exact A.1) (State.isArrayOf_alike hZ.alike A.2.1) A.2.2 q1 (by rw [q2, r3 _ (by omega)]; congr 2; omega) (g := mkF m pc Ls (.int j :: .ref a :: rest)) rfl rfl (hb hby hd) _ k) k
theorem Go.laload {j : Int32} (X : Stand p l e R s m args below meth c T locs cells slots) (hx : p.tables.exec = Jvm.exec) (hby : c.code = by_) (hZ : Z.Warmed39 s.vm) (eT : T.heap = h) (A : Ar Z h a .long z f) (hd : decode by_ pc = .ok (.laload, 1)) (hp : pc + 1 = pc') (hj : j.toInt = i) (h0 : 0 ≤ i) (h1 : i < z) (hv : f i = v) (k : Go p e below P (T.setTop (mkF m pc' Ls (v :: rest)))) : Go p e below P (T.setTop (mkF m pc Ls (.int j :: .ref a :: rest))) := by
  subst hp hv
  obtain ⟨cl, A, r1, r2, r3⟩ := A
  obtain ⟨q1, q2⟩ := in_of r1 hj h0 h1
  exact Go.st (fun t k => X.laload hx (j := j) (v := f i) (by rw [eT]; exact A.1) (State.isArrayOf_alike hZ.alike A.2.1) A.2.2 q1 (by rw [q2, r3 _ (by omega)]; congr 2; omega) (g := mkF m pc Ls (.int j :: .ref a :: rest)) rfl rfl (hb hby hd) _ k) k
theorem Go.saload {j : Int32} (X : Stand p l e R s m args below meth c T locs cells slots) (hx : p.tables.exec = Jvm.exec) (hby : c.code = by_) (hZ : Z.Warmed39 s.vm) (eT : T.heap = h) (A : Ar Z h a .short z f) (hd : decode by_ pc = .ok (.saload, 1)) (hp : pc + 1 = pc') (hj : j.toInt = i) (h0 : 0 ≤ i) (h1 : i < z) (hv : f i = v) (k : Go p e below P (T.setTop (mkF m pc' Ls (v :: rest)))) : Go p e below P (T.setTop (mkF m pc Ls (.int j :: .ref a :: rest))) := by
  subst hp hv
  obtain ⟨cl, A, r1, r2, r3⟩ := A
  obtain ⟨q1, q2⟩ := in_of r1 hj h0 h1
  exact Go.st (fun t k => X.saload hx (j := j) (v := f i) (by rw [eT]; exact A.1) (State.isArrayOf_alike hZ.alike A.2.1) A.2.2 q1 (by rw [q2, r3 _ (by omega)]; congr 2; omega) (g := mkF m pc Ls (.int j :: .ref a :: rest)) rfl rfl (hb hby hd) _ k) k
theorem Go.aaload {j : Int32} (X : Stand p l e R s m args below meth c T locs cells slots) (hx : p.tables.exec = Jvm.exec) (hby : c.code = by_) (hZ : Z.Warmed39 s.vm) (eT : T.heap = h) (A : Ar Z h a ty z f) (hty : ty.isReference = true) (hd : decode by_ pc = .ok (.aaload, 1)) (hp : pc + 1 = pc') (hj : j.toInt = i) (h0 : 0 ≤ i) (h1 : i < z) (hv : f i = v) (k : Go p e below P (T.setTop (mkF m pc' Ls (v :: rest)))) : Go p e below P (T.setTop (mkF m pc Ls (.int j :: .ref a :: rest))) := by
  subst hp hv
  obtain ⟨cl, A, r1, r2, r3⟩ := A
  obtain ⟨q1, q2⟩ := in_of r1 hj h0 h1
  exact Go.st (fun t k => X.aaload hx (j := j) (v := f i) (by rw [eT]; exact A.1) (State.isArrayOf_alike hZ.alike A.2.1) hty A.2.2 q1 (by rw [q2, r3 _ (by omega)]; congr 2; omega) (g := mkF m pc Ls (.int j :: .ref a :: rest)) rfl rfl (hb hby hd) _ k) k
theorem Go.iastore {j : Int32} {x : Int32} (X : Stand p l e R s m args below meth c T locs cells slots) (hx : p.tables.exec = Jvm.exec) (hby : c.code = by_) (hZ : Z.Warmed39 s.vm) (eT : T.heap = h) (A : Ar Z h a .int z f) (hd : decode by_ pc = .ok (.iastore, 1)) (hp : pc + 1 = pc') (hj : j.toInt = i) (h0 : 0 ≤ i) (h1 : i < z)
    (k : ∀ (T' : State) (h' : Heap), Stand p l e R s m args below meth c T' (locs ++ [⟨a, i.toNat⟩]) cells slots → T'.heap = h' → Wr h h' a i.toNat (.int x) → Ar Z h' a .int z (fun q => if q = i then (.int x) else f q) → Go p e below P (T'.setTop (mkF m pc' Ls rest))) : Go p e below P (T.setTop (mkF m pc Ls (.int x :: .int j :: .ref a :: rest))) := by
  subst hp
  have A0 := A
  obtain ⟨cl, A, r1, r2, r3⟩ := A
  obtain ⟨q1, q2⟩ := in_of r1 hj h0 h1
  obtain ⟨T', h', X', e', W', st⟩ := stI X hx hZ eT A (j := j) q1 (g := mkF m pc Ls (.int x :: .int j :: .ref a :: rest)) rfl rfl (hb hby hd)
  rw [q2] at X' W'
  exact Go.st st (k T' h' X' e' W' (A0.set W' h0))
theorem Go.castore {j : Int32} {x : Int32} (X : Stand p l e R s m args below meth c T locs cells slots) (hx : p.tables.exec = Jvm.exec) (hby : c.code = by_) (hZ : Z.Warmed39 s.vm) (eT : T.heap = h) (A : Ar Z h a .char z f) (hd : decode by_ pc = .ok (.castore, 1)) (hp : pc + 1 = pc') (hj : j.toInt = i) (h0 : 0 ≤ i) (h1 : i < z)
    (k : ∀ (T' : State) (h' : Heap), Stand p l e R s m args below meth c T' (locs ++ [⟨a, i.toNat⟩]) cells slots → T'.heap = h' → Wr h h' a i.toNat (.int (nar .char x)) → Ar Z h' a .char z (fun q => if q = i then (.int (nar .char x)) else f q) → Go p e below P (T'.setTop (mkF m pc' Ls rest))) : Go p e below P (T.setTop (mkF m pc Ls (.int x :: .int j :: .ref a :: rest))) := by
  subst hp
  have A0 := A
  obtain ⟨cl, A, r1, r2, r3⟩ := A
  obtain ⟨q1, q2⟩ := in_of r1 hj h0 h1
  obtain ⟨T', h', X', e', W', st⟩ := stC X hx hZ eT A (j := j) q1 (g := mkF m pc Ls (.int x :: .int j :: .ref a :: rest)) rfl rfl (hb hby hd)
  rw [q2] at X' W'
  exact Go.st st (k T' h' X' e' W' (A0.set W' h0))
theorem Go.bastore {j : Int32} {x : Int32} (X : Stand p l e R s m args below meth c T locs cells slots) (hx : p.tables.exec = Jvm.exec) (hby : c.code = by_) (hZ : Z.Warmed39 s.vm) (eT : T.heap = h) (A : Ar Z h a .byte z f) (hd : decode by_ pc = .ok (.bastore, 1)) (hp : pc + 1 = pc') (hj : j.toInt = i) (h0 : 0 ≤ i) (h1 : i < z)
    (k : ∀ (T' : State) (h' : Heap), Stand p l e R s m args below meth c T' (locs ++ [⟨a, i.toNat⟩]) cells slots → T'.heap = h' → Wr h h' a i.toNat (.int (nar .byte x)) → Ar Z h' a .byte z (fun q => if q = i then (.int (nar .byte x)) else f q) → Go p e below P (T'.setTop (mkF m pc' Ls rest))) : Go p e below P (T.setTop (mkF m pc Ls (.int x :: .int j :: .ref a :: rest))) := by
  subst hp
  have A0 := A
  obtain ⟨cl, A, r1, r2, r3⟩ := A
  obtain ⟨q1, q2⟩ := in_of r1 hj h0 h1
  obtain ⟨T', h', X', e', W', st⟩ := stB X hx hZ eT A (j := j) q1 (g := mkF m pc Ls (.int x :: .int j :: .ref a :: rest)) rfl rfl (hb hby hd)
  rw [q2] at X' W'
  exact Go.st st (k T' h' X' e' W' (A0.set W' h0))
theorem Go.lastore {j : Int32} {x : Int64} (X : Stand p l e R s m args below meth c T locs cells slots) (hx : p.tables.exec = Jvm.exec) (hby : c.code = by_) (hZ : Z.Warmed39 s.vm) (eT : T.heap = h) (A : Ar Z h a .long z f) (hd : decode by_ pc = .ok (.lastore, 1)) (hp : pc + 1 = pc') (hj : j.toInt = i) (h0 : 0 ≤ i) (h1 : i < z)
    (k : ∀ (T' : State) (h' : Heap), Stand p l e R s m args below meth c T' (locs ++ [⟨a, i.toNat⟩]) cells slots → T'.heap = h' → Wr h h' a i.toNat (.long x) → Ar Z h' a .long z (fun q => if q = i then (.long x) else f q) → Go p e below P (T'.setTop (mkF m pc' Ls rest))) : Go p e below P (T.setTop (mkF m pc Ls (.long x :: .int j :: .ref a :: rest))) := by
  subst hp
  have A0 := A
  obtain ⟨cl, A, r1, r2, r3⟩ := A
  obtain ⟨q1, q2⟩ := in_of r1 hj h0 h1
  obtain ⟨T', h', X', e', W', st⟩ := stJ X hx hZ eT A (j := j) q1 (g := mkF m pc Ls (.long x :: .int j :: .ref a :: rest)) rfl rfl (hb hby hd)
  rw [q2] at X' W'
  exact Go.st st (k T' h' X' e' W' (A0.set W' h0))
theorem Go.aastore {j : Int32} (X : Stand p l e R s m args below meth c T locs cells slots) (hx : p.tables.exec = Jvm.exec) (hby : c.code = by_) (hZ : Z.Warmed39 s.vm) (eT : T.heap = h) (A : Ar Z h a ty z f) (hty : ty.isReference = true) (F : Sto Z h a v) (hd : decode by_ pc = .ok (.aastore, 1)) (hp : pc + 1 = pc') (hj : j.toInt = i) (h0 : 0 ≤ i) (h1 : i < z)
    (k : ∀ (T' : State) (h' : Heap), Stand p l e R s m args below meth c T' (locs ++ [⟨a, i.toNat⟩]) cells slots → T'.heap = h' → Wr h h' a i.toNat v → Ar Z h' a ty z (fun q => if q = i then v else f q) → Go p e below P (T'.setTop (mkF m pc' Ls rest))) : Go p e below P (T.setTop (mkF m pc Ls (v :: .int j :: .ref a :: rest))) := by
  subst hp
  have A0 := A
  obtain ⟨cl, A, r1, r2, r3⟩ := A
  obtain ⟨q1, q2⟩ := in_of r1 hj h0 h1
  obtain ⟨T', h', X', e', W', st⟩ := stR X hx hZ eT A (j := j) q1 hty F (g := mkF m pc Ls (v :: .int j :: .ref a :: rest)) rfl rfl (hb hby hd)
  rw [q2] at X' W'
  exact Go.st st (k T' h' X' e' W' (A0.set W' h0))
theorem Go.newarr {aty : ArrayType} {n : Int32} {cap : Nat} (X : Stand p l e R s m args below meth c T locs cells slots) (hx : p.tables.exec = Jvm.exec) (hby : c.code = by_) (hZ : Z.Warmed39 s.vm) (w : (Jvm.Cond.arrayClass (newarray.typeOf aty)).before a0 Z = true) (eT : T.heap = h) (hd : decode by_ pc = .ok (.newarray aty, 2)) (hp : pc + 2 = pc') (hz : n.toInt = z) (h0 : 0 ≤ z) (hcap : z ≤ cap) (hb0 : cap * 8 ≤ 536870912) (hc : cells + 1 ≤ R.cells) (hl : slots + cap ≤ R.slots)
    (k : ∀ (b : Addr) (T' : State) (h' : Heap), b = h.size → Stand p l e R s m args below meth c T' locs (cells + 1) (slots + cap) → T'.heap = h' → Ext h h' → Ar Z h' b (newarray.typeOf aty) z (fun _ => defaultValue (newarray.typeOf aty)) → Go p e below P (T'.setTop (mkF m pc' Ls (.ref b :: rest)))) : Go p e below P (T.setTop (mkF m pc Ls (.int n :: rest))) := by
  subst hp
  obtain ⟨T', h', cA, X', e', E', A', st⟩ := newP X hx hZ w eT (g := mkF m pc Ls (.int n :: rest)) rfl (hb hby hd) rfl (by rw [Int32.lt_iff_toInt_lt, hz, show (0 : Int32).toInt = 0 from by decide]; omega) (cap := cap) (by simp only [Int32.toNatClampNeg, hz]; omega) hb0 hc hl
  exact Go.st st (k _ T' h' rfl X' e' E' (Ar.new A' hz h0))
theorem Go.new_ {own C : String} {index n : Nat} (X : Stand p l e R s m args below meth c T locs cells slots) (hx : p.tables.exec = Jvm.exec) (hby : c.code = by_) (hZ : Z.Warmed39 s.vm) (hown : s.vm.findClass own = some m.cls) (w : (Jvm.Cond.classLink own index C).before a0 Z = true) (wi : (Jvm.Cond.instantiable C n).before a0 Z = true) (wz : (Jvm.Cond.initialized C).before a0 Z = true) (eT : T.heap = h) (hd : decode by_ pc = .ok (.new index, 3)) (hp : pc + 3 = pc') (hc : cells + 1 ≤ R.cells) (hl : slots + n ≤ R.slots)
    (k : ∀ (b : Addr) (T' : State) (h' : Heap), b = h.size → Stand p l e R s m args below meth c T' locs (cells + 1) (slots + n) → T'.heap = h' → Ext h h' → Exa Z h' b C → (∀ {O nm d : String} {ty : FieldType}, Laid Z a0 C O nm d → parseFieldDescriptor d = some ty → Fld Z h' b O nm d (defaultValue ty)) → Go p e below P (T'.setTop (mkF m pc' Ls (.ref b :: rest)))) : Go p e below P (T.setTop (mkF m pc Ls rest)) := by
  subst hp
  obtain ⟨T', h', X', e', E', A', D', -, st⟩ := newO X hx hZ hown w wi wz eT (g := mkF m pc Ls rest) rfl (hb hby hd) hc hl
  exact Go.st st (k _ T' h' rfl X' e' E' A' D')
theorem Go.getF {own R0 O n d : String} {index : Nat} (X : Stand p l e R s m args below meth c T locs cells slots) (hx : p.tables.exec = Jvm.exec) (hby : c.code = by_) (hZ : Z.Warmed39 s.vm) (hown : s.vm.findClass own = some m.cls) (w : (Jvm.Cond.fieldLink own index R0 n d).before a0 Z = true) (via : Via Z R0 O n d) (eT : T.heap = h) (F : Fld Z h a O n d v) (hd : decode by_ pc = .ok (.getfield index, 3)) (hp : pc + 3 = pc')
    (k : ∀ T' : State, Stand p l e R s m args below meth c T' locs cells slots → T'.heap = h → Go p e below P (T'.setTop (mkF m pc' Ls (v :: rest)))) : Go p e below P (T.setTop (mkF m pc Ls (.ref a :: rest))) := by
  subst hp
  obtain ⟨T', X', e', st⟩ := Jvm.RoadKit.getF X hx hZ hown (host := "") (Or.inl w) via eT F (g := mkF m pc Ls (.ref a :: rest)) rfl rfl (hb hby hd)
  exact Go.st st (k T' X' e')
theorem Go.getSt {own R0 O n d : String} {index : Nat} (X : Stand p l e R s m args below meth c T locs cells slots) (hx : p.tables.exec = Jvm.exec) (hby : c.code = by_) (hZ : Z.Warmed39 s.vm) (hown : s.vm.findClass own = some m.cls) (w : (Jvm.Cond.fieldLink own index R0 n d).before a0 Z = true) (via : Via Z R0 O n d) (eT : T.heap = h) (F : Sta Z h O n d v) (hd : decode by_ pc = .ok (.getstatic index, 3)) (hp : pc + 3 = pc')
    (k : ∀ T' : State, Stand p l e R s m args below meth c T' locs cells slots → T'.heap = h → Go p e below P (T'.setTop (mkF m pc' Ls (v :: rest)))) : Go p e below P (T.setTop (mkF m pc Ls rest)) := by
  subst hp
  obtain ⟨T', X', e', st⟩ := Jvm.RoadKit.getS X hx hZ (host := "") hown w via eT F (g := mkF m pc Ls rest) rfl (hb hby hd)
  exact Go.st st (k T' X' e')
theorem Go.putF {own R0 O n d C : String} {index kk : Nat} {old : Value} (X : Stand p l e R s m args below meth c T locs cells slots) (hx : p.tables.exec = Jvm.exec) (hby : c.code = by_) (hZ : Z.Warmed39 s.vm) (hown : s.vm.findClass own = some m.cls) (w : (Jvm.Cond.fieldLink own index R0 n d).before a0 Z = true) (via : Via Z R0 O n d) (eT : T.heap = h) (F : Fld Z h a O n d old) (E : Exa Z h a C) (L : (Jvm.Cond.lays C O n d).before a0 Z = true ∨ ((Jvm.Cond.laysFinal C O n d).before a0 Z = true ∧ own = O ∧ meth.name = "<init>")) (wi : (Jvm.Cond.instantiable C kk).before a0 Z = true)
    (hty : parseFieldDescriptor d = some ty) (hn : narrow ty v = v) (hf : fits ty v = true) (hd : decode by_ pc = .ok (.putfield index, 3)) (hp : pc + 3 = pc')
    (k : ∀ (T' : State) (h' : Heap), Stand p l e R s m args below meth c T' (locs ++ [⟨a, slotOf Z O n d⟩]) cells slots → T'.heap = h' → Wr h h' a (slotOf Z O n d) v → Go p e below P (T'.setTop (mkF m pc' Ls rest))) : Go p e below P (T.setTop (mkF m pc Ls (v :: .ref a :: rest))) := by
  subst hp
  obtain ⟨T', h', X', e', W', st⟩ := Jvm.RoadKit.putF X hx hZ hown (host := "") (Or.inl w) via eT F E L wi hty hn hf (g := mkF m pc Ls (v :: .ref a :: rest)) rfl rfl (hb hby hd)
  exact Go.st st (k T' h' X' e' W')
theorem Go.initO {own : String} {idx W : Nat} (X : Stand p l e R s m args below meth c T locs cells slots) (hx : p.tables.exec = Jvm.exec) (hby : c.code = by_) (hZ : Z.Warmed39 s.vm) (hown : s.vm.findClass own = some m.cls) (w1 : (Jvm.Cond.methodLink own idx Lib.objectInit).before a0 Z = true) (w2 : (Jvm.Cond.instanceMethod Lib.objectInit).before a0 Z = true) (w3 : (Jvm.Cond.code Lib.objectInit ⟨#[0xb1]⟩ 1 none).before a0 Z = true) (eT : T.heap = h) (hsize : Ls.size = c.maxLocals) (hd : decode by_ pc = .ok (.invokespecial idx, 3)) (hp : pc + 3 = pc') (hf : 1 ≤ R.frames) (hW : 0 + (rest.map fun v => v.category).sum ≤ W) (hl : W + 12 ≤ R.locals)
    (k : ∀ T' : State, Stand p l e R s m args below meth c T' locs cells slots → T'.heap = h → Go p e below P (T'.setTop (mkF m pc' Ls rest))) : Go p e below P (T.setTop (mkF m pc Ls (.ref a :: rest))) := by
  subst hp
  obtain ⟨T', X', e', st⟩ := Jvm.RoadKit.initO X hx hZ hown w1 w2 w3 eT (g := mkF m pc Ls (.ref a :: rest)) rfl hsize rfl (hb hby hd) hf (W := W) hW hl
  exact Go.st st (k T' X' e')
theorem Fr.one {n : Nat} (q : n ≤ a) : Fr n [⟨a, sl⟩] := fun y hy => by cases List.mem_singleton.mp hy; exact q
end OwnHeap

section OwnWide
variable {p : Program} {l : Launch} {e : Env} {R : Room} {s : State} {vm0 : Vm} {k0 : Nat} {m : MethodId} {args : Array Value} {below : List Frame} {meth : Method} {c : Code} {T : State} {locs : List Loc} {cells slots : Nat} {Z : State} {a0 : Array Value} {h : Heap} {Q : Option Value → Heap → List Loc → Prop} {P : Option Value → State → Prop} {K N : Nat} {by_ : ByteArray} {pc pc' : Nat} {Ls : Array Slot} {rest : List Value}
abbrev ConW (l : Launch) (Z : State) (y : MethodName) (bytes : ByteArray) (maxL : Nat) (ret : Option FieldType) (ws : List Jvm.Cond) (rm : Room) (as : Array Value) (h : Heap) (Q : Option Value → Heap → List Loc → Prop) : Prop :=
  MetFree l y (head1 (Jvm.Cond.code y bytes maxL ret :: ws) rm) (fun a U => a = as ∧ Z.Warmed39 U.vm ∧ U.heap = h) (fun _ _ _ _ _ => True) (fun _ U o U' => ∃ v L, o = .returned v ∧ Q v U'.heap L ∧ ReturnedEndW U o U' L rm.cells rm.slots)
theorem ConW.of {y : MethodName} {bytes : ByteArray} {maxL : Nat} {ret : Option FieldType} {ws : List Jvm.Cond} {rm : Room} {as : Array Value} (hpn : plainFor y = true)
    (body : ∀ (p : Program) (e : Env) (s : State) (m : MethodId) (below : List Frame) (meth : Method) (c : Code) (s₁ : State), p.tables.exec = Jvm.exec → c.code = bytes → c.maxLocals = maxL → (s.setVm s.vm).vm.findClass y.cls = some m.cls → meth.name = y.name → meth.sig.returnType = ret → meth.locks = false → Z.Warmed39 (s.setVm s.vm).vm → s.Since s.vm 0 →
      Stand p l e rm (s.setVm s.vm) m as below meth c s₁ [] 0 0 → s₁.heap = h → Go p e below (Wd s Q rm.cells rm.slots) (s₁.setTop (entryFrame m as maxL))) : ConW l Z y bytes maxL ret ws rm as h Q := by
  refine MetFree.of_bodySF hpn hisR ?_
  intro p e s m args below meth c s₁ Bd hml0 hP hK
  obtain ⟨rfl, hZ, hh⟩ := hP
  have hown := findClass_of_methodNamed Bd.named
  have hnm := (name_of_methodNamed Bd.named Bd.method).1
  have X0 := Stand.of_body Bd
  have e0 : s₁.heap = h := by rw [← hh, Bd.state]; rfl
  obtain ⟨U, v, h1, h2, h3, L, h4, h5⟩ := body p e s m below meth c s₁ Bd.exec Bd.bytes hml0 hown hnm Bd.returns Bd.notSynchronized hZ ((State.WarmedH.refl s).since 0) X0 e0
  exact ⟨U, _, h1, h2, h3, v, L, rfl, h4, h5⟩
theorem Go.endW {w : Option Value} {A : State} (X : Stand p l e R (s.setVm vm0) m args below meth c T locs cells slots) (hS : s.Since vm0 k0) (hk : k0 ≤ T.heap.size) (hlk : meth.locks = false) (hr0 : meth.sig.returnType = none → w = none) (f : ∀ fs, (∀ (f : JFrame) (acts : List Action), f.method = m → f.locked = none → f.entered = [] → (doReturn e (T.setTop f) acts w).1 = T.setFrames fs) → Steps p.tables e below A (T.setFrames fs))
    (hc : cells ≤ K) (hn : slots ≤ N) (q : Q w T.heap locs) : Go p e below (Wd s Q K N) A := by
  obtain ⟨fs, hr, hrun, hended, hE⟩ := X.leaveW hS hk (v := w) hr0 hlk
  exact ⟨_, _, f fs hr, hrun, hended, locs, q, hE.1, hE.2.1, hE.2.2.1, hE.2.2.2.mono hc hn⟩
theorem Go.ret0W (X : Stand p l e R (s.setVm vm0) m args below meth c T locs cells slots) (hx : p.tables.exec = Jvm.exec) (hby : c.code = by_) (hlk : meth.locks = false) (hret : meth.sig.returnType = none) (hd : decode by_ pc = .ok (.return_, 1)) (hc : cells ≤ K) (hn : slots ≤ N) (hS : s.Since vm0 k0) (hk : k0 ≤ T.heap.size) (q : Q none T.heap locs) : Go p e below (Wd s Q K N) (T.setTop (mkF m pc Ls [])) :=
  Go.endW X hS hk hlk (fun _ => rfl) (fun fs hr => X.returnOut hx hret (hb hby hd) hr) hc hn q
theorem Go.retIW {z : Int32} (X : Stand p l e R (s.setVm vm0) m args below meth c T locs cells slots) (hx : p.tables.exec = Jvm.exec) (hby : c.code = by_) (hlk : meth.locks = false) (hret : meth.sig.returnType = some .int) (hd : decode by_ pc = .ok (.ireturn, 1)) (hc : cells ≤ K) (hn : slots ≤ N) (hS : s.Since vm0 k0) (hk : k0 ≤ T.heap.size) (q : Q (some (.int z)) T.heap locs) : Go p e below (Wd s Q K N) (T.setTop (mkF m pc Ls (.int z :: rest))) :=
  Go.endW X hS hk hlk (fun h => by rw [hret] at h; cases h) (fun fs hr => retOut X hx hret rfl (Or.inl ⟨rfl, Or.inl rfl, z, rfl⟩) (hb hby hd) hr) hc hn q
theorem Go.retZW {z : Int32} {t : FieldType} (X : Stand p l e R (s.setVm vm0) m args below meth c T locs cells slots) (hx : p.tables.exec = Jvm.exec) (hby : c.code = by_) (hlk : meth.locks = false) (hret : meth.sig.returnType = some t) (ht : t = .boolean ∨ t = .byte ∨ t = .char ∨ t = .short) (hd : decode by_ pc = .ok (.ireturn, 1)) (hc : cells ≤ K) (hn : slots ≤ N) (hS : s.Since vm0 k0) (hk : k0 ≤ T.heap.size) (q : Q (some (.int (nar t z))) T.heap locs) : Go p e below (Wd s Q K N) (T.setTop (mkF m pc Ls (.int z :: rest))) :=
  Go.endW X hS hk hlk (fun h => by rw [hret] at h; cases h) (fun fs hr => retN X hx hret ht (hb hby hd) hr) hc hn q
theorem Go.retAW {w : Value} {t : FieldType} (X : Stand p l e R (s.setVm vm0) m args below meth c T locs cells slots) (hx : p.tables.exec = Jvm.exec) (hby : c.code = by_) (hlk : meth.locks = false) (hret : meth.sig.returnType = some t) (hnw : narrow t w = w) (ht : t.isReference = true) (hw : w.isRef = true) (hd : decode by_ pc = .ok (.areturn, 1)) (hc : cells ≤ K) (hn : slots ≤ N) (hS : s.Since vm0 k0) (hk : k0 ≤ T.heap.size) (q : Q (some w) T.heap locs) : Go p e below (Wd s Q K N) (T.setTop (mkF m pc Ls (w :: rest))) :=
  Go.endW X hS hk hlk (fun h => by rw [hret] at h; cases h) (fun fs hr => retOut X hx hret hnw (Or.inr (Or.inr (Or.inr (Or.inr ⟨rfl, ht, hw⟩)))) (hb hby hd) hr) hc hn q
theorem Go.ldcS {own text : String} {index n : Nat} (X : Stand p l e R (s.setVm vm0) m args below meth c T locs cells slots) (hx : p.tables.exec = Jvm.exec) (hby : c.code = by_) (hZ : Z.Warmed39 (s.setVm vm0).vm) (hown : (s.setVm vm0).vm.findClass own = some m.cls) (w : (Jvm.Cond.stringLink own index text).before a0 Z = true) (wS : ∀ a ∈ Bundle.stringAtoms, a.before a0 Z = true) (eT : T.heap = h) (hS : s.Since vm0 k0) (hk : k0 ≤ h.size) (hd : decode by_ pc = .ok (.ldc index, 2)) (hp : pc + 2 = pc') (hn : 4 * text.toList.length ≤ n) (hbig : n ≤ 536870912) (hc : cells + 2 ≤ R.cells) (hl : slots + (n + 4) ≤ R.slots)
    (k : ∀ (a : Addr) (T' : State) (h' : Heap) (k1 : Nat), Stand p l e R (s.setVm T'.vm) m args below meth c T' locs (cells + 2) (slots + (n + 4)) → T'.heap = h' → Ext h h' → s.Since T'.vm k1 → k1 ≤ h'.size → Z.Warmed39 (s.setVm T'.vm).vm → (s.setVm T'.vm).vm.findClass own = some m.cls → Go p e below P (T'.setTop (mkF m pc' Ls (.ref a :: rest)))) : Go p e below P (T.setTop (mkF m pc Ls rest)) := by
  subst hp
  obtain ⟨a, T', h', k1, X', e', E', S', k', Z', o', st⟩ := Jvm.RoadKit.ldcS X hx hZ hown w wS eT hS hk (g := mkF m pc Ls rest) rfl (hb hby hd) hn hbig hc hl
  exact Go.st st (k a T' h' k1 X' e' E' S' k' Z' o')
theorem Go.callIW {own : String} {index : Nat} {y : MethodName} {bytes : ByteArray} {maxL : Nat} {rm : Room} {W : Nat} {as : Array Value} {Qc : Option Value → Heap → List Loc → Prop} {argsL st : List Value} {ps : List FieldType} {rt : Option FieldType} {a : Addr} (X : Stand p l e R (s.setVm vm0) m args below meth c T locs cells slots) (hx : p.tables.exec = Jvm.exec) (hby : c.code = by_) (hy1 : y.name = "<init>") (hZ : Z.Warmed39 (s.setVm vm0).vm) (hown : (s.setVm vm0).vm.findClass own = some m.cls)
    (w1 : (Jvm.Cond.methodLink own index y).before a0 Z = true) (w2 : (Jvm.Cond.instanceMethod y).before a0 Z = true) (w3 : (Jvm.Cond.initialized y.cls).before a0 Z = true) (w4 : (Jvm.Cond.code y bytes maxL none).before a0 Z = true) (hy : y.cls ≠ "java/lang/invoke/MethodHandle" ∧ y.cls ≠ "java/lang/invoke/VarHandle")
    (hM : ConW l Z y bytes maxL none [] rm as h Qc) (eT : T.heap = h) (hf : rm.frames + 1 ≤ R.frames) (hl : W + (maxL + 11) + rm.locals ≤ R.locals) (hsize : Ls.size = c.maxLocals) (hpd : parseMethodDescriptor y.desc = some ⟨ps, rt⟩) (hlen : argsL.length = ps.length) (hst : st = argsL.reverse ++ .ref a :: rest) (has : (.ref a :: argsL).toArray = as) (hW : 0 + (rest.map fun v => v.category).sum ≤ W)
    (hd : decode by_ pc = .ok (.invokespecial index, 3)) (hp : pc + 3 = pc') (hc : cells + rm.cells ≤ R.cells) (hs : slots + rm.slots ≤ R.slots) (hS : s.Since vm0 k0) (hk : k0 ≤ h.size)
    (k : ∀ (v : Option Value) (T' : State) (L : List Loc), Stand p l e R (s.setVm T'.vm) m args below meth c T' (locs ++ L) (cells + rm.cells) (slots + rm.slots) → s.Since T'.vm T'.heap.size → Z.Warmed39 (s.setVm T'.vm).vm → (s.setVm T'.vm).vm.findClass own = some m.cls → h.size ≤ T'.heap.size → Qc v T'.heap L → Go p e below P (T'.setTop (mkF m pc' Ls (v.toList ++ rest)))) : Go p e below P (T.setTop (mkF m pc Ls st)) := by
  subst hp
  obtain ⟨v, _, ⟨T3, L3, k3, n3⟩, -, X3, hS3, hg3, ⟨Lc3, hQ3, l3, y3, z3⟩, st3⟩ := X.specialBackS hx (y := y) hy1 hown (mvT hZ w1) (mvT hZ w2) (mvT hZ w4) hy (backOfS (W := W) hM hZ w4 w3 hf hl) (g := mkF m pc Ls st) rfl hsize (Steps.refl _) (a := a) (argsL := argsL) (rest := rest) (lenOf hpd hlen) hst hW (hb hby hd) (fun _ _ => ⟨has, eT, hc, hs⟩)
  dsimp only [Pt.U, Pt.locs, Pt.cells, Pt.slots] at X3 l3 y3 z3 st3 hQ3 hS3 hg3
  subst l3 y3 z3
  subst eT
  obtain ⟨X4, S4, Z4, o4⟩ := rebS hS hk X3 hS3 hg3 hZ hown
  exact Go.via st3 (k v T3 Lc3 X4 S4 Z4 o4 hg3 hQ3)
end OwnWide

section OwnMore
variable {p : Program} {l : Launch} {e : Env} {R : Room} {s : State} {m : MethodId} {args : Array Value} {below : List Frame} {meth : Method} {c : Code} {T : State} {locs : List Loc} {cells slots : Nat} {Z : State} {a0 : Array Value} {h h' : Heap} {P : Option Value → State → Prop} {by_ : ByteArray} {pc pc' : Nat} {Ls : Array Slot} {rest : List Value} {a b y : Addr} {ty : FieldType} {z i : Int} {f : Int → Value} {sl : Nat} {v : Value} {ws : List Addr} {C : String}
/-- the array at a is one of C's -/
def Ov (Z : State) (h : Heap) (a : Addr) (C : String) : Prop := ∃ cl : Cell, h[a]? = some cl ∧ Ovr Z cl.cls C
theorem Ov.ext (F : Ov Z h a C) (E : Ext h h') : Ov Z h' a C := by obtain ⟨cl, q, r⟩ := F; exact ⟨cl, E.2 _ _ q, r⟩
theorem Ov.wr (F : Ov Z h a C) (W : Wr h h' b sl v) : Ov Z h' a C := by
  obtain ⟨cl, q, r⟩ := F
  obtain ⟨c', e1, e2, -⟩ := wr_at W q
  exact ⟨c', e1, by rw [e2]; exact r⟩
theorem Ov.keep (F : Ov Z h a C) (K : Keep h h' ws) : Ov Z h' a C := by
  obtain ⟨cl, q, r⟩ := F
  obtain ⟨c', e1, e2, -⟩ := K.2.2 _ _ q
  exact ⟨c', e1, by rw [e2]; exact r⟩
theorem Sto.ofA (A : Ar Z h a ty z f) (O : Ov Z h a C) (I : Ins Z h y C true) : Sto Z h a (.ref y) := by
  obtain ⟨cl, A, -⟩ := A
  obtain ⟨cl', q, r⟩ := O
  cases q.symm.trans A.1
  exact Sto.of A r I
theorem Go.anewarr {own : String} {index : Nat} {n : Int32} {cap : Nat} (X : Stand p l e R s m args below meth c T locs cells slots) (hx : p.tables.exec = Jvm.exec) (hby : c.code = by_) (hZ : Z.Warmed39 s.vm) (hown : s.vm.findClass own = some m.cls) (w1 : (Jvm.Cond.classLink own index C).before a0 Z = true) (w2 : (Jvm.Cond.arrayOver (.object C)).before a0 Z = true) (eT : T.heap = h) (hd : decode by_ pc = .ok (.anewarray index, 3)) (hp : pc + 3 = pc') (hz : n.toInt = z) (h0 : 0 ≤ z) (hcap : z ≤ cap) (hb0 : cap * 8 ≤ 536870912) (hc : cells + 1 ≤ R.cells) (hl : slots + cap ≤ R.slots)
    (k : ∀ (b : Addr) (T' : State) (h' : Heap), b = h.size → Stand p l e R s m args below meth c T' locs (cells + 1) (slots + cap) → T'.heap = h' → Ext h h' → Ar Z h' b (.object C) z (fun _ => .null) → Ov Z h' b C → Go p e below P (T'.setTop (mkF m pc' Ls (.ref b :: rest)))) : Go p e below P (T.setTop (mkF m pc Ls (.int n :: rest))) := by
  subst hp
  obtain ⟨T', h', cA, X', e', E', A', O', st⟩ := newR X hx hZ hown w1 w2 eT (g := mkF m pc Ls (.int n :: rest)) rfl (hb hby hd) rfl (by rw [Int32.lt_iff_toInt_lt, hz, show (0 : Int32).toInt = 0 from by decide]; omega) (cap := cap) (by simp only [Int32.toNatClampNeg, hz]; omega) hb0 hc hl
  exact Go.st st (k _ T' h' rfl X' e' E' (Ar.new A' hz h0) ⟨_, A'.1, O'⟩)
theorem Go.callP {own : String} {index : Nat} {y : MethodName} {bytes : ByteArray} {maxL : Nat} {ret : Option FieldType} {rm : Room} {W : Nat} {as : Array Value} {Qc : Option Value → Heap → List Loc → Prop} {argsL st : List Value} {ps : List FieldType} {rt : Option FieldType} {a : Addr} (X : Stand p l e R s m args below meth c T locs cells slots) (hx : p.tables.exec = Jvm.exec) (hby : c.code = by_) (hZ : Z.Warmed39 s.vm) (hown : s.vm.findClass own = some m.cls)
    (w1 : (Jvm.Cond.methodLink own index y).before a0 Z = true) (w2 : (Jvm.Cond.instanceMethod y).before a0 Z = true) (w5 : (Jvm.Cond.selects y.cls y y).before a0 Z = true) (w6 : (Jvm.Cond.privateMethod y).before a0 Z = true) (w3 : (Jvm.Cond.initialized y.cls).before a0 Z = true) (w4 : (Jvm.Cond.code y bytes maxL ret).before a0 Z = true) (hy : y.cls ≠ "java/lang/invoke/MethodHandle" ∧ y.cls ≠ "java/lang/invoke/VarHandle")
    (hM : Con l Z y bytes maxL ret [] rm as h Qc) (eT : T.heap = h) (hE : Exa Z h a C) (hf : rm.frames + 1 ≤ R.frames) (hl : W + (maxL + 11) + rm.locals ≤ R.locals) (hsize : Ls.size = c.maxLocals) (hpd : parseMethodDescriptor y.desc = some ⟨ps, rt⟩) (hlen : argsL.length = ps.length) (hst : st = argsL.reverse ++ .ref a :: rest) (has : (.ref a :: argsL).toArray = as) (hW : 0 + (rest.map fun v => v.category).sum ≤ W)
    (hd : decode by_ pc = .ok (.invokevirtual index, 3)) (hp : pc + 3 = pc') (hc : cells + rm.cells ≤ R.cells) (hs : slots + rm.slots ≤ R.slots)
    (k : ∀ (v : Option Value) (T' : State) (L : List Loc), Stand p l e R s m args below meth c T' (locs ++ L) (cells + rm.cells) (slots + rm.slots) → Qc v T'.heap L → Go p e below P (T'.setTop (mkF m pc' Ls (v.toList ++ rest)))) : Go p e below P (T.setTop (mkF m pc Ls st)) := by
  subst hp
  obtain ⟨cq, q1, q2⟩ := hE.cell
  obtain ⟨v, _, ⟨T3, L3, k3, n3⟩, -, X3, ⟨Lc3, hQ3, l3, y3, z3⟩, st3⟩ := X.privateBack hx (y := y) hown (mvT hZ w1) (mvT hZ w2) (mvT hZ w5) (Cond.privateMethod_at (mvP hZ w6 (args := #[]))) (mvT hZ w4) hy (backOf (W := W) hM hZ w4 w3 hf hl) (g := mkF m pc Ls st) rfl hsize (Steps.refl _) (a := a) (by rw [eT]; exact q1) q2 (argsL := argsL) (rest := rest) (lenOf hpd hlen) hst hW (hb hby hd) (fun _ _ => ⟨has, eT, hc, hs⟩)
  dsimp only [Pt.U, Pt.locs, Pt.cells, Pt.slots] at X3 l3 y3 z3 st3 hQ3
  subst l3 y3 z3
  exact Go.via st3 (k v T3 Lc3 X3 hQ3)
theorem Go.callF {own : String} {index count : Nat} {x y : MethodName} {bytes : ByteArray} {maxL : Nat} {ret : Option FieldType} {rm : Room} {W : Nat} {as : Array Value} {Qc : Option Value → Heap → List Loc → Prop} {argsL st : List Value} {ps : List FieldType} {rt : Option FieldType} {a : Addr} (X : Stand p l e R s m args below meth c T locs cells slots) (hx : p.tables.exec = Jvm.exec) (hby : c.code = by_) (hZ : Z.Warmed39 s.vm) (hown : s.vm.findClass own = some m.cls)
    (w1 : (Jvm.Cond.methodLink own index x).before a0 Z = true) (w2 : (Jvm.Cond.declares x).before a0 Z = true) (w7 : (Jvm.Cond.interfaceMethod x.cls x.cls x.name x.desc).before args s = true) (w5 : (Jvm.Cond.selects C x y).before a0 Z = true) (w6 : (Jvm.Cond.instanceMethod y).before a0 Z = true) (w8 : (Jvm.Cond.publicMethod y).before a0 Z = true) (w9 : (Jvm.Cond.unhidden C x.name x.desc).before a0 Z = true) (w10 : (Jvm.Cond.castable C x.cls).before a0 Z = true) (w3 : (Jvm.Cond.initialized y.cls).before a0 Z = true) (w4 : (Jvm.Cond.code y bytes maxL ret).before a0 Z = true) (hy : x.cls ≠ "java/lang/invoke/MethodHandle" ∧ x.cls ≠ "java/lang/invoke/VarHandle")
    (hM : Con l Z y bytes maxL ret [] rm as h Qc) (eT : T.heap = h) (hE : Exa Z h a C) (hf : rm.frames + 1 ≤ R.frames) (hl : W + (maxL + 11) + rm.locals ≤ R.locals) (hsize : Ls.size = c.maxLocals) (hpd : parseMethodDescriptor x.desc = some ⟨ps, rt⟩) (hlen : argsL.length = ps.length) (hst : st = argsL.reverse ++ .ref a :: rest) (has : (.ref a :: argsL).toArray = as) (hW : 0 + (rest.map fun v => v.category).sum ≤ W)
    (hd : decode by_ pc = .ok (.invokeinterface index count, 5)) (hp : pc + 5 = pc') (hc : cells + rm.cells ≤ R.cells) (hs : slots + rm.slots ≤ R.slots)
    (k : ∀ (v : Option Value) (T' : State) (L : List Loc), Stand p l e R s m args below meth c T' (locs ++ L) (cells + rm.cells) (slots + rm.slots) → Qc v T'.heap L → Go p e below P (T'.setTop (mkF m pc' Ls (v.toList ++ rest)))) : Go p e below P (T.setTop (mkF m pc Ls st)) := by
  subst hp
  obtain ⟨cq, kq, q4a, q4b, q4c⟩ := isOf (T := T) hZ eT hE
  obtain ⟨v, _, ⟨T3, L3, k3, n3⟩, -, X3, ⟨Lc3, hQ3, l3, y3, z3⟩, st3⟩ := X.interfaceBack hx (xi := x) (y := y) hown (mvT hZ w1) (mvT hZ w2) w7 (mvT hZ w5) (mvT hZ w6) (mvT hZ w8) (mvT hZ w9) (mvT hZ w10) hy (backOf (W := W) hM hZ w4 w3 hf hl) q4a q4b q4c (g := mkF m pc Ls st) rfl hsize (Steps.refl _) (argsL := argsL) (rest := rest) (lenOf hpd hlen) hst hW (hb hby hd) (fun _ _ => ⟨has, eT, hc, hs⟩)
  dsimp only [Pt.U, Pt.locs, Pt.cells, Pt.slots] at X3 l3 y3 z3 st3 hQ3
  subst l3 y3 z3
  exact Go.via st3 (k v T3 Lc3 X3 hQ3)
end OwnMore

section OwnArr
variable {p : Program} {l : Launch} {e : Env} {R : Room} {s : State} {m : MethodId} {args : Array Value} {below : List Frame} {meth : Method} {c : Code} {T : State} {locs : List Loc} {cells slots : Nat} {Z : State} {a0 : Array Value} {h h' : Heap} {P : Option Value → State → Prop} {by_ : ByteArray} {pc pc' : Nat} {Ls : Array Slot} {rest : List Value} {a b y : Addr} {ty ty' : FieldType} {z z' i : Int} {f f' : Int → Value} {sl : Nat} {v : Value} {ws : List Addr} {C : String}
theorem Ar.neTy (A : Ar Z h a ty z f) (B : Ar Z h b ty' z' f') (q : ty ≠ ty') : a ≠ b := by
  intro e
  subst e
  obtain ⟨c1, A, -⟩ := A
  obtain ⟨c2, B, -⟩ := B
  cases A.1.symm.trans B.1
  obtain ⟨-, k, hk, comp, hkind⟩ := A.2.1
  obtain ⟨-, k', hk', comp', hkind'⟩ := B.2.1
  cases hk.symm.trans hk'
  rw [hkind] at hkind'
  cases hkind'
  exact q rfl
theorem Ar.neExa {k : Nat} (E : Exa Z h a C) (wi : (Jvm.Cond.instantiable C k).before a0 Z = true) (A : Ar Z h b ty z f) : a ≠ b := by
  obtain ⟨cl, A, -⟩ := A
  exact ne_arr E wi A
/-- the array at a is one of arrays of C -/
def OvA (Z : State) (h : Heap) (a : Addr) (ty : FieldType) (C : String) : Prop := ∃ cl : Cell, h[a]? = some cl ∧ OvrA Z cl.cls ty C
theorem OvA.ext (F : OvA Z h a ty C) (E : Ext h h') : OvA Z h' a ty C := by obtain ⟨cl, q, r⟩ := F; exact ⟨cl, E.2 _ _ q, r⟩
theorem OvA.wr (F : OvA Z h a ty C) (W : Wr h h' b sl v) : OvA Z h' a ty C := by
  obtain ⟨cl, q, r⟩ := F
  obtain ⟨c', e1, e2, -⟩ := wr_at W q
  exact ⟨c', e1, by rw [e2]; exact r⟩
theorem Sto.ofAA (A : Ar Z h a ty z f) (O : OvA Z h a ty' C) (I : Ins Z h y C true) : Sto Z h a (.ref y) := by
  obtain ⟨cl, A, -⟩ := A
  obtain ⟨cl', q, r⟩ := O
  cases q.symm.trans A.1
  exact Sto.ofVA A rfl r I
theorem Go.newarrE {aty : ArrayType} {n : Int32} {cap : Nat} {ad : String} (X : Stand p l e R s m args below meth c T locs cells slots) (hx : p.tables.exec = Jvm.exec) (hby : c.code = by_) (hZ : Z.Warmed39 s.vm) (w : (Jvm.Cond.arrayClass (newarray.typeOf aty)).before a0 Z = true) (eT : T.heap = h) (hd : decode by_ pc = .ok (.newarray aty, 2)) (hp : pc + 2 = pc') (hz : n.toInt = z) (h0 : 0 ≤ z) (hcap : z ≤ cap) (hb0 : cap * 8 ≤ 536870912) (hc : cells + 1 ≤ R.cells) (hl : slots + cap ≤ R.slots) (had : "[" ++ (newarray.typeOf aty).toString = ad)
    (k : ∀ (b : Addr) (T' : State) (h' : Heap), b = h.size → Stand p l e R s m args below meth c T' locs (cells + 1) (slots + cap) → T'.heap = h' → Ext h h' → Ar Z h' b (newarray.typeOf aty) z (fun _ => defaultValue (newarray.typeOf aty)) → Exa Z h' b ad → Go p e below P (T'.setTop (mkF m pc' Ls (.ref b :: rest)))) : Go p e below P (T.setTop (mkF m pc Ls (.int n :: rest))) := by
  subst hp
  obtain ⟨T', h', cA, X', e', E', A', F', st⟩ := newPE X hx hZ w eT (g := mkF m pc Ls (.int n :: rest)) rfl (hb hby hd) rfl (by rw [Int32.lt_iff_toInt_lt, hz, show (0 : Int32).toInt = 0 from by decide]; omega) (cap := cap) (by simp only [Int32.toNatClampNeg, hz]; omega) hb0 hc hl had
  exact Go.st st (k _ T' h' rfl X' e' E' (Ar.new A' hz h0) F')
theorem Go.anewarrA {own : String} {index : Nat} {n : Int32} {cap : Nat} (X : Stand p l e R s m args below meth c T locs cells slots) (hx : p.tables.exec = Jvm.exec) (hby : c.code = by_) (hZ : Z.Warmed39 s.vm) (hown : s.vm.findClass own = some m.cls) (hC : (FieldType.array ty).toString = C) (w1 : (Jvm.Cond.classLink own index C).before a0 Z = true) (w2 : (Jvm.Cond.arrayOver (.array ty)).before a0 Z = true) (eT : T.heap = h) (hd : decode by_ pc = .ok (.anewarray index, 3)) (hp : pc + 3 = pc') (hz : n.toInt = z) (h0 : 0 ≤ z) (hcap : z ≤ cap) (hb0 : cap * 8 ≤ 536870912) (hc : cells + 1 ≤ R.cells) (hl : slots + cap ≤ R.slots)
    (k : ∀ (b : Addr) (T' : State) (h' : Heap), b = h.size → Stand p l e R s m args below meth c T' locs (cells + 1) (slots + cap) → T'.heap = h' → Ext h h' → Ar Z h' b (.array ty) z (fun _ => .null) → OvA Z h' b ty C → Go p e below P (T'.setTop (mkF m pc' Ls (.ref b :: rest)))) : Go p e below P (T.setTop (mkF m pc Ls (.int n :: rest))) := by
  subst hp
  obtain ⟨T', h', cA, X', e', E', A', -, O', st⟩ := newRA X hx hZ hown hC w1 w2 eT (g := mkF m pc Ls (.int n :: rest)) rfl (hb hby hd) rfl (by rw [Int32.lt_iff_toInt_lt, hz, show (0 : Int32).toInt = 0 from by decide]; omega) (cap := cap) (by simp only [Int32.toNatClampNeg, hz]; omega) hb0 hc hl (ad := "[" ++ C) rfl
  exact Go.st st (k _ T' h' rfl X' e' E' (Ar.new A' hz h0) ⟨_, A'.1, O'⟩)
end OwnArr

end Jvm.RoadKit
namespace Jvm.RoadKit
open Sem ClassFile Op Lib Jvm.Stand Jvm.Free Jvm.LawKit
section OwnHeld
variable {p : Program} {l : Launch} {e : Env} {R : Room} {s : State} {vm0 : Vm} {k0 : Nat} {m : MethodId} {args : Array Value} {below : List Frame} {meth : Method} {c : Code} {T : State} {locs : List Loc} {cells slots : Nat} {Z : State} {a0 : Array Value} {h : Heap} {Q : Option Value → Heap → List Loc → Prop} {P : Option Value → State → Prop} {K N : Nat} {by_ : ByteArray} {pc pc' : Nat} {Ls : Array Slot} {rest : List Value} {EL : List (String × Nat)}
/-- the wide contract of a body that reads String constants of EL -/
abbrev ConH (l : Launch) (Z : State) (EL : List (String × Nat)) (y : MethodName) (bytes : ByteArray) (maxL : Nat) (ret : Option FieldType) (ws : List Jvm.Cond) (rm : Room) (as : Array Value) (h : Heap) (Q : Option Value → Heap → List Loc → Prop) : Prop :=
  MetFree l y (head1 (Jvm.Cond.code y bytes maxL ret :: ws) rm) (fun a U => a = as ∧ Z.Warmed39 U.vm ∧ U.heap = h ∧ CHv Z EL U.vm h) (fun _ _ _ _ _ => True) (fun _ U o U' => ∃ v L, o = .returned v ∧ Q v U'.heap L ∧ ReturnedEndW U o U' L rm.cells rm.slots)
theorem ConH.of {y : MethodName} {bytes : ByteArray} {maxL : Nat} {ret : Option FieldType} {ws : List Jvm.Cond} {rm : Room} {as : Array Value} (hpn : plainFor y = true)
    (body : ∀ (p : Program) (e : Env) (s : State) (m : MethodId) (below : List Frame) (meth : Method) (c : Code) (s₁ : State), p.tables.exec = Jvm.exec → c.code = bytes → c.maxLocals = maxL → (s.setVm s.vm).vm.findClass y.cls = some m.cls → meth.name = y.name → meth.sig.returnType = ret → meth.locks = false → Z.Warmed39 (s.setVm s.vm).vm → s.Since s.vm 0 → CHv Z EL s.vm h →
      Stand p l e rm (s.setVm s.vm) m as below meth c s₁ [] 0 0 → s₁.heap = h → Go p e below (Wd s Q rm.cells rm.slots) (s₁.setTop (entryFrame m as maxL))) : ConH l Z EL y bytes maxL ret ws rm as h Q := by
  refine MetFree.of_bodySF hpn hisR ?_
  intro p e s m args below meth c s₁ Bd hml0 hP hK
  obtain ⟨rfl, hZ, hh, hC⟩ := hP
  have hown := findClass_of_methodNamed Bd.named
  have hnm := (name_of_methodNamed Bd.named Bd.method).1
  have X0 := Stand.of_body Bd
  have e0 : s₁.heap = h := by rw [← hh, Bd.state]; rfl
  obtain ⟨U, v, h1, h2, h3, L, h4, h5⟩ := body p e s m below meth c s₁ Bd.exec Bd.bytes hml0 hown hnm Bd.returns Bd.notSynchronized hZ ((State.WarmedH.refl s).since 0) hC X0 e0
  exact ⟨U, _, h1, h2, h3, v, L, rfl, h4, h5⟩
theorem own_backH {y : MethodName} {bytes : ByteArray} {maxL : Nat} {ret : Option FieldType} {rm : Room} {len W : Nat} {as' : Array Value} (hM : ConH l Z EL y bytes maxL ret [] rm as' h Q)
    (hZ : Z.Warmed39 vm0) (wc : (Jvm.Cond.code y bytes maxL ret).before a0 Z = true) (wz : (Jvm.Cond.initialized y.cls).before a0 Z = true) (hf : rm.frames + 1 ≤ R.frames) (hl : W + (maxL + 11) + rm.locals ≤ R.locals) (hEL : EW Z a0 EL) (H : CHv Z EL vm0 h) :
    BackS l R p e below (s.setVm vm0) args y len W (fun A a => a = as' ∧ A.U.heap = h ∧ A.cells + rm.cells ≤ R.cells ∧ A.slots + rm.slots ≤ R.slots)
      (fun A _ v B => ∃ L, Q v B.U.heap L ∧ B.locs = A.locs ++ L ∧ B.cells = A.cells + rm.cells ∧ B.slots = A.slots + rm.slots) := by
  refine BackS.of_freeW (bytes := bytes) (maxL := maxL) (ret := ret) (E := fun _ _ o t L k n => (k = rm.cells ∧ n = rm.slots) ∧ ∃ v, o = .returned v ∧ Q v t.heap L) hM hf hl ?_ ?_ ?_ ?_ ?_
  · intro m meth c A a Y hp
    have hU : Z.Warmed39 A.U.vm := wtrans (s := s.setVm vm0) hZ Y.warmed
    refine ⟨?_, mv hU wc, mv hU wz, hp.2.2⟩
    show (Jvm.Cond.and _ .tt).before a A.U = true
    rw [Cond.before_and, mv hU wc]; rfl
  · intro m meth c A a g mk Y hp
    exact ⟨hp.1, wtrans (s := s.setVm vm0) hZ Y.warmed, hp.2.1, (CHv.at Y hZ hEL H).1⟩
  · intros; trivial
  · rintro _ _ _ _ ⟨v, L, h1, h2, h3⟩
    exact ⟨L, _, _, h3, ⟨rfl, rfl⟩, v, h1, h2⟩
  · rintro m meth c A a g mk v t L k n Y hp _ _ ⟨⟨rfl, rfl⟩, v', e3, e4⟩
    cases e3
    exact ⟨L, e4, rfl, rfl, rfl⟩
theorem Go.callIH {own : String} {index : Nat} {y : MethodName} {bytes : ByteArray} {maxL : Nat} {rm : Room} {W : Nat} {as : Array Value} {Qc : Option Value → Heap → List Loc → Prop} {argsL st : List Value} {ps : List FieldType} {rt : Option FieldType} {a : Addr} (X : Stand p l e R (s.setVm vm0) m args below meth c T locs cells slots) (hx : p.tables.exec = Jvm.exec) (hby : c.code = by_) (hy1 : y.name = "<init>") (hZ : Z.Warmed39 (s.setVm vm0).vm) (hown : (s.setVm vm0).vm.findClass own = some m.cls)
    (w1 : (Jvm.Cond.methodLink own index y).before a0 Z = true) (w2 : (Jvm.Cond.instanceMethod y).before a0 Z = true) (w3 : (Jvm.Cond.initialized y.cls).before a0 Z = true) (w4 : (Jvm.Cond.code y bytes maxL none).before a0 Z = true) (hy : y.cls ≠ "java/lang/invoke/MethodHandle" ∧ y.cls ≠ "java/lang/invoke/VarHandle")
    (hM : ConH l Z EL y bytes maxL none [] rm as h Qc) (eT : T.heap = h) (hf : rm.frames + 1 ≤ R.frames) (hl : W + (maxL + 11) + rm.locals ≤ R.locals) (hsize : Ls.size = c.maxLocals) (hpd : parseMethodDescriptor y.desc = some ⟨ps, rt⟩) (hlen : argsL.length = ps.length) (hst : st = argsL.reverse ++ .ref a :: rest) (has : (.ref a :: argsL).toArray = as) (hW : 0 + (rest.map fun v => v.category).sum ≤ W)
    (hd : decode by_ pc = .ok (.invokespecial index, 3)) (hp : pc + 3 = pc') (hc : cells + rm.cells ≤ R.cells) (hs : slots + rm.slots ≤ R.slots) (hS : s.Since vm0 k0) (hk : k0 ≤ h.size) (hEL : EW Z a0 EL) (H : CHv Z EL vm0 h)
    (k : ∀ (v : Option Value) (T' : State) (L : List Loc), Stand p l e R (s.setVm T'.vm) m args below meth c T' (locs ++ L) (cells + rm.cells) (slots + rm.slots) → s.Since T'.vm T'.heap.size → Z.Warmed39 (s.setVm T'.vm).vm → (s.setVm T'.vm).vm.findClass own = some m.cls → h.size ≤ T'.heap.size → Qc v T'.heap L → Go p e below P (T'.setTop (mkF m pc' Ls (v.toList ++ rest)))) : Go p e below P (T.setTop (mkF m pc Ls st)) := by
  subst hp
  obtain ⟨v, _, ⟨T3, L3, k3, n3⟩, -, X3, hS3, hg3, ⟨Lc3, hQ3, l3, y3, z3⟩, st3⟩ := X.specialBackS hx (y := y) hy1 hown (mvT hZ w1) (mvT hZ w2) (mvT hZ w4) hy (own_backH (W := W) hM hZ w4 w3 hf hl hEL H) (g := mkF m pc Ls st) rfl hsize (Steps.refl _) (a := a) (argsL := argsL) (rest := rest) (lenOf hpd hlen) hst hW (hb hby hd) (fun _ _ => ⟨has, eT, hc, hs⟩)
  dsimp only [Pt.U, Pt.locs, Pt.cells, Pt.slots] at X3 l3 y3 z3 st3 hQ3 hS3 hg3
  subst l3 y3 z3
  subst eT
  obtain ⟨X4, S4, Z4, o4⟩ := rebS hS hk X3 hS3 hg3 hZ hown
  exact Go.via st3 (k v T3 Lc3 X4 S4 Z4 o4 hg3 hQ3)
/-- ldc of a String constant of EL, read -/
theorem Go.ldcR {own text : String} {index n : Nat} {vs : List Value} {z : Int32} (X : Stand p l e R (s.setVm vm0) m args below meth c T locs cells slots) (hx : p.tables.exec = Jvm.exec) (hby : c.code = by_) (hZ : Z.Warmed39 (s.setVm vm0).vm) (hown : (s.setVm vm0).vm.findClass own = some m.cls) (w : (Jvm.Cond.stringLink own index text).before a0 Z = true) (wS : ∀ a ∈ Bundle.stringAtoms, a.before a0 Z = true) (eT : T.heap = h) (hS : s.Since vm0 k0) (hk : k0 ≤ h.size) (hEL : EW Z a0 EL) (hmem : (own, index) ∈ EL) (H : CHv Z EL vm0 h)
    (ht : (∀ c ∈ text.toList, c.toNat < 256) ∧ text.toList.map (fun c => Value.int (Jvm.Lit.byteI c.toNat.toUInt16)) = vs) (hz : ¬ z < 0) (hlz : z.toNatClampNeg = vs.length) (hd : decode by_ pc = .ok (.ldc index, 2)) (hp : pc + 2 = pc') (hn : 4 * text.toList.length ≤ n) (hbig : n ≤ 536870912) (hc : cells + 2 ≤ R.cells) (hl : slots + (n + 4) ≤ R.slots)
    (k : ∀ (a : Addr) (T' : State) (h' : Heap) (k1 : Nat) (b : Addr) (kc : ClassId), Stand p l e R (s.setVm T'.vm) m args below meth c T' locs (cells + 2) (slots + (n + 4)) → T'.heap = h' → Ext h h' → s.Since T'.vm k1 → k1 ≤ h'.size → Z.Warmed39 (s.setVm T'.vm).vm → (s.setVm T'.vm).vm.findClass own = some m.cls →
      Exa Z h' a "java/lang/String" → Fld Z h' a "java/lang/String" "coder" "B" (.int 0) → Fld Z h' a "java/lang/String" "value" "[B" (.ref b) → Arv Z h' b kc .byte z vs (.int 0) → CHr Z EL vm0 h T'.vm h' → Lit (s.setVm T'.vm) own index a → Go p e below P (T'.setTop (mkF m pc' Ls (.ref a :: rest)))) : Go p e below P (T.setTop (mkF m pc Ls rest)) := by
  subst hp
  obtain ⟨a, T', h', k1, b, kc, r1, r2, r3, r4, r5, r6, r7, r8, r9, r10, r11, -, -, r12, r13, -, st⟩ := Jvm.RoadKit.ldcCH X hx hZ hown w wS eT hS hk hEL hmem H ht hz hlz (g := mkF m pc Ls rest) rfl (hb hby hd) hn hbig hc hl
  exact Go.st st (k a T' h' k1 b kc r1 r2 r3 r4 r5 r6 r7 r8 r9 r10 r11 r12 r13)
/-- .. again -/
theorem Go.ldcA {own text : String} {index : Nat} {a : Addr} (X : Stand p l e R (s.setVm vm0) m args below meth c T locs cells slots) (hx : p.tables.exec = Jvm.exec) (hby : c.code = by_) (hZ : Z.Warmed39 (s.setVm vm0).vm) (hown : (s.setVm vm0).vm.findClass own = some m.cls) (w : (Jvm.Cond.stringLink own index text).before a0 Z = true) (L : Lit (s.setVm vm0) own index a) (hd : decode by_ pc = .ok (.ldc index, 2)) (hp : pc + 2 = pc') (k : Go p e below P (T.setTop (mkF m pc' Ls (.ref a :: rest)))) : Go p e below P (T.setTop (mkF m pc Ls rest)) := by
  subst hp
  exact Go.st (Jvm.RoadKit.ldcAgain X hx hZ hown w L (g := mkF m pc Ls rest) rfl (hb hby hd)) k
/-- a literal's bytes as an array -/
theorem own_arv {a : Addr} {kc : ClassId} {ty : FieldType} {n : Int32} {vs : List Value} {d : Value} (A : Arv Z h a kc ty n vs d) : Ar Z h a ty n.toInt (fun q => vs.getD q.toNat d) := by
  obtain ⟨cl, A, -, hs, hn, H, -⟩ := A
  have q : n.toInt = n.toNatClampNeg := by
    have r : (0 : Int32).toInt = 0 := by decide
    have t : ¬ n.toInt < 0 := fun h => hn (Int32.lt_iff_toInt_lt.mpr (by rw [r]; exact h))
    have u : n.toNatClampNeg = n.toInt.toNat := rfl
    omega
  refine ⟨cl, A, by omega, (rng32 n).2, fun i hi => ?_⟩
  have := H i (by omega)
  simpa using this
end OwnHeld
end Jvm.RoadKit
namespace Jvm.RoadKit
open Sem ClassFile Op Lib Jvm.Stand Jvm.Free Jvm.LawKit
section OwnHeld2
variable {p : Program} {l : Launch} {e : Env} {R : Room} {s : State} {vm0 : Vm} {k0 : Nat} {m : MethodId} {args : Array Value} {below : List Frame} {meth : Method} {c : Code} {T : State} {locs : List Loc} {cells slots : Nat} {Z : State} {a0 : Array Value} {h h0 h' : Heap} {Q : Option Value → Heap → List Loc → Prop} {P : Option Value → State → Prop} {K N : Nat} {by_ : ByteArray} {pc pc' : Nat} {Ls : Array Slot} {rest : List Value} {EL : List (String × Nat)} {sl : List Addr}
/-- a wide end that keeps what is held -/
def WdR (Z : State) (EL : List (String × Nat)) (h0 : Heap) (s : State) (Q : Option Value → Heap → List Loc → Prop) (K N : Nat) (v : Option Value) (U : State) : Prop := ∃ L, (Q v U.heap L ∧ CHr Z EL s.vm h0 U.vm U.heap) ∧ ReturnedEndW s (.returned v) U L K N
abbrev ConR (l : Launch) (Z : State) (EL : List (String × Nat)) (sl : List Addr) (y : MethodName) (bytes : ByteArray) (maxL : Nat) (ret : Option FieldType) (ws : List Jvm.Cond) (rm : Room) (as : Array Value) (h : Heap) (Q : Option Value → Heap → List Loc → Prop) : Prop :=
  MetFree l y (head1 (Jvm.Cond.code y bytes maxL ret :: ws) rm) (fun a U => a = as ∧ Z.Warmed39 U.vm ∧ U.heap = h ∧ CHv Z EL U.vm h ∧ ∀ x ∈ sl, Safe Z EL U.vm h x) (fun _ _ _ _ _ => True) (fun _ U o U' => ∃ v L, o = .returned v ∧ (Q v U'.heap L ∧ CHr Z EL U.vm U.heap U'.vm U'.heap) ∧ ReturnedEndW U o U' L rm.cells rm.slots)
theorem ConR.of {y : MethodName} {bytes : ByteArray} {maxL : Nat} {ret : Option FieldType} {ws : List Jvm.Cond} {rm : Room} {as : Array Value} (hpn : plainFor y = true)
    (body : ∀ (p : Program) (e : Env) (s : State) (m : MethodId) (below : List Frame) (meth : Method) (c : Code) (s₁ : State), p.tables.exec = Jvm.exec → c.code = bytes → c.maxLocals = maxL → (s.setVm s.vm).vm.findClass y.cls = some m.cls → meth.name = y.name → meth.sig.returnType = ret → meth.locks = false → Z.Warmed39 (s.setVm s.vm).vm → s.Since s.vm 0 → CHv Z EL s.vm h → (∀ x ∈ sl, Safe Z EL s.vm h x) →
      Stand p l e rm (s.setVm s.vm) m as below meth c s₁ [] 0 0 → s₁.heap = h → Go p e below (WdR Z EL h s Q rm.cells rm.slots) (s₁.setTop (entryFrame m as maxL))) : ConR l Z EL sl y bytes maxL ret ws rm as h Q := by
  refine MetFree.of_bodySF hpn hisR ?_
  intro p e s m args below meth c s₁ Bd hml0 hP hK
  obtain ⟨rfl, hZ, hh, hC, hsl⟩ := hP
  have hown := findClass_of_methodNamed Bd.named
  have hnm := (name_of_methodNamed Bd.named Bd.method).1
  have X0 := Stand.of_body Bd
  have e0 : s₁.heap = h := by rw [← hh, Bd.state]; rfl
  obtain ⟨U, v, h1, h2, h3, L, ⟨h4, h4'⟩, h5⟩ := body p e s m below meth c s₁ Bd.exec Bd.bytes hml0 hown hnm Bd.returns Bd.notSynchronized hZ ((State.WarmedH.refl s).since 0) hC hsl X0 e0
  exact ⟨U, _, h1, h2, h3, v, L, rfl, ⟨h4, by rw [hh]; exact h4'⟩, h5⟩
theorem own_backR {y : MethodName} {bytes : ByteArray} {maxL : Nat} {ret : Option FieldType} {rm : Room} {len W : Nat} {as' : Array Value} (hM : ConR l Z EL sl y bytes maxL ret [] rm as' h Q)
    (hZ : Z.Warmed39 vm0) (wc : (Jvm.Cond.code y bytes maxL ret).before a0 Z = true) (wz : (Jvm.Cond.initialized y.cls).before a0 Z = true) (hf : rm.frames + 1 ≤ R.frames) (hl : W + (maxL + 11) + rm.locals ≤ R.locals) (hEL : EW Z a0 EL) (H : CHv Z EL vm0 h) (hsl : ∀ x ∈ sl, x < h.size ∧ Safe Z EL vm0 h x) :
    BackS l R p e below (s.setVm vm0) args y len W (fun A a => a = as' ∧ A.U.heap = h ∧ A.cells + rm.cells ≤ R.cells ∧ A.slots + rm.slots ≤ R.slots)
      (fun A _ v B => ∃ L, (Q v B.U.heap L ∧ CHr Z EL vm0 h B.U.vm B.U.heap) ∧ B.locs = A.locs ++ L ∧ B.cells = A.cells + rm.cells ∧ B.slots = A.slots + rm.slots) := by
  refine BackS.of_freeW (bytes := bytes) (maxL := maxL) (ret := ret) (E := fun _ first o t L k n => (k = rm.cells ∧ n = rm.slots) ∧ ∃ v, o = .returned v ∧ Q v t.heap L ∧ CHr Z EL first.vm first.heap t.vm t.heap) hM hf hl ?_ ?_ ?_ ?_ ?_
  · intro m meth c A a Y hp
    have hU : Z.Warmed39 A.U.vm := wtrans (s := s.setVm vm0) hZ Y.warmed
    refine ⟨?_, mv hU wc, mv hU wz, hp.2.2⟩
    show (Jvm.Cond.and _ .tt).before a A.U = true
    rw [Cond.before_and, mv hU wc]; rfl
  · intro m meth c A a g mk Y hp
    have q := CHv.at Y hZ hEL H
    exact ⟨hp.1, wtrans (s := s.setVm vm0) hZ Y.warmed, hp.2.1, q.1, fun x hx => q.safe (hsl x hx).1 (hsl x hx).2⟩
  · intros; trivial
  · rintro _ _ _ _ ⟨v, L, h1, ⟨h2, h2'⟩, h3⟩
    exact ⟨L, _, _, h3, ⟨rfl, rfl⟩, v, h1, h2, h2'⟩
  · rintro m meth c A a g mk v t L k n Y hp _ _ ⟨⟨rfl, rfl⟩, v', e3, e4, e5⟩
    cases e3
    exact ⟨L, ⟨e4, (CHv.at Y hZ hEL H).trans (by rw [← hp.2.1]; exact e5)⟩, rfl, rfl, rfl⟩
theorem Go.callIR {own : String} {index : Nat} {y : MethodName} {bytes : ByteArray} {maxL : Nat} {rm : Room} {W : Nat} {as : Array Value} {Qc : Option Value → Heap → List Loc → Prop} {argsL st : List Value} {ps : List FieldType} {rt : Option FieldType} {a : Addr} (X : Stand p l e R (s.setVm vm0) m args below meth c T locs cells slots) (hx : p.tables.exec = Jvm.exec) (hby : c.code = by_) (hy1 : y.name = "<init>") (hZ : Z.Warmed39 (s.setVm vm0).vm) (hown : (s.setVm vm0).vm.findClass own = some m.cls)
    (w1 : (Jvm.Cond.methodLink own index y).before a0 Z = true) (w2 : (Jvm.Cond.instanceMethod y).before a0 Z = true) (w3 : (Jvm.Cond.initialized y.cls).before a0 Z = true) (w4 : (Jvm.Cond.code y bytes maxL none).before a0 Z = true) (hy : y.cls ≠ "java/lang/invoke/MethodHandle" ∧ y.cls ≠ "java/lang/invoke/VarHandle")
    (hM : ConR l Z EL sl y bytes maxL none [] rm as h Qc) (eT : T.heap = h) (hf : rm.frames + 1 ≤ R.frames) (hl : W + (maxL + 11) + rm.locals ≤ R.locals) (hsize : Ls.size = c.maxLocals) (hpd : parseMethodDescriptor y.desc = some ⟨ps, rt⟩) (hlen : argsL.length = ps.length) (hst : st = argsL.reverse ++ .ref a :: rest) (has : (.ref a :: argsL).toArray = as) (hW : 0 + (rest.map fun v => v.category).sum ≤ W)
    (hd : decode by_ pc = .ok (.invokespecial index, 3)) (hp : pc + 3 = pc') (hc : cells + rm.cells ≤ R.cells) (hs : slots + rm.slots ≤ R.slots) (hS : s.Since vm0 k0) (hk : k0 ≤ h.size) (hEL : EW Z a0 EL) (H : CHv Z EL vm0 h) (hsl : ∀ x ∈ sl, x < h.size ∧ Safe Z EL vm0 h x)
    (k : ∀ (v : Option Value) (T' : State) (L : List Loc), Stand p l e R (s.setVm T'.vm) m args below meth c T' (locs ++ L) (cells + rm.cells) (slots + rm.slots) → s.Since T'.vm T'.heap.size → Z.Warmed39 (s.setVm T'.vm).vm → (s.setVm T'.vm).vm.findClass own = some m.cls → h.size ≤ T'.heap.size → (Qc v T'.heap L ∧ CHr Z EL vm0 h T'.vm T'.heap) → Go p e below P (T'.setTop (mkF m pc' Ls (v.toList ++ rest)))) : Go p e below P (T.setTop (mkF m pc Ls st)) := by
  subst hp
  obtain ⟨v, _, ⟨T3, L3, k3, n3⟩, -, X3, hS3, hg3, ⟨Lc3, hQ3, l3, y3, z3⟩, st3⟩ := X.specialBackS hx (y := y) hy1 hown (mvT hZ w1) (mvT hZ w2) (mvT hZ w4) hy (own_backR (W := W) hM hZ w4 w3 hf hl hEL H hsl) (g := mkF m pc Ls st) rfl hsize (Steps.refl _) (a := a) (argsL := argsL) (rest := rest) (lenOf hpd hlen) hst hW (hb hby hd) (fun _ _ => ⟨has, eT, hc, hs⟩)
  dsimp only [Pt.U, Pt.locs, Pt.cells, Pt.slots] at X3 l3 y3 z3 st3 hQ3 hS3 hg3
  subst l3 y3 z3
  subst eT
  obtain ⟨X4, S4, Z4, o4⟩ := rebS hS hk X3 hS3 hg3 hZ hown
  exact Go.via st3 (k v T3 Lc3 X4 S4 Z4 o4 hg3 hQ3)
theorem Go.callSR {own : String} {index : Nat} {y : MethodName} {bytes : ByteArray} {maxL : Nat} {ret : Option FieldType} {rm : Room} {W : Nat} {as : Array Value} {Qc : Option Value → Heap → List Loc → Prop} {argsL st : List Value} {ps : List FieldType} {rt : Option FieldType} (X : Stand p l e R (s.setVm vm0) m args below meth c T locs cells slots) (hx : p.tables.exec = Jvm.exec) (hby : c.code = by_) (hZ : Z.Warmed39 (s.setVm vm0).vm) (hown : (s.setVm vm0).vm.findClass own = some m.cls)
    (w1 : (Jvm.Cond.methodLink own index y).before a0 Z = true) (w2 : (Jvm.Cond.static y).before a0 Z = true) (w3 : (Jvm.Cond.initialized y.cls).before a0 Z = true) (w4 : (Jvm.Cond.code y bytes maxL ret).before a0 Z = true) (hy : y.cls ≠ "java/lang/invoke/MethodHandle" ∧ y.cls ≠ "java/lang/invoke/VarHandle")
    (hM : ConR l Z EL sl y bytes maxL ret [] rm as h Qc) (eT : T.heap = h) (hf : rm.frames + 1 ≤ R.frames) (hl : W + (maxL + 11) + rm.locals ≤ R.locals) (hsize : Ls.size = c.maxLocals) (hpd : parseMethodDescriptor y.desc = some ⟨ps, rt⟩) (hlen : argsL.length = ps.length) (hst : st = argsL.reverse ++ rest) (has : argsL.toArray = as) (hW : 0 + (rest.map fun v => v.category).sum ≤ W)
    (hd : decode by_ pc = .ok (.invokestatic index, 3)) (hp : pc + 3 = pc') (hc : cells + rm.cells ≤ R.cells) (hs : slots + rm.slots ≤ R.slots) (hS : s.Since vm0 k0) (hk : k0 ≤ h.size) (hEL : EW Z a0 EL) (H : CHv Z EL vm0 h) (hsl : ∀ x ∈ sl, x < h.size ∧ Safe Z EL vm0 h x)
    (k : ∀ (v : Option Value) (T' : State) (L : List Loc), Stand p l e R (s.setVm T'.vm) m args below meth c T' (locs ++ L) (cells + rm.cells) (slots + rm.slots) → s.Since T'.vm T'.heap.size → Z.Warmed39 (s.setVm T'.vm).vm → (s.setVm T'.vm).vm.findClass own = some m.cls → h.size ≤ T'.heap.size → (Qc v T'.heap L ∧ CHr Z EL vm0 h T'.vm T'.heap) → Go p e below P (T'.setTop (mkF m pc' Ls (v.toList ++ rest)))) : Go p e below P (T.setTop (mkF m pc Ls st)) := by
  subst hp
  obtain ⟨v, _, ⟨T3, L3, k3, n3⟩, -, X3, hS3, hg3, ⟨Lc3, hQ3, l3, y3, z3⟩, st3⟩ := callSS X hx (y := y) hown (mvT hZ w1) (mvT hZ w2) (mvT hZ w3) (mvT hZ w4) hy (own_backR (W := W) hM hZ w4 w3 hf hl hEL H hsl) (g := mkF m pc Ls st) rfl hsize (argsL := argsL) (rest := rest) (lenOf hpd hlen) hst hW (hb hby hd) (fun _ _ => ⟨has, eT, hc, hs⟩)
  dsimp only [Pt.U, Pt.locs, Pt.cells, Pt.slots] at X3 l3 y3 z3 st3 hQ3 hS3 hg3
  subst l3 y3 z3
  subst eT
  obtain ⟨X4, S4, Z4, o4⟩ := rebS hS hk X3 hS3 hg3 hZ hown
  exact Go.via st3 (k v T3 Lc3 X4 S4 Z4 o4 hg3 hQ3)
theorem Go.endR {w : Option Value} {A : State} (X : Stand p l e R (s.setVm vm0) m args below meth c T locs cells slots) (hS : s.Since vm0 k0) (hk : k0 ≤ T.heap.size) (hZ : Z.Warmed39 vm0) (hEL : EW Z a0 EL) (hR : CHr Z EL s.vm h0 vm0 T.heap) (hlk : meth.locks = false) (hr0 : meth.sig.returnType = none → w = none) (f : ∀ fs, (∀ (f : JFrame) (acts : List Action), f.method = m → f.locked = none → f.entered = [] → (doReturn e (T.setTop f) acts w).1 = T.setFrames fs) → Steps p.tables e below A (T.setFrames fs))
    (hc : cells ≤ K) (hn : slots ≤ N) (q : Q w T.heap locs) : Go p e below (WdR Z EL h0 s Q K N) A := by
  obtain ⟨fs, hr, hrun, hended, hE⟩ := X.leaveW hS hk (v := w) hr0 hlk
  have hR2 : CHr Z EL s.vm h0 T.vm T.heap := hR.trans (CHv.at X hZ hEL hR.1)
  exact ⟨_, _, f fs hr, hrun, hended, locs, ⟨q, hR2⟩, hE.1, hE.2.1, hE.2.2.1, hE.2.2.2.mono hc hn⟩
theorem Go.ret0R (X : Stand p l e R (s.setVm vm0) m args below meth c T locs cells slots) (hx : p.tables.exec = Jvm.exec) (hby : c.code = by_) (hlk : meth.locks = false) (hret : meth.sig.returnType = none) (hd : decode by_ pc = .ok (.return_, 1)) (hc : cells ≤ K) (hn : slots ≤ N) (hS : s.Since vm0 k0) (hk : k0 ≤ T.heap.size) (hZ : Z.Warmed39 (s.setVm vm0).vm) (hEL : EW Z a0 EL) (hR : CHr Z EL s.vm h0 vm0 T.heap) (q : Q none T.heap locs) : Go p e below (WdR Z EL h0 s Q K N) (T.setTop (mkF m pc Ls [])) :=
  Go.endR X hS hk hZ hEL hR hlk (fun _ => rfl) (fun fs hr => X.returnOut hx hret (hb hby hd) hr) hc hn q
theorem Go.retAR {w : Value} {t : FieldType} (X : Stand p l e R (s.setVm vm0) m args below meth c T locs cells slots) (hx : p.tables.exec = Jvm.exec) (hby : c.code = by_) (hlk : meth.locks = false) (hret : meth.sig.returnType = some t) (hnw : narrow t w = w) (ht : t.isReference = true) (hw : w.isRef = true) (hd : decode by_ pc = .ok (.areturn, 1)) (hc : cells ≤ K) (hn : slots ≤ N) (hS : s.Since vm0 k0) (hk : k0 ≤ T.heap.size) (hZ : Z.Warmed39 (s.setVm vm0).vm) (hEL : EW Z a0 EL) (hR : CHr Z EL s.vm h0 vm0 T.heap) (q : Q (some w) T.heap locs) : Go p e below (WdR Z EL h0 s Q K N) (T.setTop (mkF m pc Ls (w :: rest))) :=
  Go.endR X hS hk hZ hEL hR hlk (fun h => by rw [hret] at h; cases h) (fun fs hr => retOut X hx hret hnw (Or.inr (Or.inr (Or.inr (Or.inr ⟨rfl, ht, hw⟩)))) (hb hby hd) hr) hc hn q
/-- ldc of a String constant of EL, read, and what it is not -/
theorem Go.ldcR2 {own text : String} {index n : Nat} {vs : List Value} {z : Int32} (X : Stand p l e R (s.setVm vm0) m args below meth c T locs cells slots) (hx : p.tables.exec = Jvm.exec) (hby : c.code = by_) (hZ : Z.Warmed39 (s.setVm vm0).vm) (hown : (s.setVm vm0).vm.findClass own = some m.cls) (w : (Jvm.Cond.stringLink own index text).before a0 Z = true) (wS : ∀ a ∈ Bundle.stringAtoms, a.before a0 Z = true) (eT : T.heap = h) (hS : s.Since vm0 k0) (hk : k0 ≤ h.size) (hEL : EW Z a0 EL) (hmem : (own, index) ∈ EL) (H : CHv Z EL vm0 h)
    (ht : (∀ c ∈ text.toList, c.toNat < 256) ∧ text.toList.map (fun c => Value.int (Jvm.Lit.byteI c.toNat.toUInt16)) = vs) (hz : ¬ z < 0) (hlz : z.toNatClampNeg = vs.length) (hd : decode by_ pc = .ok (.ldc index, 2)) (hp : pc + 2 = pc') (hn : 4 * text.toList.length ≤ n) (hbig : n ≤ 536870912) (hc : cells + 2 ≤ R.cells) (hl : slots + (n + 4) ≤ R.slots)
    (k : ∀ (a : Addr) (T' : State) (h' : Heap) (k1 : Nat) (b : Addr) (kc : ClassId), Stand p l e R (s.setVm T'.vm) m args below meth c T' locs (cells + 2) (slots + (n + 4)) → T'.heap = h' → Ext h h' → s.Since T'.vm k1 → k1 ≤ h'.size → Z.Warmed39 (s.setVm T'.vm).vm → (s.setVm T'.vm).vm.findClass own = some m.cls →
      Exa Z h' a "java/lang/String" → Fld Z h' a "java/lang/String" "coder" "B" (.int 0) → Fld Z h' a "java/lang/String" "value" "[B" (.ref b) → Arv Z h' b kc .byte z vs (.int 0) → CHr Z EL vm0 h T'.vm h' → Lit (s.setVm T'.vm) own index a → (∀ x, Safe Z EL T'.vm h' x → x ≠ a ∧ x ≠ b) → Go p e below P (T'.setTop (mkF m pc' Ls (.ref a :: rest)))) : Go p e below P (T.setTop (mkF m pc Ls rest)) := by
  subst hp
  obtain ⟨a, T', h', k1, b, kc, r1, r2, r3, r4, r5, r6, r7, r8, r9, r10, r11, -, -, r12, r13, r14, st⟩ := Jvm.RoadKit.ldcCH X hx hZ hown w wS eT hS hk hEL hmem H ht hz hlz (g := mkF m pc Ls rest) rfl (hb hby hd) hn hbig hc hl
  exact Go.st st (k a T' h' k1 b kc r1 r2 r3 r4 r5 r6 r7 r8 r9 r10 r11 r12 r13 r14)
/-- a private method's 'selects', from one of another method of its class -/
theorem own_sel {C : String} {w y : MethodName} (h1 : (Jvm.Cond.selects C w w).before a0 Z = true) (hcl : w.cls = y.cls) (h2 : (Jvm.Cond.privateMethod y).before a0 Z = true) (h3 : (Jvm.Cond.instanceMethod y).before a0 Z = true) (hy : y.cls ≠ "java/lang/invoke/MethodHandle" ∧ y.cls ≠ "java/lang/invoke/VarHandle") : (Jvm.Cond.selects y.cls y y).before a0 Z = true := by
  obtain ⟨c2, r2, m2, q1, q2, q3, q4, kP, hkP, hkPi⟩ := Cond.selects_spec h1
  exact Jvm.Stand.selects_self_of_private (by rw [← hcl]; exact findClass_of_methodNamed q3) hkP hkPi (Cond.privateMethod_at h2) h3 hy
/-- an array as a list of values -/
theorem own_toArv {a : Addr} {ty : FieldType} {z : Int} {f : Int → Value} {zi : Int32} (d : Value) (A : Ar Z h a ty z f) (hz : zi.toInt = z) (hf : ∀ i : Nat, (i : Int) < z → fits ty (f i) = true) : ∃ kc, Arv Z h a kc ty zi ((List.range zi.toNatClampNeg).map fun i : Nat => f (i : Int)) d := by
  obtain ⟨cl, A, q1, q2, q3⟩ := A
  have u : zi.toNatClampNeg = zi.toInt.toNat := rfl
  have r : (0 : Int32).toInt = 0 := by decide
  refine ⟨cl.cls, cl, A, rfl, by omega, fun h => by rw [Int32.lt_iff_toInt_lt, r] at h; omega, fun i hi => ?_, fun i hi => ?_⟩
  · rw [q3 i (by omega)]; congr 1
    rw [List.getD_eq_getElem?_getD, List.getElem?_map, List.getElem?_range (by omega)]; rfl
  · rw [List.getD_eq_getElem?_getD, List.getElem?_map, List.getElem?_range (by omega)]
    exact hf i (by omega)
/-- System.arraycopy from the start to the start of another array of the same numbers -/
theorem Go.acopy {own : String} {index : Nat} {a b : Addr} {ty : FieldType} {z z' k : Int} {f f' : Int → Value} {zi zi' nn : Int32} {n0 W : Nat} (X : Stand p l e R s m args below meth c T locs cells slots) (hx : p.tables.exec = Jvm.exec) (hby : c.code = by_) (hZ : Z.Warmed39 s.vm) (hown : s.vm.findClass own = some m.cls)
    (w1 : (Jvm.Cond.methodLink own index Jvm.Stand.acN).before a0 Z = true) (w2 : (Jvm.Cond.native Jvm.Stand.acN).before a0 Z = true) (w3 : (Jvm.Cond.static Jvm.Stand.acN).before a0 Z = true) (w4 : (Jvm.Cond.initialized "java/lang/System").before a0 Z = true) (eT : T.heap = h) (A : Ar Z h a ty z f) (B : Ar Z h b ty z' f') (hr : refKind ty = false)
    (hz : zi.toInt = z) (hz' : zi'.toInt = z') (hf : ∀ i : Nat, (i : Int) < z → fits ty (f i) = true) (hf' : ∀ i : Nat, (i : Int) < z' → fits ty (f' i) = true) (hk : nn.toInt = k) (k0 : 0 ≤ k) (k1 : k ≤ z) (k2 : k ≤ z') (N : Fr n0 locs) (ge : n0 ≤ b) (hsize : Ls.size = c.maxLocals) (hd : decode by_ pc = .ok (.invokestatic index, 3)) (hp : pc + 3 = pc')
    (hfr : 1 ≤ R.frames) (hW : 0 + (rest.map fun v => v.category).sum ≤ W) (hlo : W + (nativeFrameWords "java/lang/System" "arraycopy" 5 + 11) ≤ R.locals)
    (go : ∀ T' h' L, Stand p l e R s m args below meth c T' L cells slots → T'.heap = h' → Fr n0 L → Keep h h' [b] → Ar Z h' b ty z' (fun q => if q < k then f q else f' q) → Go p e below P (T'.setTop (mkF m pc' Ls rest))) :
    Go p e below P (T.setTop (mkF m pc Ls (.int nn :: .int 0 :: .ref b :: .int 0 :: .ref a :: rest))) := by
  subst hp
  obtain ⟨kc, A1⟩ := own_toArv .null A hz hf
  obtain ⟨kd, B1⟩ := own_toArv .null B hz' hf'
  have r0 : (0 : Int32).toInt = 0 := by decide
  have u1 : zi.toNatClampNeg = zi.toInt.toNat := rfl
  have u2 : zi'.toNatClampNeg = zi'.toInt.toNat := rfl
  have u3 : nn.toNatClampNeg = nn.toInt.toNat := rfl
  have u0 : (0 : Int32).toNatClampNeg = 0 := by decide
  obtain ⟨T', h', L, X', e', N', K', A', st⟩ := cpA X hx hZ hown w1 w2 w3 w4 eT A1 B1 (Or.inl ⟨rfl, hr⟩) (sp := 0) (dp := 0) (nn := nn) (by decide) (by decide) (fun h => by rw [Int32.lt_iff_toInt_lt, r0] at h; omega) (by rw [u0]; omega) (by rw [u0]; omega) rfl (by rw [u0]; simp; omega) N ge (g := mkF m pc Ls (.int nn :: .int 0 :: .ref b :: .int 0 :: .ref a :: rest)) rfl hsize rfl (hb hby hd) hfr hW hlo
  refine Go.st st (go T' h' L X' e' N' K' ?_)
  have F := own_arv A'
  rw [hz'] at F
  refine F.congr fun i h1 h2 => ?_
  rw [u0]
  simp only [List.take_zero, List.nil_append, Nat.zero_add]
  obtain ⟨j, rfl⟩ := Int.eq_ofNat_of_zero_le h1
  rw [show ((j : Int)).toNat = j from rfl, List.getD_eq_getElem?_getD]
  have hj : j < zi'.toNatClampNeg := by omega
  by_cases q : (j : Int) < k
  · have hjn : j < nn.toNatClampNeg := by omega
    have hjz : j < zi.toNatClampNeg := by omega
    rw [if_pos q, List.getElem?_append_left (by simpa using hjn)]
    simp [hjn, hjz]
  · have hjn : nn.toNatClampNeg ≤ j := by omega
    have e : nn.toNatClampNeg + (j - nn.toNatClampNeg) = j := by omega
    rw [if_neg q, List.getElem?_append_right (by simpa using hjn)]
    simp [e, hj]
theorem Go.acmpN {o : Int} {x y : Addr} (X : Stand p l e R s m args below meth c T locs cells slots) (hx : p.tables.exec = Jvm.exec) (hby : c.code = by_) (hd : decode by_ pc = .ok (.if_acmp .eq o, 3)) (ho : 0 ≤ (pc : Int) + o) (hp : pc + 3 = pc') (q : x ≠ y) (k : Go p e below P (T.setTop (mkF m pc' Ls rest))) : Go p e below P (T.setTop (mkF m pc Ls (.ref y :: .ref x :: rest))) :=
  Go.st (fun t k => acmp X hx rfl (x := .ref x) (y := .ref y) rfl rfl rfl (hb hby hd) rfl (same := false) (by simp [q]) ho (hp.symm.trans (if_neg (by decide)).symm) k) k
theorem Go.cutI {α : Type} {F : α → State} {I : α → Prop} {S : State} (k : ∀ x, I x → Go p e below P (F x)) (k2 : (∀ x, I x → Go p e below P (F x)) → Go p e below P S) : Go p e below P S := k2 k
end OwnHeld2
end Jvm.RoadKit
namespace Jvm.Pilot.@@N@@
open Jvm Jvm.ClassFile Sem Op Lib Jvm.Free Jvm.Stand Jvm.LawKit Jvm.RoadKit Bundle Jvm.Pilot.@@N@@.Jvm.D
def own_ck (x0 x1 : Int32) : Int32 := nar .char (((x0.toUInt32 >>> (((8 : Int32) * x1) &&& 31).toUInt32).toInt32) &&& (127 : Int32)).toUInt32.toUInt16.toUInt32.toInt32
def own_cf (x : Int32) (q : Int) : Int32 := own_ck x (if q = 0 then 0 else if q = 1 then 1 else 2)
def own_gx (v : Int32) : Int32 := nar .char (v &&& (255 : Int32)).toUInt32.toUInt16.toUInt32.toInt32
def own_rm (len k cap : Int) : Int := if len + k ≤ cap then cap else 2 * (len + k)
def own_sp (len : Int) : Int := if 0 < len then 1 else 0
def own_w (len : Int) (C cf : Int → Int32) (q : Int) : Int32 := if q < len then C q else if q < len + own_sp len then 32 else cf (q - len - own_sp len)
def own_cap (len n cap : Int) : Int := own_rm (len + own_sp len) n (if 0 < len then own_rm len 1 cap else cap)
abbrev Own7 (c : Int32) : Prop := 0 ≤ c.toInt ∧ c.toInt ≤ 127
theorem own_ckr (x i : Int32) : Own7 (own_ck x i) := by
  unfold Own7 own_ck
  have a := c_mask (x.toUInt32 >>> (((8 : Int32) * i) &&& 31).toUInt32).toInt32 127 7 (by decide) (by decide)
  generalize ((x.toUInt32 >>> (((8 : Int32) * i) &&& 31).toUInt32).toInt32 &&& (127 : Int32)) = y at *
  have b := c_i2c y
  have c := c_i2c y.toUInt32.toUInt16.toUInt32.toInt32
  show 0 ≤ (y.toUInt32.toUInt16.toUInt32.toInt32.toUInt32.toUInt16.toUInt32.toInt32).toInt ∧ _
  have e : nar .char y.toUInt32.toUInt16.toUInt32.toInt32 = y.toUInt32.toUInt16.toUInt32.toInt32.toUInt32.toUInt16.toUInt32.toInt32 := rfl
  rw [e]
  omega
theorem own_cfr (x : Int32) (q : Int) : Own7 (own_cf x q) := own_ckr _ _
theorem own_b7 {c : Int32} (h : Own7 c) : c.toInt8.toInt32 = c := by
  apply Int32.toInt_inj.mp; have a := c_i2b c; unfold Own7 at h; omega
theorem own_n7 {c : Int32} (h : Own7 c) : nar .byte c = c := own_b7 h
theorem own_c7 {c : Int32} (h : Own7 c) : c.toUInt32.toUInt16.toUInt32.toInt32 = c := by
  apply Int32.toInt_inj.mp; have a := c_i2c c; unfold Own7 at h; omega
theorem own_nc7 {c : Int32} (h : Own7 c) : nar .char c = c := own_c7 h
theorem own_le7 {c : Int32} (h : Own7 c) : c ≤ (255 : Int32) := by
  rw [Int32.le_iff_toInt_le, show (255 : Int32).toInt = 255 from by decide]; unfold Own7 at h; omega
theorem own_gx7 {c : Int32} (h : Own7 c) : own_gx c = c := by
  have a := c_mask c 255 8 (by decide) (by decide)
  have e : c &&& (255 : Int32) = c := by apply Int32.toInt_inj.mp; unfold Own7 at h; omega
  unfold own_gx
  rw [e, own_c7 h, own_nc7 h]
theorem own_fb (x : Int32) (h : nar .byte x = x) : fits .byte (.int x) = true := by rw [← h]; exact fits_nar_byte x
theorem own_n4 {x : Int32} (y : Int32) (h : x = y &&& (3 : Int32)) : x = 0 ∨ x = 1 ∨ x = 2 ∨ x = 3 := by
  have e := c_mask y 3 2 (by decide) (by decide)
  rw [← h] at e
  have z0 : (0 : Int32).toInt = 0 := by decide
  have z1 : (1 : Int32).toInt = 1 := by decide
  have z2 : (2 : Int32).toInt = 2 := by decide
  have z3 : (3 : Int32).toInt = 3 := by decide
  rw [← Int32.toInt_inj, ← Int32.toInt_inj, ← Int32.toInt_inj, ← Int32.toInt_inj]
  omega
theorem own_nul {Z : State} {h : Heap} {a b : Addr} {C n d : String} (F : Fld Z h a C n d .null) (G : Fld Z h a C n d (.ref b)) : False := by
  obtain ⟨cell, cf, k, i, f, h1, h2, h3, h4, h5, h6, h7⟩ := F
  obtain ⟨cell', cf', k', i', f', g1, g2, g3, g4, g5, g6, g7⟩ := G
  cases h1.symm.trans g1
  cases h2.symm.trans g2
  cases h7.symm.trans g7

def own_S (Z : State) (kk : Int32) (sf : Value) : Prop := kk ≠ 0 ∧ Sta Z Z.heap "java/lang/String" "COMPACT_STRINGS" "Z" (.int kk) ∧ Sta Z Z.heap "jdk/internal/util/Preconditions" "SIOOBE_FORMATTER" "Ljava/util/function/BiFunction;" sf ∧ (sf = .null ∨ ∃ r, sf = .ref r)
def own_EL : List (String × Nat) := [("com/example/vellum_channels/vellumchannels/frame/HeaderLineToOctetsPinLaw", 29), ("java/lang/String", 7)]
theorem own_ew {Z : State} {a0 : Array Value} (hw : ∀ d ∈ tables_1, d.before a0 Z = true) : EW Z a0 own_EL := EW.cons (hw _ (List.mem_of_getElem? (i := 129) rfl)) (by decide) (EW.cons (hw _ (List.mem_of_getElem? (i := 37) rfl)) (by decide) EW.nil)
theorem own_strs {Z : State} {a0 : Array Value} (hw : ∀ d ∈ tables_1, d.before a0 Z = true) : ∀ d ∈ Bundle.stringAtoms, d.before a0 Z = true := by
  intro d hd
  simp only [Bundle.stringAtoms, List.mem_cons, List.not_mem_nil, or_false] at hd
  rcases hd with rfl | rfl | rfl | rfl | rfl | rfl | rfl
  · exact (hw _ (List.mem_of_getElem? (i := 6) rfl))
  · exact (hw _ (List.mem_of_getElem? (i := 5) rfl))
  · exact (hw _ (List.mem_of_getElem? (i := 26) rfl))
  · exact (hw _ (List.mem_of_getElem? (i := 36) rfl))
  · exact (hw _ (List.mem_of_getElem? (i := 34) rfl))
  · exact (hw _ (List.mem_of_getElem? (i := 38) rfl))
  · exact (hw _ (List.mem_of_getElem? (i := 39) rfl))
def own_sx (Z : State) (h : Heap) (su b : Addr) (n : Int) (cf : Int → Int32) : Prop := Exa Z h su "java/lang/String" ∧ Fld Z h su "java/lang/String" "value" "[B" (.ref b) ∧ Fld Z h su "java/lang/String" "coder" "B" (.int 0) ∧ Ar Z h b .byte n (fun q => .int (cf q))
theorem pd_0 : parseMethodDescriptor "()B" = some ⟨[], some .byte⟩ := by decide +kernel
theorem pd_1 : parseMethodDescriptor "()I" = some ⟨[], some .int⟩ := by decide +kernel
theorem pd_2 : parseMethodDescriptor "()V" = some ⟨[], none⟩ := by decide +kernel
theorem pd_3 : parseMethodDescriptor "()Z" = some ⟨[], some .boolean⟩ := by decide +kernel
theorem pd_4 : parseMethodDescriptor "()[B" = some ⟨[], some (.array .byte)⟩ := by decide +kernel
theorem pd_5 : parseMethodDescriptor "(C)Ljava/lang/String;" = some ⟨[.char], some (.object "java/lang/String")⟩ := by decide +kernel
theorem pd_6 : parseMethodDescriptor "(C)Z" = some ⟨[.char], some .boolean⟩ := by decide +kernel
theorem pd_7 : parseMethodDescriptor "(C)[B" = some ⟨[.char], some (.array .byte)⟩ := by decide +kernel
theorem pd_8 : parseMethodDescriptor "(I)C" = some ⟨[.int], some .char⟩ := by decide +kernel
theorem pd_9 : parseMethodDescriptor "(I)V" = some ⟨[.int], none⟩ := by decide +kernel
theorem pd_10 : parseMethodDescriptor "(II)C" = some ⟨[.int, .int], some .char⟩ := by decide +kernel
theorem pd_11 : parseMethodDescriptor "(II)I" = some ⟨[.int, .int], some .int⟩ := by decide +kernel
theorem pd_12 : parseMethodDescriptor "(II)Ljava/lang/String;" = some ⟨[.int, .int], some (.object "java/lang/String")⟩ := by decide +kernel
theorem pd_13 : parseMethodDescriptor "(II)V" = some ⟨[.int, .int], none⟩ := by decide +kernel
theorem pd_14 : parseMethodDescriptor "(IILjava/util/function/BiFunction;)I" = some ⟨[.int, .int, (.object "java/util/function/BiFunction")], some .int⟩ := by decide +kernel
theorem pd_15 : parseMethodDescriptor "(Ljava/lang/String;)Lcom/example/vellum_channels/vellumchannels/frame/HeaderLine;" = some ⟨[(.object "java/lang/String")], some (.object "com/example/vellum_channels/vellumchannels/frame/HeaderLine")⟩ := by decide +kernel
theorem pd_16 : parseMethodDescriptor "([BB)V" = some ⟨[(.array .byte), .byte], none⟩ := by decide +kernel
theorem pd_17 : parseMethodDescriptor "([BI)B" = some ⟨[(.array .byte), .int], some .byte⟩ := by decide +kernel
theorem pd_18 : parseMethodDescriptor "([BI)C" = some ⟨[(.array .byte), .int], some .char⟩ := by decide +kernel
theorem pd_19 : parseMethodDescriptor "([BI)[B" = some ⟨[(.array .byte), .int], some (.array .byte)⟩ := by decide +kernel
theorem pd_20 : parseMethodDescriptor "([BI[CII)Z" = some ⟨[(.array .byte), .int, (.array .char), .int, .int], some .boolean⟩ := by decide +kernel
theorem pd_21 : parseMethodDescriptor "([C)V" = some ⟨[(.array .char)], none⟩ := by decide +kernel
theorem pd_22 : parseMethodDescriptor "([CII)[B" = some ⟨[(.array .char), .int, .int], some (.array .byte)⟩ := by decide +kernel
theorem pd_23 : parseMethodDescriptor "([CIILjava/lang/Void;)V" = some ⟨[(.array .char), .int, .int, (.object "java/lang/Void")], none⟩ := by decide +kernel
theorem pd_24 : parseMethodDescriptor "([CI[BII)I" = some ⟨[(.array .char), .int, (.array .byte), .int, .int], some .int⟩ := by decide +kernel
theorem d2_0 : decode method_2_code 0 = .ok (.iload_n 0, 1) := by decide +kernel
theorem d2_1 : decode method_2_code 1 = .ok (.bipush 8, 2) := by decide +kernel
theorem d2_3 : decode method_2_code 3 = .ok (.iload_n 1, 1) := by decide +kernel
theorem d2_4 : decode method_2_code 4 = .ok (.imul, 1) := by decide +kernel
theorem d2_5 : decode method_2_code 5 = .ok (.iushr, 1) := by decide +kernel
theorem d2_6 : decode method_2_code 6 = .ok (.bipush 127, 2) := by decide +kernel
theorem d2_8 : decode method_2_code 8 = .ok (.iand, 1) := by decide +kernel
theorem d2_9 : decode method_2_code 9 = .ok (.i2c, 1) := by decide +kernel
theorem d2_10 : decode method_2_code 10 = .ok (.ireturn, 1) := by decide +kernel
theorem ef_2 (m : MethodId) (x0 : Int32) (x1 : Int32) : entryFrame m #[(.int x0), (.int x1)] 2 = mkF m 0 #[.val (.int x0), .val (.int x1)] [] := by first | (simp [entryFrame, mkF, argsToLocals, Value.category]; done) | rfl
theorem pn_HeaderLineToOctetsPinLaw : plainName "com/example/vellum_channels/vellumchannels/frame/HeaderLineToOctetsPinLaw" = true := by first | (simp [plainName, overriddenIn]; done) | decide +kernel
set_option maxRecDepth 65536 in
set_option maxHeartbeats 40000000 in
theorem rmch (l : Launch) (Z : State) (a0 : Array Value) (hw : ∀ d ∈ tables_1, d.before a0 Z = true) (x0 : Int32) (x1 : Int32) (h0 : Heap) :
    Con l Z (⟨"com/example/vellum_channels/vellumchannels/frame/HeaderLineToOctetsPinLaw", "ch", "(II)C"⟩ : MethodName) method_2_code 2 (some .char) [] ({ frames := 0, cells := 0, slots := 0, locals := 0 } : Room) #[(.int x0), (.int x1)] h0 (PQ (some (.int (own_ck x0 x1))) h0) := by
  refine Con.of (plainFor_of_name pn_HeaderLineToOctetsPinLaw) ?_
  intro p e s m below meth c s₁ hx hby hml hown hnm hret hlk hZ X0 e0
  refine Go.cast (ef_2 m x0 x1) ?_
  replace hown : s.vm.findClass "com/example/vellum_channels/vellumchannels/frame/HeaderLineToOctetsPinLaw" = some m.cls := hown
  refine Go.iloadN (pc' := 1) X0 hx hby d2_0 rfl rfl ?_
  refine Go.bipush (pc' := 3) X0 hx hby d2_1 rfl (v := (8 : Int32)) (by decide) ?_
  refine Go.iloadN (pc' := 4) X0 hx hby d2_3 rfl rfl ?_
  refine Go.imul (pc' := 5) X0 hx hby d2_4 rfl ?_
  refine Go.iushr (pc' := 6) X0 hx hby d2_5 rfl ?_
  refine Go.bipush (pc' := 8) X0 hx hby d2_6 rfl (v := (127 : Int32)) (by decide) ?_
  refine Go.iand (pc' := 9) X0 hx hby d2_8 rfl ?_
  refine Go.i2c (pc' := 10) X0 hx hby d2_9 rfl ?_
  exact Go.retZ X0 hx hby hlk hret (by simp) d2_10 (by decide) (by decide) ⟨rfl, rfl, e0⟩
def own_min (x y : Int32) : Int32 := if y < x then y else x
theorem d22_0 : decode jdk_29_method_69_code 0 = .ok (.iload_n 0, 1) := by decide +kernel
theorem d22_1 : decode jdk_29_method_69_code 1 = .ok (.iload_n 1, 1) := by decide +kernel
theorem d22_2 : decode jdk_29_method_69_code 2 = .ok (.if_icmp .gt 7, 3) := by decide +kernel
theorem d22_5 : decode jdk_29_method_69_code 5 = .ok (.iload_n 0, 1) := by decide +kernel
theorem d22_6 : decode jdk_29_method_69_code 6 = .ok (.goto 4, 3) := by decide +kernel
theorem d22_9 : decode jdk_29_method_69_code 9 = .ok (.iload_n 1, 1) := by decide +kernel
theorem d22_10 : decode jdk_29_method_69_code 10 = .ok (.ireturn, 1) := by decide +kernel
theorem ef_22 (m : MethodId) (x0 : Int32) (x1 : Int32) : entryFrame m #[(.int x0), (.int x1)] 2 = mkF m 0 #[.val (.int x0), .val (.int x1)] [] := by first | (simp [entryFrame, mkF, argsToLocals, Value.category]; done) | rfl
set_option maxRecDepth 65536 in
set_option maxHeartbeats 40000000 in
theorem rmMin (l : Launch) (Z : State) (a0 : Array Value) (hw : ∀ d ∈ tables_1, d.before a0 Z = true) (x0 : Int32) (x1 : Int32) (h0 : Heap) :
    Con l Z (⟨"java/lang/Math", "min", "(II)I"⟩ : MethodName) jdk_29_method_69_code 2 (some .int) [] ({ frames := 0, cells := 0, slots := 0, locals := 0 } : Room) #[(.int x0), (.int x1)] h0 (PQ (some (.int (own_min x0 x1))) h0) := by
  refine Con.of (Jvm.Free.JP.mathPlain rfl (by decide +kernel)) ?_
  intro p e s m below meth c s₁ hx hby hml hown hnm hret hlk hZ X0 e0
  refine Go.cast (ef_22 m x0 x1) ?_
  replace hown : s.vm.findClass "java/lang/Math" = some m.cls := hown
  refine Go.iloadN (pc' := 1) X0 hx hby d22_0 rfl rfl ?_
  refine Go.iloadN (pc' := 2) X0 hx hby d22_1 rfl rfl ?_
  refine Go.icmp (pc' := 9) (pn := 5) X0 hx hby d22_2 (by decide) (by decide) rfl (fun (c1 : x1 < x0) => ?_) (fun (c1 : ¬ (x1 < x0)) => ?_)
  ·
    refine Go.iloadN (pc' := 10) X0 hx hby d22_9 rfl rfl ?_
    exact Go.retI X0 hx hby hlk hret d22_10 (by decide) (by decide) ⟨by simp [own_min, c1], rfl, e0⟩
  ·
    refine Go.iloadN (pc' := 6) X0 hx hby d22_5 rfl rfl ?_
    refine Go.goto (pc' := 10) X0 hx hby d22_6 (by decide) (by decide) ?_
    exact Go.retI X0 hx hby hlk hret d22_10 (by decide) (by decide) ⟨by simp [own_min, c1], rfl, e0⟩
theorem d25_0 : decode jdk_43_method_3_code 0 = .ok (.iload_n 0, 1) := by decide +kernel
theorem d25_1 : decode jdk_43_method_3_code 1 = .ok (.sipush 255, 3) := by decide +kernel
theorem d25_4 : decode jdk_43_method_3_code 4 = .ok (.if_icmp .gt 7, 3) := by decide +kernel
theorem d25_7 : decode jdk_43_method_3_code 7 = .ok (.iconst 1, 1) := by decide +kernel
theorem d25_8 : decode jdk_43_method_3_code 8 = .ok (.goto 4, 3) := by decide +kernel
theorem d25_11 : decode jdk_43_method_3_code 11 = .ok (.iconst 0, 1) := by decide +kernel
theorem d25_12 : decode jdk_43_method_3_code 12 = .ok (.ireturn, 1) := by decide +kernel
theorem ef_25 (m : MethodId) (x0 : Int32) : entryFrame m #[(.int x0)] 1 = mkF m 0 #[.val (.int x0)] [] := by first | (simp [entryFrame, mkF, argsToLocals, Value.category]; done) | rfl
theorem pn_StringLatin1 : plainName "java/lang/StringLatin1" = true := by first | (simp [plainName, overriddenIn]; done) | decide +kernel
set_option maxRecDepth 65536 in
set_option maxHeartbeats 40000000 in
theorem rmEnc (l : Launch) (Z : State) (a0 : Array Value) (hw : ∀ d ∈ tables_1, d.before a0 Z = true) (cc : Int32) (h0 : Heap) (q7 : Own7 cc) :
    Con l Z (⟨"java/lang/StringLatin1", "canEncode", "(C)Z"⟩ : MethodName) jdk_43_method_3_code 1 (some .boolean) [] ({ frames := 0, cells := 0, slots := 0, locals := 0 } : Room) #[(.int cc)] h0 (PQ (some (.int 1)) h0) := by
  refine Con.of (plainFor_of_name pn_StringLatin1) ?_
  intro p e s m below meth c s₁ hx hby hml hown hnm hret hlk hZ X0 e0
  refine Go.cast (ef_25 m cc) ?_
  replace hown : s.vm.findClass "java/lang/StringLatin1" = some m.cls := hown
  refine Go.iloadN (pc' := 1) X0 hx hby d25_0 rfl rfl ?_
  refine Go.sipush (pc' := 4) X0 hx hby d25_1 rfl (v := (255 : Int32)) (by decide) ?_
  refine Go.icmpN (pc' := 7) X0 hx hby d25_4 rfl (show ¬ ((255 : Int32) < cc) from Int32.not_lt.mpr (own_le7 q7)) ?_
  refine Go.iconst (pc' := 8) X0 hx hby d25_7 rfl (v := (1 : Int32)) (by decide) ?_
  refine Go.goto (pc' := 12) X0 hx hby d25_8 (by decide) (by decide) ?_
  exact Go.retZ X0 hx hby hlk hret (by simp) d25_12 (by decide) (by decide) ⟨rfl, rfl, e0⟩
theorem d26_0 : decode jdk_43_method_46_code 0 = .ok (.iconst 1, 1) := by decide +kernel
theorem d26_1 : decode jdk_43_method_46_code 1 = .ok (.newarray .byte, 2) := by decide +kernel
theorem d26_3 : decode jdk_43_method_46_code 3 = .ok (.dup, 1) := by decide +kernel
theorem d26_4 : decode jdk_43_method_46_code 4 = .ok (.iconst 0, 1) := by decide +kernel
theorem d26_5 : decode jdk_43_method_46_code 5 = .ok (.iload_n 0, 1) := by decide +kernel
theorem d26_6 : decode jdk_43_method_46_code 6 = .ok (.i2b, 1) := by decide +kernel
theorem d26_7 : decode jdk_43_method_46_code 7 = .ok (.bastore, 1) := by decide +kernel
theorem d26_8 : decode jdk_43_method_46_code 8 = .ok (.areturn, 1) := by decide +kernel
theorem ef_26 (m : MethodId) (x0 : Int32) : entryFrame m #[(.int x0)] 1 = mkF m 0 #[.val (.int x0)] [] := by first | (simp [entryFrame, mkF, argsToLocals, Value.category]; done) | rfl
set_option maxRecDepth 65536 in
set_option maxHeartbeats 40000000 in
theorem rmTB (l : Launch) (Z : State) (a0 : Array Value) (hw : ∀ d ∈ tables_1, d.before a0 Z = true) (cc : Int32) (h0 : Heap) (n0 : Nat) (Z0 : n0 ≤ h0.size) (q7 : Own7 cc) :
    Con l Z (⟨"java/lang/StringLatin1", "toBytes", "(C)[B"⟩ : MethodName) jdk_43_method_46_code 1 (some (.array .byte)) [] ({ frames := 0, cells := 1, slots := 1, locals := 0 } : Room) #[(.int cc)] h0 (fun v h L => ∃ b, v = some (.ref b) ∧ h0.size ≤ b ∧ Fr n0 L ∧ Keep h0 h [] ∧ Ar Z h b .byte 1 (fun q => .int cc)) := by
  refine Con.of (plainFor_of_name pn_StringLatin1) ?_
  intro p e s m below meth c s₁ hx hby hml hown hnm hret hlk hZ X0 e0
  refine Go.cast (ef_26 m cc) ?_
  replace hown : s.vm.findClass "java/lang/StringLatin1" = some m.cls := hown
  refine Go.iconst (pc' := 1) X0 hx hby d26_0 rfl (v := (1 : Int32)) (by decide) ?_
  refine Go.newarr (pc' := 3) (cap := 1) (z := 1) X0 hx hby hZ (hw _ (List.mem_of_getElem? (i := 26) rfl)) e0 d26_1 rfl (by decide) (by decide) (by decide) (by decide) (by decide) (by decide) ?_
  intro b1 T2 h3 g4 X5 e6 E7 A8
  have g9 : n0 ≤ b1 := by rw [g4]; exact Z0
  have z10 : n0 ≤ h3.size := Nat.le_trans Z0 E7.1
  have f11 : Ar Z h3 b1 .byte 1 (fun _ => (.int 0)) := A8
  show Go p e below _ (T2.setTop (mkF m 3 #[.val (.int cc)] [(.ref b1)]))
  have gf : h0.size ≤ b1 := by rw [g4]; exact Nat.le_refl _
  refine Go.dup (pc' := 4) X5 hx hby d26_3 rfl rfl ?_
  refine Go.iconst (pc' := 5) X5 hx hby d26_4 rfl (v := (0 : Int32)) (by decide) ?_
  refine Go.iloadN (pc' := 6) X5 hx hby d26_5 rfl rfl ?_
  refine Go.i2b (pc' := 7) X5 hx hby d26_6 rfl ?_
  refine Go.bastore (pc' := 8) (i := 0) X5 hx hby hZ e6 f11 d26_7 rfl (by decide) (by decide) (by decide) ?_
  intro T12 h13 X14 e15 W16 A17
  have z18 : n0 ≤ h13.size := by rw [Wr.size W16]; exact z10
  have f19 : Ar Z h13 b1 .byte 1 (fun q => if q = 0 then (.int (nar .byte cc.toInt8.toInt32)) else (.int 0)) := A17
  have N20 : Fr n0 _ := Fr.snoc X14 (Fr.nil _) g9
  show Go p e below _ (T12.setTop (mkF m 8 #[.val (.int cc)] [(.ref b1)]))
  have f21 : Ar Z h13 b1 .byte 1 (fun q => .int cc) := f19.congr (fun i h1 h2 => by obtain rfl : i = 0 := (by omega); simp only [if_true, own_b7 q7, own_n7 q7])
  exact Go.retA X14 hx hby hlk hret rfl rfl rfl d26_8 (by decide) (by decide) ⟨b1, rfl, gf, N20, by rw [e15]; exact ((Keep.refl h0 _).ext E7).wr W16 (Or.inr gf), by rw [e15]; exact f21⟩
theorem d27_0 : decode jdk_42_method_151_code 0 = .ok (.aload_n 0, 1) := by decide +kernel
theorem d27_1 : decode jdk_42_method_151_code 1 = .ok (.invokespecial 1, 3) := by decide +kernel
theorem d27_4 : decode jdk_42_method_151_code 4 = .ok (.aload_n 0, 1) := by decide +kernel
theorem d27_5 : decode jdk_42_method_151_code 5 = .ok (.aload_n 1, 1) := by decide +kernel
theorem d27_6 : decode jdk_42_method_151_code 6 = .ok (.putfield 9, 3) := by decide +kernel
theorem d27_9 : decode jdk_42_method_151_code 9 = .ok (.aload_n 0, 1) := by decide +kernel
theorem d27_10 : decode jdk_42_method_151_code 10 = .ok (.iload_n 2, 1) := by decide +kernel
theorem d27_11 : decode jdk_42_method_151_code 11 = .ok (.putfield 15, 3) := by decide +kernel
theorem d27_14 : decode jdk_42_method_151_code 14 = .ok (.return_, 1) := by decide +kernel
theorem ef_27 (m : MethodId) (x0 : Addr) (x1 : Addr) (x2 : Int32) : entryFrame m #[(.ref x0), (.ref x1), (.int x2)] 3 = mkF m 0 #[.val (.ref x0), .val (.ref x1), .val (.int x2)] [] := by first | (simp [entryFrame, mkF, argsToLocals, Value.category]; done) | rfl
theorem pn_String : plainName "java/lang/String" = true := by first | (simp [plainName, overriddenIn]; done) | decide +kernel
set_option maxRecDepth 65536 in
set_option maxHeartbeats 40000000 in
theorem rmIB (l : Launch) (Z : State) (a0 : Array Value) (hw : ∀ d ∈ tables_1, d.before a0 Z = true) (a : Addr) (b : Addr) (x2 : Int32) (h0 : Heap) (n0 : Nat) (cc : Int32) (Z0 : n0 ≤ h0.size) (ga : n0 ≤ a) (h2 : x2 = 0) (E0 : Exa Z h0 a "java/lang/String") (F1 : Fld Z h0 a "java/lang/String" "value" "[B" .null) (F2 : Fld Z h0 a "java/lang/String" "coder" "B" (.int 0)) (A0 : Ar Z h0 b .byte 1 (fun q => .int cc)) :
    Con l Z (⟨"java/lang/String", "<init>", "([BB)V"⟩ : MethodName) jdk_42_method_151_code 3 none [] ({ frames := 1, cells := 0, slots := 0, locals := 12 } : Room) #[(.ref a), (.ref b), (.int x2)] h0 (fun v h L => v = none ∧ Fr n0 L ∧ Keep h0 h [a] ∧ own_sx Z h a b 1 (fun q => cc)) := by
  refine Con.of (plainFor_of_name pn_String) ?_
  intro p e s m below meth c s₁ hx hby hml hown hnm hret hlk hZ X0 e0
  refine Go.cast (ef_27 m a b x2) ?_
  replace hown : s.vm.findClass "java/lang/String" = some m.cls := hown
  subst h2
  show Go p e below _ (s₁.setTop (mkF m 0 #[.val (.ref a), .val (.ref b), .val (.int (0 : Int32))] []))
  have nb : a ≠ b := Ar.neExa E0 (hw _ (List.mem_of_getElem? (i := 5) rfl)) A0
  refine Go.aloadN (pc' := 1) X0 hx hby d27_0 rfl rfl rfl ?_
  refine Go.initO (pc' := 4) (W := 0) X0 hx hby hZ hown (hw _ (List.mem_of_getElem? (i := 18) rfl)) (hw _ (List.mem_of_getElem? (i := 19) rfl)) (hw _ (List.mem_of_getElem? (i := 20) rfl)) e0 (by rw [hml]; rfl) d27_1 rfl (by decide) (Nat.le_of_eq rfl) (by decide) ?_
  intro T1 X2 e3
  refine Go.aloadN (pc' := 5) X2 hx hby d27_4 rfl rfl rfl ?_
  refine Go.aloadN (pc' := 6) X2 hx hby d27_5 rfl rfl rfl ?_
  refine Go.putF (pc' := 9) (ty := (.array .byte)) X2 hx hby hZ hown (hw _ (List.mem_of_getElem? (i := 35) rfl)) Via.refl e3 F1 E0 (Or.inr ⟨(hw _ (List.mem_of_getElem? (i := 36) rfl)), rfl, hnm⟩) (hw _ (List.mem_of_getElem? (i := 5) rfl)) (by decide) rfl rfl d27_6 rfl ?_
  intro T4 h5 X6 e7 W8
  have f9 : Exa Z h5 a "java/lang/String" := Exa.wr W8 E0
  have f10 : Fld Z h5 a "java/lang/String" "coder" "B" (.int 0) := Fld.other W8 F2 (Or.inr (slot_ne (t := .byte) (t' := (.array .byte)) (Or.inr (hw _ (List.mem_of_getElem? (i := 34) rfl))) (Or.inr (hw _ (List.mem_of_getElem? (i := 36) rfl))) (by decide) (by decide) (by decide)))
  have f11 : Ar Z h5 b .byte 1 (fun q => .int cc) := A0.other W8 (Ne.symm nb)
  have z12 : n0 ≤ h5.size := by rw [Wr.size W8]; exact Z0
  have f13 : Fld Z h5 a "java/lang/String" "value" "[B" (.ref b) := Fld.same W8 F1
  have N14 : Fr n0 _ := Fr.snoc X6 (Fr.nil _) ga
  show Go p e below _ (T4.setTop (mkF m 9 #[.val (.ref a), .val (.ref b), .val (.int (0 : Int32))] []))
  refine Go.aloadN (pc' := 10) X6 hx hby d27_9 rfl rfl rfl ?_
  refine Go.iloadN (pc' := 11) X6 hx hby d27_10 rfl rfl ?_
  refine Go.putF (pc' := 14) (ty := .byte) X6 hx hby hZ hown (hw _ (List.mem_of_getElem? (i := 33) rfl)) Via.refl e7 f10 f9 (Or.inr ⟨(hw _ (List.mem_of_getElem? (i := 34) rfl)), rfl, hnm⟩) (hw _ (List.mem_of_getElem? (i := 5) rfl)) (by decide) rfl rfl d27_11 rfl ?_
  intro T15 h16 X17 e18 W19
  have f20 : Exa Z h16 a "java/lang/String" := Exa.wr W19 f9
  have f21 : Fld Z h16 a "java/lang/String" "value" "[B" (.ref b) := Fld.other W19 f13 (Or.inr (slot_ne (t := (.array .byte)) (t' := .byte) (Or.inr (hw _ (List.mem_of_getElem? (i := 36) rfl))) (Or.inr (hw _ (List.mem_of_getElem? (i := 34) rfl))) (by decide) (by decide) (by decide)))
  have f22 : Ar Z h16 b .byte 1 (fun q => .int cc) := f11.other W19 (Ne.symm nb)
  have z23 : n0 ≤ h16.size := by rw [Wr.size W19]; exact z12
  have f24 : Fld Z h16 a "java/lang/String" "coder" "B" (.int (0 : Int32)) := Fld.same W19 f10
  have N25 : Fr n0 _ := Fr.snoc X17 N14 ga
  show Go p e below _ (T15.setTop (mkF m 14 #[.val (.ref a), .val (.ref b), .val (.int (0 : Int32))] []))
  exact Go.ret0 X17 hx hby hlk hret d27_14 (by decide) (by decide) ⟨rfl, N25, by rw [e18]; exact ((Keep.refl h0 _).wr W8 (Or.inl (List.mem_singleton.mpr rfl))).wr W19 (Or.inl (List.mem_singleton.mpr rfl)), by rw [e18]; exact ⟨f20, f21, f24, f22⟩⟩
theorem d24_0 : decode jdk_42_method_139_code 0 = .ok (.getstatic 38, 3) := by decide +kernel
theorem d24_3 : decode jdk_42_method_139_code 3 = .ok (.ifCond .eq 23, 3) := by decide +kernel
theorem d24_6 : decode jdk_42_method_139_code 6 = .ok (.iload_n 0, 1) := by decide +kernel
theorem d24_7 : decode jdk_42_method_139_code 7 = .ok (.invokestatic 1015, 3) := by decide +kernel
theorem d24_10 : decode jdk_42_method_139_code 10 = .ok (.ifCond .eq 16, 3) := by decide +kernel
theorem d24_13 : decode jdk_42_method_139_code 13 = .ok (.new 10, 3) := by decide +kernel
theorem d24_16 : decode jdk_42_method_139_code 16 = .ok (.dup, 1) := by decide +kernel
theorem d24_17 : decode jdk_42_method_139_code 17 = .ok (.iload_n 0, 1) := by decide +kernel
theorem d24_18 : decode jdk_42_method_139_code 18 = .ok (.invokestatic 1018, 3) := by decide +kernel
theorem d24_21 : decode jdk_42_method_139_code 21 = .ok (.iconst 0, 1) := by decide +kernel
theorem d24_22 : decode jdk_42_method_139_code 22 = .ok (.invokespecial 209, 3) := by decide +kernel
theorem d24_25 : decode jdk_42_method_139_code 25 = .ok (.areturn, 1) := by decide +kernel
theorem d24_26 : decode jdk_42_method_139_code 26 = .ok (.new 10, 3) := by decide +kernel
theorem d24_29 : decode jdk_42_method_139_code 29 = .ok (.dup, 1) := by decide +kernel
theorem d24_30 : decode jdk_42_method_139_code 30 = .ok (.iload_n 0, 1) := by decide +kernel
theorem d24_31 : decode jdk_42_method_139_code 31 = .ok (.invokestatic 1021, 3) := by decide +kernel
theorem d24_34 : decode jdk_42_method_139_code 34 = .ok (.iconst 1, 1) := by decide +kernel
theorem d24_35 : decode jdk_42_method_139_code 35 = .ok (.invokespecial 209, 3) := by decide +kernel
theorem d24_38 : decode jdk_42_method_139_code 38 = .ok (.areturn, 1) := by decide +kernel
theorem ef_24 (m : MethodId) (x0 : Int32) : entryFrame m #[(.int x0)] 1 = mkF m 0 #[.val (.int x0)] [] := by first | (simp [entryFrame, mkF, argsToLocals, Value.category]; done) | rfl
set_option maxRecDepth 65536 in
set_option maxHeartbeats 40000000 in
theorem rmVO (l : Launch) (Z : State) (a0 : Array Value) (hw : ∀ d ∈ tables_1, d.before a0 Z = true) (cc : Int32) (h0 : Heap) (n0 : Nat) (kk : Int32) (sf : Value) (O0 : Old Z n0 h0) (SS : own_S Z kk sf) (Z0 : n0 ≤ h0.size) (q7 : Own7 cc) :
    Con l Z (⟨"java/lang/String", "valueOf", "(C)Ljava/lang/String;"⟩ : MethodName) jdk_42_method_139_code 1 (some (.object "java/lang/String")) [] ({ frames := 2, cells := 2, slots := 5, locals := 28 } : Room) #[(.int cc)] h0 (fun v h L => ∃ su b, v = some (.ref su) ∧ Fr n0 L ∧ Keep h0 h [] ∧ own_sx Z h su b 1 (fun q => cc)) := by
  refine Con.of (plainFor_of_name pn_String) ?_
  intro p e s m below meth c s₁ hx hby hml hown hnm hret hlk hZ X0 e0
  refine Go.cast (ef_24 m cc) ?_
  replace hown : s.vm.findClass "java/lang/String" = some m.cls := hown
  have S0_ : Sta Z h0 "java/lang/String" "COMPACT_STRINGS" "Z" (.int kk) := Sta.ext O0.2 SS.2.1
  refine Go.getSt (pc' := 3) X0 hx hby hZ hown (hw _ (List.mem_of_getElem? (i := 21) rfl)) Via.refl e0 S0_ d24_0 rfl ?_
  intro T1 X2 e3
  refine Go.ifN (pc' := 6) X2 hx hby d24_3 rfl (show ¬ (kk = 0) from SS.1) ?_
  refine Go.iloadN (pc' := 7) X2 hx hby d24_6 rfl rfl ?_
  refine Go.callS (pc' := 10) (W := 0) (argsL := [(.int cc)]) (rest := []) X2 hx hby hZ hown (hw _ (List.mem_of_getElem? (i := 119) rfl)) (hw _ (List.mem_of_getElem? (i := 120) rfl)) (hw _ (List.mem_of_getElem? (i := 86) rfl)) (hw _ (List.mem_of_getElem? (i := 121) rfl)) (by decide) (rmEnc l Z a0 hw cc h0 q7) e3 (by decide) (by decide) (by rw [hml]; rfl) pd_6 rfl rfl rfl (Nat.le_of_eq rfl) d24_7 rfl (by decide) (by decide) ?_
  rintro r5 T6 L7 X8 ⟨rfl, rfl, e4⟩
  rw [List.append_nil] at X8
  show Go p e below _ (T6.setTop (mkF m 10 #[.val (.int cc)] [(.int (1 : Int32))]))
  refine Go.ifN (pc' := 13) X8 hx hby d24_10 rfl (show ¬ ((1 : Int32) = 0) from by decide) ?_
  refine Go.new_ (pc' := 16) X8 hx hby hZ hown (hw _ (List.mem_of_getElem? (i := 122) rfl)) (hw _ (List.mem_of_getElem? (i := 5) rfl)) (hw _ (List.mem_of_getElem? (i := 6) rfl)) e4 d24_13 rfl (by decide) (by decide) ?_
  intro b9 T10 h11 g12 X13 e14 E15 A16 D17
  have g18 : n0 ≤ b9 := by rw [g12]; exact Z0
  have f19 : Old Z n0 h11 := O0.ext E15
  have z20 : n0 ≤ h11.size := Nat.le_trans Z0 E15.1
  have f21 : Exa Z h11 b9 "java/lang/String" := A16
  have f22 : Fld Z h11 b9 "java/lang/String" "value" "[B" .null := D17 (Or.inr (hw _ (List.mem_of_getElem? (i := 36) rfl))) (ty := (.array .byte)) (by decide)
  have f23 : Fld Z h11 b9 "java/lang/String" "coder" "B" (.int 0) := D17 (Or.inr (hw _ (List.mem_of_getElem? (i := 34) rfl))) (ty := .byte) (by decide)
  show Go p e below _ (T10.setTop (mkF m 16 #[.val (.int cc)] [(.ref b9)]))
  have gf : h0.size ≤ b9 := by rw [g12]; exact Nat.le_refl _
  have K0 : Keep h0 h11 [] := (Keep.refl h0 _).ext E15
  refine Go.dup (pc' := 17) X13 hx hby d24_16 rfl rfl ?_
  refine Go.iloadN (pc' := 18) X13 hx hby d24_17 rfl rfl ?_
  refine Go.callS (pc' := 21) (W := 2) (argsL := [(.int cc)]) (rest := [(.ref b9), (.ref b9)]) X13 hx hby hZ hown (hw _ (List.mem_of_getElem? (i := 123) rfl)) (hw _ (List.mem_of_getElem? (i := 124) rfl)) (hw _ (List.mem_of_getElem? (i := 86) rfl)) (hw _ (List.mem_of_getElem? (i := 125) rfl)) (by decide) (rmTB l Z a0 hw cc h11 n0 z20 q7) e14 (by decide) (by decide) (by rw [hml]; rfl) pd_7 rfl rfl rfl (Nat.le_of_eq rfl) d24_18 rfl (by decide) (by decide) ?_
  rintro r24 T25 L26 X27 ⟨b, rfl, g2, N1_, K1, A1⟩
  have K2 := K0.trans K1 all0
  have f28 : Old Z n0 T25.heap := f19.keep K1 all0
  have f29 : Exa Z T25.heap b9 "java/lang/String" := f21.keep K1
  have f30 : Fld Z T25.heap b9 "java/lang/String" "value" "[B" .null := f22.keep K1 nin0
  have f31 : Fld Z T25.heap b9 "java/lang/String" "coder" "B" (.int 0) := f23.keep K1 nin0
  have z32 : n0 ≤ T25.heap.size := Nat.le_trans z20 K1.1
  show Go p e below _ (T25.setTop (mkF m 21 #[.val (.int cc)] [(.ref b), (.ref b9), (.ref b9)]))
  refine Go.iconst (pc' := 22) X27 hx hby d24_21 rfl (v := (0 : Int32)) (by decide) ?_
  refine Go.callI (pc' := 25) (a := b9) (W := 1) (argsL := [(.ref b), (.int (0 : Int32))]) (rest := [(.ref b9)]) X27 hx hby rfl hZ hown (hw _ (List.mem_of_getElem? (i := 126) rfl)) (hw _ (List.mem_of_getElem? (i := 127) rfl)) (hw _ (List.mem_of_getElem? (i := 6) rfl)) (hw _ (List.mem_of_getElem? (i := 128) rfl)) (by decide) (rmIB l Z a0 hw b9 b 0 T25.heap n0 cc z32 g18 rfl f29 f30 f31 A1) rfl (by decide) (by decide) (by rw [hml]; rfl) pd_16 rfl rfl rfl (Nat.le_of_eq rfl) d24_22 rfl (by decide) (by decide) ?_
  rintro r33 T34 L35 X36 ⟨rfl, N2_, K3, S1⟩
  have K4 := K2.trans K3 (allS (Or.inr gf) all0)
  show Go p e below _ (T34.setTop (mkF m 25 #[.val (.int cc)] [(.ref b9)]))
  exact Go.retA X36 hx hby hlk hret rfl rfl rfl d24_25 (by decide) (by decide) ⟨b9, b, rfl, (Fr.app (Fr.app (Fr.nil _) N1_) N2_), K4, S1⟩
theorem d7_0 : decode jdk_52_method_21_code 0 = .ok (.iconst 0, 1) := by decide +kernel
theorem d7_1 : decode jdk_52_method_21_code 1 = .ok (.istore 5, 2) := by decide +kernel
theorem d7_3 : decode jdk_52_method_21_code 3 = .ok (.iload 5, 2) := by decide +kernel
theorem d7_5 : decode jdk_52_method_21_code 5 = .ok (.iload 4, 2) := by decide +kernel
theorem d7_7 : decode jdk_52_method_21_code 7 = .ok (.if_icmp .ge 37, 3) := by decide +kernel
theorem d7_10 : decode jdk_52_method_21_code 10 = .ok (.aload_n 0, 1) := by decide +kernel
theorem d7_11 : decode jdk_52_method_21_code 11 = .ok (.iload_n 1, 1) := by decide +kernel
theorem d7_12 : decode jdk_52_method_21_code 12 = .ok (.caload, 1) := by decide +kernel
theorem d7_13 : decode jdk_52_method_21_code 13 = .ok (.istore 6, 2) := by decide +kernel
theorem d7_15 : decode jdk_52_method_21_code 15 = .ok (.iload 6, 2) := by decide +kernel
theorem d7_17 : decode jdk_52_method_21_code 17 = .ok (.sipush 255, 3) := by decide +kernel
theorem d7_20 : decode jdk_52_method_21_code 20 = .ok (.if_icmp .le 6, 3) := by decide +kernel
theorem d7_23 : decode jdk_52_method_21_code 23 = .ok (.iload 5, 2) := by decide +kernel
theorem d7_25 : decode jdk_52_method_21_code 25 = .ok (.ireturn, 1) := by decide +kernel
theorem d7_26 : decode jdk_52_method_21_code 26 = .ok (.aload_n 2, 1) := by decide +kernel
theorem d7_27 : decode jdk_52_method_21_code 27 = .ok (.iload_n 3, 1) := by decide +kernel
theorem d7_28 : decode jdk_52_method_21_code 28 = .ok (.iload 6, 2) := by decide +kernel
theorem d7_30 : decode jdk_52_method_21_code 30 = .ok (.i2b, 1) := by decide +kernel
theorem d7_31 : decode jdk_52_method_21_code 31 = .ok (.bastore, 1) := by decide +kernel
theorem d7_32 : decode jdk_52_method_21_code 32 = .ok (.iinc 1 1, 3) := by decide +kernel
theorem d7_35 : decode jdk_52_method_21_code 35 = .ok (.iinc 3 1, 3) := by decide +kernel
theorem d7_38 : decode jdk_52_method_21_code 38 = .ok (.iinc 5 1, 3) := by decide +kernel
theorem d7_41 : decode jdk_52_method_21_code 41 = .ok (.goto (-38), 3) := by decide +kernel
theorem d7_44 : decode jdk_52_method_21_code 44 = .ok (.iload 4, 2) := by decide +kernel
theorem d7_46 : decode jdk_52_method_21_code 46 = .ok (.ireturn, 1) := by decide +kernel
theorem d6_0 : decode jdk_52_method_16_code 0 = .ok (.iload_n 2, 1) := by decide +kernel
theorem d6_1 : decode jdk_52_method_16_code 1 = .ok (.newarray .byte, 2) := by decide +kernel
theorem d6_3 : decode jdk_52_method_16_code 3 = .ok (.astore_n 3, 1) := by decide +kernel
theorem d6_4 : decode jdk_52_method_16_code 4 = .ok (.aload_n 0, 1) := by decide +kernel
theorem d6_5 : decode jdk_52_method_16_code 5 = .ok (.iload_n 1, 1) := by decide +kernel
theorem d6_6 : decode jdk_52_method_16_code 6 = .ok (.aload_n 3, 1) := by decide +kernel
theorem d6_7 : decode jdk_52_method_16_code 7 = .ok (.iconst 0, 1) := by decide +kernel
theorem d6_8 : decode jdk_52_method_16_code 8 = .ok (.iload_n 2, 1) := by decide +kernel
theorem d6_9 : decode jdk_52_method_16_code 9 = .ok (.invokestatic 115, 3) := by decide +kernel
theorem d6_12 : decode jdk_52_method_16_code 12 = .ok (.istore 4, 2) := by decide +kernel
theorem d6_14 : decode jdk_52_method_16_code 14 = .ok (.iload 4, 2) := by decide +kernel
theorem d6_16 : decode jdk_52_method_16_code 16 = .ok (.iload_n 2, 1) := by decide +kernel
theorem d6_17 : decode jdk_52_method_16_code 17 = .ok (.if_icmp .eq 40, 3) := by decide +kernel
theorem d6_20 : decode jdk_52_method_16_code 20 = .ok (.aload_n 0, 1) := by decide +kernel
theorem d6_21 : decode jdk_52_method_16_code 21 = .ok (.iload_n 1, 1) := by decide +kernel
theorem d6_22 : decode jdk_52_method_16_code 22 = .ok (.iload_n 2, 1) := by decide +kernel
theorem d6_23 : decode jdk_52_method_16_code 23 = .ok (.invokestatic 119, 3) := by decide +kernel
theorem d6_26 : decode jdk_52_method_16_code 26 = .ok (.astore 5, 2) := by decide +kernel
theorem d6_28 : decode jdk_52_method_16_code 28 = .ok (.aload 5, 2) := by decide +kernel
theorem d6_30 : decode jdk_52_method_16_code 30 = .ok (.iload 4, 2) := by decide +kernel
theorem d6_32 : decode jdk_52_method_16_code 32 = .ok (.invokestatic 71, 3) := by decide +kernel
theorem d6_35 : decode jdk_52_method_16_code 35 = .ok (.sipush 255, 3) := by decide +kernel
theorem d6_38 : decode jdk_52_method_16_code 38 = .ok (.if_icmp .gt 16, 3) := by decide +kernel
theorem d6_41 : decode jdk_52_method_16_code 41 = .ok (.aload 5, 2) := by decide +kernel
theorem d6_43 : decode jdk_52_method_16_code 43 = .ok (.iconst 0, 1) := by decide +kernel
theorem d6_44 : decode jdk_52_method_16_code 44 = .ok (.aload_n 3, 1) := by decide +kernel
theorem d6_45 : decode jdk_52_method_16_code 45 = .ok (.iconst 0, 1) := by decide +kernel
theorem d6_46 : decode jdk_52_method_16_code 46 = .ok (.iload_n 2, 1) := by decide +kernel
theorem d6_47 : decode jdk_52_method_16_code 47 = .ok (.invokestatic 123, 3) := by decide +kernel
theorem d6_50 : decode jdk_52_method_16_code 50 = .ok (.iload_n 2, 1) := by decide +kernel
theorem d6_51 : decode jdk_52_method_16_code 51 = .ok (.if_icmp .eq 6, 3) := by decide +kernel
theorem d6_54 : decode jdk_52_method_16_code 54 = .ok (.aload 5, 2) := by decide +kernel
theorem d6_56 : decode jdk_52_method_16_code 56 = .ok (.areturn, 1) := by decide +kernel
theorem d6_57 : decode jdk_52_method_16_code 57 = .ok (.aload_n 3, 1) := by decide +kernel
theorem d6_58 : decode jdk_52_method_16_code 58 = .ok (.areturn, 1) := by decide +kernel
theorem d8_0 : decode jdk_52_method_15_code 0 = .ok (.iload_n 1, 1) := by decide +kernel
theorem d8_1 : decode jdk_52_method_15_code 1 = .ok (.aload_n 0, 1) := by decide +kernel
theorem d8_2 : decode jdk_52_method_15_code 2 = .ok (.arraylength, 1) := by decide +kernel
theorem d8_3 : decode jdk_52_method_15_code 3 = .ok (.isub, 1) := by decide +kernel
theorem d8_4 : decode jdk_52_method_15_code 4 = .ok (.bipush 31, 2) := by decide +kernel
theorem d8_6 : decode jdk_52_method_15_code 6 = .ok (.iushr, 1) := by decide +kernel
theorem d8_7 : decode jdk_52_method_15_code 7 = .ok (.i2b, 1) := by decide +kernel
theorem d8_8 : decode jdk_52_method_15_code 8 = .ok (.ireturn, 1) := by decide +kernel
theorem d4_0 : decode jdk_42_method_149_code 0 = .ok (.aload_n 0, 1) := by decide +kernel
theorem d4_1 : decode jdk_42_method_149_code 1 = .ok (.invokespecial 1, 3) := by decide +kernel
theorem d4_4 : decode jdk_42_method_149_code 4 = .ok (.iload_n 3, 1) := by decide +kernel
theorem d4_5 : decode jdk_42_method_149_code 5 = .ok (.ifCond .ne 22, 3) := by decide +kernel
theorem d4_8 : decode jdk_42_method_149_code 8 = .ok (.aload_n 0, 1) := by decide +kernel
theorem d4_9 : decode jdk_42_method_149_code 9 = .ok (.ldc 7, 2) := by decide +kernel
theorem d4_11 : decode jdk_42_method_149_code 11 = .ok (.getfield 9, 3) := by decide +kernel
theorem d4_14 : decode jdk_42_method_149_code 14 = .ok (.putfield 9, 3) := by decide +kernel
theorem d4_17 : decode jdk_42_method_149_code 17 = .ok (.aload_n 0, 1) := by decide +kernel
theorem d4_18 : decode jdk_42_method_149_code 18 = .ok (.ldc 7, 2) := by decide +kernel
theorem d4_20 : decode jdk_42_method_149_code 20 = .ok (.getfield 15, 3) := by decide +kernel
theorem d4_23 : decode jdk_42_method_149_code 23 = .ok (.putfield 15, 3) := by decide +kernel
theorem d4_26 : decode jdk_42_method_149_code 26 = .ok (.return_, 1) := by decide +kernel
theorem d4_27 : decode jdk_42_method_149_code 27 = .ok (.getstatic 38, 3) := by decide +kernel
theorem d4_30 : decode jdk_42_method_149_code 30 = .ok (.ifCond .eq 28, 3) := by decide +kernel
theorem d4_33 : decode jdk_42_method_149_code 33 = .ok (.aload_n 1, 1) := by decide +kernel
theorem d4_34 : decode jdk_42_method_149_code 34 = .ok (.iload_n 2, 1) := by decide +kernel
theorem d4_35 : decode jdk_42_method_149_code 35 = .ok (.iload_n 3, 1) := by decide +kernel
theorem d4_36 : decode jdk_42_method_149_code 36 = .ok (.invokestatic 177, 3) := by decide +kernel
theorem d4_39 : decode jdk_42_method_149_code 39 = .ok (.astore 5, 2) := by decide +kernel
theorem d4_41 : decode jdk_42_method_149_code 41 = .ok (.aload_n 0, 1) := by decide +kernel
theorem d4_42 : decode jdk_42_method_149_code 42 = .ok (.aload 5, 2) := by decide +kernel
theorem d4_44 : decode jdk_42_method_149_code 44 = .ok (.iload_n 3, 1) := by decide +kernel
theorem d4_45 : decode jdk_42_method_149_code 45 = .ok (.invokestatic 47, 3) := by decide +kernel
theorem d4_48 : decode jdk_42_method_149_code 48 = .ok (.putfield 15, 3) := by decide +kernel
theorem d4_51 : decode jdk_42_method_149_code 51 = .ok (.aload_n 0, 1) := by decide +kernel
theorem d4_52 : decode jdk_42_method_149_code 52 = .ok (.aload 5, 2) := by decide +kernel
theorem d4_54 : decode jdk_42_method_149_code 54 = .ok (.putfield 9, 3) := by decide +kernel
theorem d4_57 : decode jdk_42_method_149_code 57 = .ok (.return_, 1) := by decide +kernel
theorem d4_58 : decode jdk_42_method_149_code 58 = .ok (.aload_n 0, 1) := by decide +kernel
theorem d4_59 : decode jdk_42_method_149_code 59 = .ok (.iconst 1, 1) := by decide +kernel
theorem d4_60 : decode jdk_42_method_149_code 60 = .ok (.putfield 15, 3) := by decide +kernel
theorem d4_63 : decode jdk_42_method_149_code 63 = .ok (.aload_n 0, 1) := by decide +kernel
theorem d4_64 : decode jdk_42_method_149_code 64 = .ok (.aload_n 1, 1) := by decide +kernel
theorem d4_65 : decode jdk_42_method_149_code 65 = .ok (.iload_n 2, 1) := by decide +kernel
theorem d4_66 : decode jdk_42_method_149_code 66 = .ok (.iload_n 3, 1) := by decide +kernel
theorem d4_67 : decode jdk_42_method_149_code 67 = .ok (.invokestatic 180, 3) := by decide +kernel
theorem d4_70 : decode jdk_42_method_149_code 70 = .ok (.putfield 9, 3) := by decide +kernel
theorem d4_73 : decode jdk_42_method_149_code 73 = .ok (.return_, 1) := by decide +kernel
theorem d3_0 : decode jdk_42_method_3_code 0 = .ok (.aload_n 0, 1) := by decide +kernel
theorem d3_1 : decode jdk_42_method_3_code 1 = .ok (.aload_n 1, 1) := by decide +kernel
theorem d3_2 : decode jdk_42_method_3_code 2 = .ok (.iconst 0, 1) := by decide +kernel
theorem d3_3 : decode jdk_42_method_3_code 3 = .ok (.aload_n 1, 1) := by decide +kernel
theorem d3_4 : decode jdk_42_method_3_code 4 = .ok (.arraylength, 1) := by decide +kernel
theorem d3_5 : decode jdk_42_method_3_code 5 = .ok (.aconst_null, 1) := by decide +kernel
theorem d3_6 : decode jdk_42_method_3_code 6 = .ok (.invokespecial 27, 3) := by decide +kernel
theorem d3_9 : decode jdk_42_method_3_code 9 = .ok (.return_, 1) := by decide +kernel
theorem ef_7 (m : MethodId) (x0 : Addr) (x1 : Int32) (x2 : Addr) (x3 : Int32) (x4 : Int32) : entryFrame m #[(.ref x0), (.int x1), (.ref x2), (.int x3), (.int x4)] 7 = mkF m 0 #[.val (.ref x0), .val (.int x1), .val (.ref x2), .val (.int x3), .val (.int x4), .unset, .unset] [] := by first | (simp [entryFrame, mkF, argsToLocals, Value.category]; done) | rfl
theorem pn_StringUTF16 : plainName "java/lang/StringUTF16" = true := by first | (simp [plainName, overriddenIn]; done) | decide +kernel
set_option maxRecDepth 65536 in
set_option maxHeartbeats 40000000 in
theorem rmC5_1 (l : Launch) (Z : State) (a0 : Array Value) (hw : ∀ d ∈ tables_1, d.before a0 Z = true) (ca : Addr) (x1 : Int32) (ba : Addr) (x3 : Int32) (x4 : Int32) (h0 : Heap) (n0 : Nat) (bx : Int32) (Z0 : n0 ≤ h0.size) (gb : n0 ≤ ba) (h1 : x1 = 0) (h3 : x3 = 0) (h4 : x4 = 1) (A0 : Ar Z h0 ca .char 1 (fun q => .int (own_cf bx q))) (A1 : Ar Z h0 ba .byte 1 (fun q => .int 0)) :
    Con l Z (⟨"java/lang/StringUTF16", "compress", "([CI[BII)I"⟩ : MethodName) jdk_52_method_21_code 7 (some .int) [] ({ frames := 0, cells := 0, slots := 0, locals := 0 } : Room) #[(.ref ca), (.int x1), (.ref ba), (.int x3), (.int x4)] h0 (fun v h L => v = some (.int 1) ∧ Fr n0 L ∧ Keep h0 h [ba] ∧ Ar Z h ba .byte 1 (fun q => .int (own_cf bx q))) := by
  refine Con.of (plainFor_of_name pn_StringUTF16) ?_
  intro p e s m below meth c s₁ hx hby hml hown hnm hret hlk hZ X0 e0
  refine Go.cast (ef_7 m ca x1 ba x3 x4) ?_
  replace hown : s.vm.findClass "java/lang/StringUTF16" = some m.cls := hown
  subst h1 h3 h4
  show Go p e below _ (s₁.setTop (mkF m 0 #[.val (.ref ca), .val (.int (0 : Int32)), .val (.ref ba), .val (.int (0 : Int32)), .val (.int (1 : Int32)), .unset, .unset] []))
  have nb : ca ≠ ba := Ar.neTy A0 A1 (by decide)
  refine Go.iconst (pc' := 1) X0 hx hby d7_0 rfl (v := (0 : Int32)) (by decide) ?_
  refine Go.istore (Ls' := #[.val (.ref ca), .val (.int (0 : Int32)), .val (.ref ba), .val (.int (0 : Int32)), .val (.int (1 : Int32)), .val (.int (0 : Int32)), .unset]) (pc' := 3) X0 hx hby d7_1 rfl rfl ?_
  refine Go.iload (pc' := 5) X0 hx hby d7_3 rfl rfl ?_
  refine Go.iload (pc' := 7) X0 hx hby d7_5 rfl rfl ?_
  refine Go.icmpN (pc' := 10) X0 hx hby d7_7 rfl (show ¬ ((1 : Int32) ≤ (0 : Int32)) from by decide) ?_
  refine Go.aloadN (pc' := 11) X0 hx hby d7_10 rfl rfl rfl ?_
  refine Go.iloadN (pc' := 12) X0 hx hby d7_11 rfl rfl ?_
  refine Go.caload (pc' := 13) (i := 0) (v := (.int (own_ck bx 0))) X0 hx hby hZ e0 A0 d7_12 rfl (by decide) (by decide) (by decide) rfl ?_
  refine Go.istore (Ls' := #[.val (.ref ca), .val (.int (0 : Int32)), .val (.ref ba), .val (.int (0 : Int32)), .val (.int (1 : Int32)), .val (.int (0 : Int32)), .val (.int (own_ck bx 0))]) (pc' := 15) X0 hx hby d7_13 rfl rfl ?_
  refine Go.iload (pc' := 17) X0 hx hby d7_15 rfl rfl ?_
  refine Go.sipush (pc' := 20) X0 hx hby d7_17 rfl (v := (255 : Int32)) (by decide) ?_
  refine Go.icmpY (pc' := 26) X0 hx hby d7_20 (by decide) (by decide) (show (own_ck bx 0) ≤ (255 : Int32) from own_le7 (own_ckr bx 0)) ?_
  refine Go.aloadN (pc' := 27) X0 hx hby d7_26 rfl rfl rfl ?_
  refine Go.iloadN (pc' := 28) X0 hx hby d7_27 rfl rfl ?_
  refine Go.iload (pc' := 30) X0 hx hby d7_28 rfl rfl ?_
  refine Go.i2b (pc' := 31) X0 hx hby d7_30 rfl ?_
  refine Go.bastore (pc' := 32) (i := 0) X0 hx hby hZ e0 A1 d7_31 rfl (by decide) (by decide) (by decide) ?_
  intro T1 h2 X3 e4 W5 A6
  have f7 : Ar Z h2 ca .char 1 (fun q => .int (own_cf bx q)) := A0.other W5 nb
  have z8 : n0 ≤ h2.size := by rw [Wr.size W5]; exact Z0
  have f9 : Ar Z h2 ba .byte 1 (fun q => if q = 0 then (.int (nar .byte ((own_ck bx 0).toInt8.toInt32))) else .int 0) := A6
  have N10 : Fr n0 _ := Fr.snoc X3 (Fr.nil _) gb
  show Go p e below _ (T1.setTop (mkF m 32 #[.val (.ref ca), .val (.int (0 : Int32)), .val (.ref ba), .val (.int (0 : Int32)), .val (.int (1 : Int32)), .val (.int (0 : Int32)), .val (.int (own_ck bx 0))] []))
  refine Go.iinc (w := (0 : Int32) + (1 : Int32)) (Ls' := #[.val (.ref ca), .val (.int ((0 : Int32) + (1 : Int32))), .val (.ref ba), .val (.int (0 : Int32)), .val (.int (1 : Int32)), .val (.int (0 : Int32)), .val (.int (own_ck bx 0))]) (pc' := 35) X3 hx hby d7_32 rfl rfl rfl rfl ?_
  refine Go.iinc (w := (0 : Int32) + (1 : Int32)) (Ls' := #[.val (.ref ca), .val (.int ((0 : Int32) + (1 : Int32))), .val (.ref ba), .val (.int ((0 : Int32) + (1 : Int32))), .val (.int (1 : Int32)), .val (.int (0 : Int32)), .val (.int (own_ck bx 0))]) (pc' := 38) X3 hx hby d7_35 rfl rfl rfl rfl ?_
  refine Go.iinc (w := (0 : Int32) + (1 : Int32)) (Ls' := #[.val (.ref ca), .val (.int ((0 : Int32) + (1 : Int32))), .val (.ref ba), .val (.int ((0 : Int32) + (1 : Int32))), .val (.int (1 : Int32)), .val (.int ((0 : Int32) + (1 : Int32))), .val (.int (own_ck bx 0))]) (pc' := 41) X3 hx hby d7_38 rfl rfl rfl rfl ?_
  change Go p e below _ (T1.setTop (mkF m 41 #[.val (.ref ca), .val (.int (1 : Int32)), .val (.ref ba), .val (.int ((0 : Int32) + (1 : Int32))), .val (.int (1 : Int32)), .val (.int ((0 : Int32) + (1 : Int32))), .val (.int (own_ck bx 0))] []))
  change Go p e below _ (T1.setTop (mkF m 41 #[.val (.ref ca), .val (.int (1 : Int32)), .val (.ref ba), .val (.int (1 : Int32)), .val (.int (1 : Int32)), .val (.int ((0 : Int32) + (1 : Int32))), .val (.int (own_ck bx 0))] []))
  change Go p e below _ (T1.setTop (mkF m 41 #[.val (.ref ca), .val (.int (1 : Int32)), .val (.ref ba), .val (.int (1 : Int32)), .val (.int (1 : Int32)), .val (.int (1 : Int32)), .val (.int (own_ck bx 0))] []))
  refine Go.goto (pc' := 3) X3 hx hby d7_41 (by decide) (by decide) ?_
  refine Go.iload (pc' := 5) X3 hx hby d7_3 rfl rfl ?_
  refine Go.iload (pc' := 7) X3 hx hby d7_5 rfl rfl ?_
  refine Go.icmpY (pc' := 44) X3 hx hby d7_7 (by decide) (by decide) (show (1 : Int32) ≤ (1 : Int32) from by decide) ?_
  refine Go.iload (pc' := 46) X3 hx hby d7_44 rfl rfl ?_
  have f11 : Ar Z h2 ba .byte 1 (fun q => .int (own_cf bx q)) := f9.congr (fun i h1 h2 => by have t : i = 0 := (by omega); rcases t with rfl <;> simp [own_cf, own_b7 (own_ckr bx _), own_n7 (own_ckr bx _)])
  exact Go.retI X3 hx hby hlk hret d7_46 (by decide) (by decide) ⟨rfl, N10, by rw [e4]; exact ((Keep.refl h0 _).wr W5 (Or.inl (List.mem_singleton.mpr rfl))), by rw [e4]; exact f11⟩
theorem ef_6 (m : MethodId) (x0 : Addr) (x1 : Int32) (x2 : Int32) : entryFrame m #[(.ref x0), (.int x1), (.int x2)] 6 = mkF m 0 #[.val (.ref x0), .val (.int x1), .val (.int x2), .unset, .unset, .unset] [] := by first | (simp [entryFrame, mkF, argsToLocals, Value.category]; done) | rfl
set_option maxRecDepth 65536 in
set_option maxHeartbeats 40000000 in
theorem rmC3_1 (l : Launch) (Z : State) (a0 : Array Value) (hw : ∀ d ∈ tables_1, d.before a0 Z = true) (ca : Addr) (x1 : Int32) (x2 : Int32) (h0 : Heap) (n0 : Nat) (bx : Int32) (Z0 : n0 ≤ h0.size) (h1 : x1 = 0) (h2 : x2 = 1) (A0 : Ar Z h0 ca .char 1 (fun q => .int (own_cf bx q))) :
    Con l Z (⟨"java/lang/StringUTF16", "compress", "([CII)[B"⟩ : MethodName) jdk_52_method_16_code 6 (some (.array .byte)) [] ({ frames := 1, cells := 1, slots := 1, locals := 18 } : Room) #[(.ref ca), (.int x1), (.int x2)] h0 (fun v h L => ∃ b, v = some (.ref b) ∧ h0.size ≤ b ∧ Fr n0 L ∧ Keep h0 h [] ∧ Ar Z h b .byte 1 (fun q => .int (own_cf bx q))) := by
  refine Con.of (plainFor_of_name pn_StringUTF16) ?_
  intro p e s m below meth c s₁ hx hby hml hown hnm hret hlk hZ X0 e0
  refine Go.cast (ef_6 m ca x1 x2) ?_
  replace hown : s.vm.findClass "java/lang/StringUTF16" = some m.cls := hown
  subst h1 h2
  show Go p e below _ (s₁.setTop (mkF m 0 #[.val (.ref ca), .val (.int (0 : Int32)), .val (.int (1 : Int32)), .unset, .unset, .unset] []))
  refine Go.iloadN (pc' := 1) X0 hx hby d6_0 rfl rfl ?_
  refine Go.newarr (pc' := 3) (cap := 1) (z := 1) X0 hx hby hZ (hw _ (List.mem_of_getElem? (i := 26) rfl)) e0 d6_1 rfl (by decide) (by decide) (by decide) (by decide) (by decide) (by decide) ?_
  intro b1 T2 h3 g4 X5 e6 E7 A8
  have n9 : ca ≠ b1 := Nat.ne_of_lt (by rw [g4]; exact A0.lt)
  have g10 : n0 ≤ b1 := by rw [g4]; exact Z0
  have f11 : Ar Z h3 ca .char 1 (fun q => .int (own_cf bx q)) := A0.ext E7
  have z12 : n0 ≤ h3.size := Nat.le_trans Z0 E7.1
  have f13 : Ar Z h3 b1 .byte 1 (fun _ => (.int 0)) := A8
  show Go p e below _ (T2.setTop (mkF m 3 #[.val (.ref ca), .val (.int (0 : Int32)), .val (.int (1 : Int32)), .unset, .unset, .unset] [(.ref b1)]))
  have K0 : Keep h0 h3 [] := (Keep.refl h0 _).ext E7
  have gf : h0.size ≤ b1 := by rw [g4]; exact Nat.le_refl _
  refine Go.astoreN (Ls' := #[.val (.ref ca), .val (.int (0 : Int32)), .val (.int (1 : Int32)), .val (.ref b1), .unset, .unset]) (pc' := 4) X5 hx hby d6_3 rfl rfl rfl ?_
  refine Go.aloadN (pc' := 5) X5 hx hby d6_4 rfl rfl rfl ?_
  refine Go.iloadN (pc' := 6) X5 hx hby d6_5 rfl rfl ?_
  refine Go.aloadN (pc' := 7) X5 hx hby d6_6 rfl rfl rfl ?_
  refine Go.iconst (pc' := 8) X5 hx hby d6_7 rfl (v := (0 : Int32)) (by decide) ?_
  refine Go.iloadN (pc' := 9) X5 hx hby d6_8 rfl rfl ?_
  refine Go.callS (pc' := 12) (W := 0) (argsL := [(.ref ca), (.int (0 : Int32)), (.ref b1), (.int (0 : Int32)), (.int (1 : Int32))]) (rest := []) X5 hx hby hZ hown (hw _ (List.mem_of_getElem? (i := 27) rfl)) (hw _ (List.mem_of_getElem? (i := 28) rfl)) (hw _ (List.mem_of_getElem? (i := 24) rfl)) (hw _ (List.mem_of_getElem? (i := 29) rfl)) (by decide) (rmC5_1 l Z a0 hw ca 0 b1 0 1 h3 n0 bx z12 g10 rfl rfl rfl f11 f13) e6 (by decide) (by decide) (by rw [hml]; rfl) pd_24 rfl rfl rfl (Nat.le_of_eq rfl) d6_9 rfl (by decide) (by decide) ?_
  rintro r14 T15 L16 X17 ⟨rfl, N1_, K1_, A1⟩
  have K2 := K0.trans K1_ (allS (Or.inr gf) all0)
  show Go p e below _ (T15.setTop (mkF m 12 #[.val (.ref ca), .val (.int (0 : Int32)), .val (.int (1 : Int32)), .val (.ref b1), .unset, .unset] [(.int (1 : Int32))]))
  refine Go.istore (Ls' := #[.val (.ref ca), .val (.int (0 : Int32)), .val (.int (1 : Int32)), .val (.ref b1), .val (.int (1 : Int32)), .unset]) (pc' := 14) X17 hx hby d6_12 rfl rfl ?_
  refine Go.iload (pc' := 16) X17 hx hby d6_14 rfl rfl ?_
  refine Go.iloadN (pc' := 17) X17 hx hby d6_16 rfl rfl ?_
  refine Go.icmpY (pc' := 57) X17 hx hby d6_17 (by decide) (by decide) (show (1 : Int32) = (1 : Int32) from by decide) ?_
  refine Go.aloadN (pc' := 58) X17 hx hby d6_57 rfl rfl rfl ?_
  exact Go.retA X17 hx hby hlk hret rfl rfl rfl d6_58 (by decide) (by decide) ⟨b1, rfl, gf, (Fr.app (Fr.nil _) N1_), K2, A1⟩
theorem ef_8 (m : MethodId) (x0 : Addr) (x1 : Int32) : entryFrame m #[(.ref x0), (.int x1)] 2 = mkF m 0 #[.val (.ref x0), .val (.int x1)] [] := by first | (simp [entryFrame, mkF, argsToLocals, Value.category]; done) | rfl
set_option maxRecDepth 65536 in
set_option maxHeartbeats 40000000 in
theorem rmCF1 (l : Launch) (Z : State) (a0 : Array Value) (hw : ∀ d ∈ tables_1, d.before a0 Z = true) (a : Addr) (x1 : Int32) (h0 : Heap) (f0 : Int → Value) (h1 : x1 = 1) (A0 : Ar Z h0 a .byte 1 f0) :
    Con l Z (⟨"java/lang/StringUTF16", "coderFromArrayLen", "([BI)B"⟩ : MethodName) jdk_52_method_15_code 2 (some .byte) [] ({ frames := 0, cells := 0, slots := 0, locals := 0 } : Room) #[(.ref a), (.int x1)] h0 (PQ (some (.int 0)) h0) := by
  refine Con.of (plainFor_of_name pn_StringUTF16) ?_
  intro p e s m below meth c s₁ hx hby hml hown hnm hret hlk hZ X0 e0
  refine Go.cast (ef_8 m a x1) ?_
  replace hown : s.vm.findClass "java/lang/StringUTF16" = some m.cls := hown
  subst h1
  show Go p e below _ (s₁.setTop (mkF m 0 #[.val (.ref a), .val (.int (1 : Int32))] []))
  refine Go.iloadN (pc' := 1) X0 hx hby d8_0 rfl rfl ?_
  refine Go.aloadN (pc' := 2) X0 hx hby d8_1 rfl rfl rfl ?_
  refine Go.alen (pc' := 3) (zv := (1 : Int32)) X0 hx hby hZ e0 A0 d8_2 rfl (by decide) ?_
  refine Go.isub (pc' := 4) X0 hx hby d8_3 rfl ?_
  refine Go.bipush (pc' := 6) X0 hx hby d8_4 rfl (v := (31 : Int32)) (by decide) ?_
  refine Go.iushr (pc' := 7) X0 hx hby d8_6 rfl ?_
  refine Go.i2b (pc' := 8) X0 hx hby d8_7 rfl ?_
  exact Go.retZ X0 hx hby hlk hret (by simp) d8_8 (by decide) (by decide) ⟨by rw [show nar .byte (((((1 : Int32) - (1 : Int32)).toUInt32 >>> ((31 : Int32) &&& 31).toUInt32).toInt32).toInt8.toInt32) = 0 from by decide], rfl, e0⟩
theorem ef_4 (m : MethodId) (x0 : Addr) (x1 : Addr) (x2 : Int32) (x3 : Int32) : entryFrame m #[(.ref x0), (.ref x1), (.int x2), (.int x3), .null] 6 = mkF m 0 #[.val (.ref x0), .val (.ref x1), .val (.int x2), .val (.int x3), .val .null, .unset] [] := by first | (simp [entryFrame, mkF, argsToLocals, Value.category]; done) | rfl
set_option maxRecDepth 65536 in
set_option maxHeartbeats 40000000 in
theorem rmI4_1 (l : Launch) (Z : State) (a0 : Array Value) (hw : ∀ d ∈ tables_1, d.before a0 Z = true) (a : Addr) (ca : Addr) (x2 : Int32) (x3 : Int32) (h0 : Heap) (n0 : Nat) (kk : Int32) (sf : Value) (bx : Int32) (O0 : Old Z n0 h0) (SS : own_S Z kk sf) (Z0 : n0 ≤ h0.size) (ga : n0 ≤ a) (h2 : x2 = 0) (h3 : x3 = 1) (E0 : Exa Z h0 a "java/lang/String") (F1 : Fld Z h0 a "java/lang/String" "value" "[B" .null) (F2 : Fld Z h0 a "java/lang/String" "coder" "B" (.int 0)) (A0 : Ar Z h0 ca .char 1 (fun q => .int (own_cf bx q))) :
    Con l Z (⟨"java/lang/String", "<init>", "([CIILjava/lang/Void;)V"⟩ : MethodName) jdk_42_method_149_code 6 none [] ({ frames := 2, cells := 1, slots := 1, locals := 35 } : Room) #[(.ref a), (.ref ca), (.int x2), (.int x3), .null] h0 (fun v h L => ∃ b, v = none ∧ Fr n0 L ∧ Keep h0 h [a] ∧ own_sx Z h a b 1 (own_cf bx)) := by
  refine Con.of (plainFor_of_name pn_String) ?_
  intro p e s m below meth c s₁ hx hby hml hown hnm hret hlk hZ X0 e0
  refine Go.cast (ef_4 m a ca x2 x3) ?_
  replace hown : s.vm.findClass "java/lang/String" = some m.cls := hown
  subst h2 h3
  show Go p e below _ (s₁.setTop (mkF m 0 #[.val (.ref a), .val (.ref ca), .val (.int (0 : Int32)), .val (.int (1 : Int32)), .val .null, .unset] []))
  have S0_ : Sta Z h0 "java/lang/String" "COMPACT_STRINGS" "Z" (.int kk) := Sta.ext O0.2 SS.2.1
  refine Go.aloadN (pc' := 1) X0 hx hby d4_0 rfl rfl rfl ?_
  refine Go.initO (pc' := 4) (W := 0) X0 hx hby hZ hown (hw _ (List.mem_of_getElem? (i := 18) rfl)) (hw _ (List.mem_of_getElem? (i := 19) rfl)) (hw _ (List.mem_of_getElem? (i := 20) rfl)) e0 (by rw [hml]; rfl) d4_1 rfl (by decide) (Nat.le_of_eq rfl) (by decide) ?_
  intro T1 X2 e3
  refine Go.iloadN (pc' := 5) X2 hx hby d4_4 rfl rfl ?_
  refine Go.ifY (pc' := 27) X2 hx hby d4_5 (by decide) (by decide) (show (1 : Int32) ≠ 0 from by decide) ?_
  refine Go.getSt (pc' := 30) X2 hx hby hZ hown (hw _ (List.mem_of_getElem? (i := 21) rfl)) Via.refl e3 S0_ d4_27 rfl ?_
  intro T4 X5 e6
  refine Go.ifN (pc' := 33) X5 hx hby d4_30 rfl (show ¬ (kk = 0) from SS.1) ?_
  refine Go.aloadN (pc' := 34) X5 hx hby d4_33 rfl rfl rfl ?_
  refine Go.iloadN (pc' := 35) X5 hx hby d4_34 rfl rfl ?_
  refine Go.iloadN (pc' := 36) X5 hx hby d4_35 rfl rfl ?_
  refine Go.callS (pc' := 39) (W := 0) (argsL := [(.ref ca), (.int (0 : Int32)), (.int (1 : Int32))]) (rest := []) X5 hx hby hZ hown (hw _ (List.mem_of_getElem? (i := 22) rfl)) (hw _ (List.mem_of_getElem? (i := 23) rfl)) (hw _ (List.mem_of_getElem? (i := 24) rfl)) (hw _ (List.mem_of_getElem? (i := 25) rfl)) (by decide) (rmC3_1 l Z a0 hw ca 0 1 h0 n0 bx Z0 rfl rfl A0) e6 (by decide) (by decide) (by rw [hml]; rfl) pd_22 rfl rfl rfl (Nat.le_of_eq rfl) d4_36 rfl (by decide) (by decide) ?_
  rintro r7 T8 L9 X10 ⟨b, rfl, gf, N1_, K1, A1⟩
  have nb : a ≠ b := Nat.ne_of_lt (Nat.lt_of_lt_of_le E0.lt gf)
  have f11 : Old Z n0 T8.heap := O0.keep K1 all0
  have f12 : Exa Z T8.heap a "java/lang/String" := E0.keep K1
  have f13 : Fld Z T8.heap a "java/lang/String" "value" "[B" .null := F1.keep K1 nin0
  have f14 : Fld Z T8.heap a "java/lang/String" "coder" "B" (.int 0) := F2.keep K1 nin0
  have z15 : n0 ≤ T8.heap.size := Nat.le_trans Z0 K1.1
  show Go p e below _ (T8.setTop (mkF m 39 #[.val (.ref a), .val (.ref ca), .val (.int (0 : Int32)), .val (.int (1 : Int32)), .val .null, .unset] [(.ref b)]))
  refine Go.astore (Ls' := #[.val (.ref a), .val (.ref ca), .val (.int (0 : Int32)), .val (.int (1 : Int32)), .val .null, .val (.ref b)]) (pc' := 41) X10 hx hby d4_39 rfl rfl rfl ?_
  refine Go.aloadN (pc' := 42) X10 hx hby d4_41 rfl rfl rfl ?_
  refine Go.aload (pc' := 44) X10 hx hby d4_42 rfl rfl rfl ?_
  refine Go.iloadN (pc' := 45) X10 hx hby d4_44 rfl rfl ?_
  refine Go.callS (pc' := 48) (W := 1) (argsL := [(.ref b), (.int (1 : Int32))]) (rest := [(.ref a)]) X10 hx hby hZ hown (hw _ (List.mem_of_getElem? (i := 30) rfl)) (hw _ (List.mem_of_getElem? (i := 31) rfl)) (hw _ (List.mem_of_getElem? (i := 24) rfl)) (hw _ (List.mem_of_getElem? (i := 32) rfl)) (by decide) (rmCF1 l Z a0 hw b 1 T8.heap _ rfl A1) rfl (by decide) (by decide) (by rw [hml]; rfl) pd_17 rfl rfl rfl (Nat.le_of_eq rfl) d4_45 rfl (by decide) (by decide) ?_
  rintro r17 T18 L19 X20 ⟨rfl, rfl, e16⟩
  rw [List.append_nil] at X20
  show Go p e below _ (T18.setTop (mkF m 48 #[.val (.ref a), .val (.ref ca), .val (.int (0 : Int32)), .val (.int (1 : Int32)), .val .null, .val (.ref b)] [(.int (0 : Int32)), (.ref a)]))
  refine Go.putF (pc' := 51) (ty := .byte) X20 hx hby hZ hown (hw _ (List.mem_of_getElem? (i := 33) rfl)) Via.refl e16 f14 f12 (Or.inr ⟨(hw _ (List.mem_of_getElem? (i := 34) rfl)), rfl, hnm⟩) (hw _ (List.mem_of_getElem? (i := 5) rfl)) (by decide) rfl rfl d4_48 rfl ?_
  intro T21 h22 X23 e24 W25
  have f26 : Old Z n0 h22 := f11.wr W25 ga
  have f27 : Exa Z h22 a "java/lang/String" := Exa.wr W25 f12
  have f28 : Fld Z h22 a "java/lang/String" "value" "[B" .null := Fld.other W25 f13 (Or.inr (slot_ne (t := (.array .byte)) (t' := .byte) (Or.inr (hw _ (List.mem_of_getElem? (i := 36) rfl))) (Or.inr (hw _ (List.mem_of_getElem? (i := 34) rfl))) (by decide) (by decide) (by decide)))
  have f29 : Ar Z h22 b .byte 1 (fun q => .int (own_cf bx q)) := A1.other W25 (Ne.symm nb)
  have z30 : n0 ≤ h22.size := by rw [Wr.size W25]; exact z15
  have f31 : Fld Z h22 a "java/lang/String" "coder" "B" (.int (0 : Int32)) := Fld.same W25 f14
  have N32 : Fr n0 _ := Fr.snoc X23 (Fr.app (Fr.nil _) N1_) ga
  show Go p e below _ (T21.setTop (mkF m 51 #[.val (.ref a), .val (.ref ca), .val (.int (0 : Int32)), .val (.int (1 : Int32)), .val .null, .val (.ref b)] []))
  refine Go.aloadN (pc' := 52) X23 hx hby d4_51 rfl rfl rfl ?_
  refine Go.aload (pc' := 54) X23 hx hby d4_52 rfl rfl rfl ?_
  refine Go.putF (pc' := 57) (ty := (.array .byte)) X23 hx hby hZ hown (hw _ (List.mem_of_getElem? (i := 35) rfl)) Via.refl e24 f28 f27 (Or.inr ⟨(hw _ (List.mem_of_getElem? (i := 36) rfl)), rfl, hnm⟩) (hw _ (List.mem_of_getElem? (i := 5) rfl)) (by decide) rfl rfl d4_54 rfl ?_
  intro T33 h34 X35 e36 W37
  have f38 : Old Z n0 h34 := f26.wr W37 ga
  have f39 : Exa Z h34 a "java/lang/String" := Exa.wr W37 f27
  have f40 : Fld Z h34 a "java/lang/String" "coder" "B" (.int (0 : Int32)) := Fld.other W37 f31 (Or.inr (slot_ne (t := .byte) (t' := (.array .byte)) (Or.inr (hw _ (List.mem_of_getElem? (i := 34) rfl))) (Or.inr (hw _ (List.mem_of_getElem? (i := 36) rfl))) (by decide) (by decide) (by decide)))
  have f41 : Ar Z h34 b .byte 1 (fun q => .int (own_cf bx q)) := f29.other W37 (Ne.symm nb)
  have z42 : n0 ≤ h34.size := by rw [Wr.size W37]; exact z30
  have f43 : Fld Z h34 a "java/lang/String" "value" "[B" (.ref b) := Fld.same W37 f28
  have N44 : Fr n0 _ := Fr.snoc X35 N32 ga
  show Go p e below _ (T33.setTop (mkF m 57 #[.val (.ref a), .val (.ref ca), .val (.int (0 : Int32)), .val (.int (1 : Int32)), .val .null, .val (.ref b)] []))
  exact Go.ret0 X35 hx hby hlk hret d4_57 (by decide) (by decide) ⟨b, rfl, N44, by rw [e36]; exact (((Keep.refl h0 [a]).trans K1 all0).wr W25 (Or.inl (List.mem_singleton.mpr rfl))).wr W37 (Or.inl (List.mem_singleton.mpr rfl)), by rw [e36]; exact ⟨f39, f43, f40, f41⟩⟩
theorem ef_3 (m : MethodId) (x0 : Addr) (x1 : Addr) : entryFrame m #[(.ref x0), (.ref x1)] 2 = mkF m 0 #[.val (.ref x0), .val (.ref x1)] [] := by first | (simp [entryFrame, mkF, argsToLocals, Value.category]; done) | rfl
set_option maxRecDepth 65536 in
set_option maxHeartbeats 40000000 in
theorem rmI1_1 (l : Launch) (Z : State) (a0 : Array Value) (hw : ∀ d ∈ tables_1, d.before a0 Z = true) (a : Addr) (ca : Addr) (h0 : Heap) (n0 : Nat) (kk : Int32) (sf : Value) (bx : Int32) (O0 : Old Z n0 h0) (SS : own_S Z kk sf) (Z0 : n0 ≤ h0.size) (ga : n0 ≤ a) (E0 : Exa Z h0 a "java/lang/String") (F1 : Fld Z h0 a "java/lang/String" "value" "[B" .null) (F2 : Fld Z h0 a "java/lang/String" "coder" "B" (.int 0)) (A0 : Ar Z h0 ca .char 1 (fun q => .int (own_cf bx q))) :
    Con l Z (⟨"java/lang/String", "<init>", "([C)V"⟩ : MethodName) jdk_42_method_3_code 2 none [] ({ frames := 3, cells := 1, slots := 1, locals := 52 } : Room) #[(.ref a), (.ref ca)] h0 (fun v h L => ∃ b, v = none ∧ Fr n0 L ∧ Keep h0 h [a] ∧ own_sx Z h a b 1 (own_cf bx)) := by
  refine Con.of (plainFor_of_name pn_String) ?_
  intro p e s m below meth c s₁ hx hby hml hown hnm hret hlk hZ X0 e0
  refine Go.cast (ef_3 m a ca) ?_
  replace hown : s.vm.findClass "java/lang/String" = some m.cls := hown
  refine Go.aloadN (pc' := 1) X0 hx hby d3_0 rfl rfl rfl ?_
  refine Go.aloadN (pc' := 2) X0 hx hby d3_1 rfl rfl rfl ?_
  refine Go.iconst (pc' := 3) X0 hx hby d3_2 rfl (v := (0 : Int32)) (by decide) ?_
  refine Go.aloadN (pc' := 4) X0 hx hby d3_3 rfl rfl rfl ?_
  refine Go.alen (pc' := 5) (zv := (1 : Int32)) X0 hx hby hZ e0 A0 d3_4 rfl (by decide) ?_
  refine Go.aconstNull (pc' := 6) X0 hx hby d3_5 rfl ?_
  refine Go.callI (pc' := 9) (a := a) (W := 0) (argsL := [(.ref ca), (.int (0 : Int32)), (.int (1 : Int32)), .null]) (rest := []) X0 hx hby rfl hZ hown (hw _ (List.mem_of_getElem? (i := 14) rfl)) (hw _ (List.mem_of_getElem? (i := 15) rfl)) (hw _ (List.mem_of_getElem? (i := 6) rfl)) (hw _ (List.mem_of_getElem? (i := 17) rfl)) (by decide) (rmI4_1 l Z a0 hw a ca 0 1 h0 n0 kk sf bx O0 SS Z0 ga rfl rfl E0 F1 F2 A0) e0 (by decide) (by decide) (by rw [hml]; rfl) pd_23 rfl rfl rfl (Nat.le_of_eq rfl) d3_6 rfl (by decide) (by decide) ?_
  rintro r1 T2 L3 X4 ⟨b, rfl, N1, K1, S1⟩
  show Go p e below _ (T2.setTop (mkF m 9 #[.val (.ref a), .val (.ref ca)] []))
  exact Go.ret0 X4 hx hby hlk hret d3_9 (by decide) (by decide) ⟨b, rfl, (Fr.app (Fr.nil _) N1), K1, S1⟩
set_option maxRecDepth 65536 in
set_option maxHeartbeats 40000000 in
theorem rmC5_2 (l : Launch) (Z : State) (a0 : Array Value) (hw : ∀ d ∈ tables_1, d.before a0 Z = true) (ca : Addr) (x1 : Int32) (ba : Addr) (x3 : Int32) (x4 : Int32) (h0 : Heap) (n0 : Nat) (bx : Int32) (Z0 : n0 ≤ h0.size) (gb : n0 ≤ ba) (h1 : x1 = 0) (h3 : x3 = 0) (h4 : x4 = 2) (A0 : Ar Z h0 ca .char 2 (fun q => .int (own_cf bx q))) (A1 : Ar Z h0 ba .byte 2 (fun q => .int 0)) :
    Con l Z (⟨"java/lang/StringUTF16", "compress", "([CI[BII)I"⟩ : MethodName) jdk_52_method_21_code 7 (some .int) [] ({ frames := 0, cells := 0, slots := 0, locals := 0 } : Room) #[(.ref ca), (.int x1), (.ref ba), (.int x3), (.int x4)] h0 (fun v h L => v = some (.int 2) ∧ Fr n0 L ∧ Keep h0 h [ba] ∧ Ar Z h ba .byte 2 (fun q => .int (own_cf bx q))) := by
  refine Con.of (plainFor_of_name pn_StringUTF16) ?_
  intro p e s m below meth c s₁ hx hby hml hown hnm hret hlk hZ X0 e0
  refine Go.cast (ef_7 m ca x1 ba x3 x4) ?_
  replace hown : s.vm.findClass "java/lang/StringUTF16" = some m.cls := hown
  subst h1 h3 h4
  show Go p e below _ (s₁.setTop (mkF m 0 #[.val (.ref ca), .val (.int (0 : Int32)), .val (.ref ba), .val (.int (0 : Int32)), .val (.int (2 : Int32)), .unset, .unset] []))
  have nb : ca ≠ ba := Ar.neTy A0 A1 (by decide)
  refine Go.iconst (pc' := 1) X0 hx hby d7_0 rfl (v := (0 : Int32)) (by decide) ?_
  refine Go.istore (Ls' := #[.val (.ref ca), .val (.int (0 : Int32)), .val (.ref ba), .val (.int (0 : Int32)), .val (.int (2 : Int32)), .val (.int (0 : Int32)), .unset]) (pc' := 3) X0 hx hby d7_1 rfl rfl ?_
  refine Go.iload (pc' := 5) X0 hx hby d7_3 rfl rfl ?_
  refine Go.iload (pc' := 7) X0 hx hby d7_5 rfl rfl ?_
  refine Go.icmpN (pc' := 10) X0 hx hby d7_7 rfl (show ¬ ((2 : Int32) ≤ (0 : Int32)) from by decide) ?_
  refine Go.aloadN (pc' := 11) X0 hx hby d7_10 rfl rfl rfl ?_
  refine Go.iloadN (pc' := 12) X0 hx hby d7_11 rfl rfl ?_
  refine Go.caload (pc' := 13) (i := 0) (v := (.int (own_ck bx 0))) X0 hx hby hZ e0 A0 d7_12 rfl (by decide) (by decide) (by decide) rfl ?_
  refine Go.istore (Ls' := #[.val (.ref ca), .val (.int (0 : Int32)), .val (.ref ba), .val (.int (0 : Int32)), .val (.int (2 : Int32)), .val (.int (0 : Int32)), .val (.int (own_ck bx 0))]) (pc' := 15) X0 hx hby d7_13 rfl rfl ?_
  refine Go.iload (pc' := 17) X0 hx hby d7_15 rfl rfl ?_
  refine Go.sipush (pc' := 20) X0 hx hby d7_17 rfl (v := (255 : Int32)) (by decide) ?_
  refine Go.icmpY (pc' := 26) X0 hx hby d7_20 (by decide) (by decide) (show (own_ck bx 0) ≤ (255 : Int32) from own_le7 (own_ckr bx 0)) ?_
  refine Go.aloadN (pc' := 27) X0 hx hby d7_26 rfl rfl rfl ?_
  refine Go.iloadN (pc' := 28) X0 hx hby d7_27 rfl rfl ?_
  refine Go.iload (pc' := 30) X0 hx hby d7_28 rfl rfl ?_
  refine Go.i2b (pc' := 31) X0 hx hby d7_30 rfl ?_
  refine Go.bastore (pc' := 32) (i := 0) X0 hx hby hZ e0 A1 d7_31 rfl (by decide) (by decide) (by decide) ?_
  intro T1 h2 X3 e4 W5 A6
  have f7 : Ar Z h2 ca .char 2 (fun q => .int (own_cf bx q)) := A0.other W5 nb
  have z8 : n0 ≤ h2.size := by rw [Wr.size W5]; exact Z0
  have f9 : Ar Z h2 ba .byte 2 (fun q => if q = 0 then (.int (nar .byte ((own_ck bx 0).toInt8.toInt32))) else .int 0) := A6
  have N10 : Fr n0 _ := Fr.snoc X3 (Fr.nil _) gb
  show Go p e below _ (T1.setTop (mkF m 32 #[.val (.ref ca), .val (.int (0 : Int32)), .val (.ref ba), .val (.int (0 : Int32)), .val (.int (2 : Int32)), .val (.int (0 : Int32)), .val (.int (own_ck bx 0))] []))
  refine Go.iinc (w := (0 : Int32) + (1 : Int32)) (Ls' := #[.val (.ref ca), .val (.int ((0 : Int32) + (1 : Int32))), .val (.ref ba), .val (.int (0 : Int32)), .val (.int (2 : Int32)), .val (.int (0 : Int32)), .val (.int (own_ck bx 0))]) (pc' := 35) X3 hx hby d7_32 rfl rfl rfl rfl ?_
  refine Go.iinc (w := (0 : Int32) + (1 : Int32)) (Ls' := #[.val (.ref ca), .val (.int ((0 : Int32) + (1 : Int32))), .val (.ref ba), .val (.int ((0 : Int32) + (1 : Int32))), .val (.int (2 : Int32)), .val (.int (0 : Int32)), .val (.int (own_ck bx 0))]) (pc' := 38) X3 hx hby d7_35 rfl rfl rfl rfl ?_
  refine Go.iinc (w := (0 : Int32) + (1 : Int32)) (Ls' := #[.val (.ref ca), .val (.int ((0 : Int32) + (1 : Int32))), .val (.ref ba), .val (.int ((0 : Int32) + (1 : Int32))), .val (.int (2 : Int32)), .val (.int ((0 : Int32) + (1 : Int32))), .val (.int (own_ck bx 0))]) (pc' := 41) X3 hx hby d7_38 rfl rfl rfl rfl ?_
  change Go p e below _ (T1.setTop (mkF m 41 #[.val (.ref ca), .val (.int (1 : Int32)), .val (.ref ba), .val (.int ((0 : Int32) + (1 : Int32))), .val (.int (2 : Int32)), .val (.int ((0 : Int32) + (1 : Int32))), .val (.int (own_ck bx 0))] []))
  change Go p e below _ (T1.setTop (mkF m 41 #[.val (.ref ca), .val (.int (1 : Int32)), .val (.ref ba), .val (.int (1 : Int32)), .val (.int (2 : Int32)), .val (.int ((0 : Int32) + (1 : Int32))), .val (.int (own_ck bx 0))] []))
  change Go p e below _ (T1.setTop (mkF m 41 #[.val (.ref ca), .val (.int (1 : Int32)), .val (.ref ba), .val (.int (1 : Int32)), .val (.int (2 : Int32)), .val (.int (1 : Int32)), .val (.int (own_ck bx 0))] []))
  refine Go.goto (pc' := 3) X3 hx hby d7_41 (by decide) (by decide) ?_
  refine Go.iload (pc' := 5) X3 hx hby d7_3 rfl rfl ?_
  refine Go.iload (pc' := 7) X3 hx hby d7_5 rfl rfl ?_
  refine Go.icmpN (pc' := 10) X3 hx hby d7_7 rfl (show ¬ ((2 : Int32) ≤ (1 : Int32)) from by decide) ?_
  refine Go.aloadN (pc' := 11) X3 hx hby d7_10 rfl rfl rfl ?_
  refine Go.iloadN (pc' := 12) X3 hx hby d7_11 rfl rfl ?_
  refine Go.caload (pc' := 13) (i := 1) (v := (.int (own_ck bx 1))) X3 hx hby hZ e4 f7 d7_12 rfl (by decide) (by decide) (by decide) rfl ?_
  refine Go.istore (Ls' := #[.val (.ref ca), .val (.int (1 : Int32)), .val (.ref ba), .val (.int (1 : Int32)), .val (.int (2 : Int32)), .val (.int (1 : Int32)), .val (.int (own_ck bx 1))]) (pc' := 15) X3 hx hby d7_13 rfl rfl ?_
  refine Go.iload (pc' := 17) X3 hx hby d7_15 rfl rfl ?_
  refine Go.sipush (pc' := 20) X3 hx hby d7_17 rfl (v := (255 : Int32)) (by decide) ?_
  refine Go.icmpY (pc' := 26) X3 hx hby d7_20 (by decide) (by decide) (show (own_ck bx 1) ≤ (255 : Int32) from own_le7 (own_ckr bx 1)) ?_
  refine Go.aloadN (pc' := 27) X3 hx hby d7_26 rfl rfl rfl ?_
  refine Go.iloadN (pc' := 28) X3 hx hby d7_27 rfl rfl ?_
  refine Go.iload (pc' := 30) X3 hx hby d7_28 rfl rfl ?_
  refine Go.i2b (pc' := 31) X3 hx hby d7_30 rfl ?_
  refine Go.bastore (pc' := 32) (i := 1) X3 hx hby hZ e4 f9 d7_31 rfl (by decide) (by decide) (by decide) ?_
  intro T11 h12 X13 e14 W15 A16
  have f17 : Ar Z h12 ca .char 2 (fun q => .int (own_cf bx q)) := f7.other W15 nb
  have z18 : n0 ≤ h12.size := by rw [Wr.size W15]; exact z8
  have f19 : Ar Z h12 ba .byte 2 (fun q => if q = 1 then (.int (nar .byte ((own_ck bx 1).toInt8.toInt32))) else if q = 0 then (.int (nar .byte ((own_ck bx 0).toInt8.toInt32))) else .int 0) := A16
  have N20 : Fr n0 _ := Fr.snoc X13 N10 gb
  show Go p e below _ (T11.setTop (mkF m 32 #[.val (.ref ca), .val (.int (1 : Int32)), .val (.ref ba), .val (.int (1 : Int32)), .val (.int (2 : Int32)), .val (.int (1 : Int32)), .val (.int (own_ck bx 1))] []))
  refine Go.iinc (w := (1 : Int32) + (1 : Int32)) (Ls' := #[.val (.ref ca), .val (.int ((1 : Int32) + (1 : Int32))), .val (.ref ba), .val (.int (1 : Int32)), .val (.int (2 : Int32)), .val (.int (1 : Int32)), .val (.int (own_ck bx 1))]) (pc' := 35) X13 hx hby d7_32 rfl rfl rfl rfl ?_
  refine Go.iinc (w := (1 : Int32) + (1 : Int32)) (Ls' := #[.val (.ref ca), .val (.int ((1 : Int32) + (1 : Int32))), .val (.ref ba), .val (.int ((1 : Int32) + (1 : Int32))), .val (.int (2 : Int32)), .val (.int (1 : Int32)), .val (.int (own_ck bx 1))]) (pc' := 38) X13 hx hby d7_35 rfl rfl rfl rfl ?_
  refine Go.iinc (w := (1 : Int32) + (1 : Int32)) (Ls' := #[.val (.ref ca), .val (.int ((1 : Int32) + (1 : Int32))), .val (.ref ba), .val (.int ((1 : Int32) + (1 : Int32))), .val (.int (2 : Int32)), .val (.int ((1 : Int32) + (1 : Int32))), .val (.int (own_ck bx 1))]) (pc' := 41) X13 hx hby d7_38 rfl rfl rfl rfl ?_
  change Go p e below _ (T11.setTop (mkF m 41 #[.val (.ref ca), .val (.int (2 : Int32)), .val (.ref ba), .val (.int ((1 : Int32) + (1 : Int32))), .val (.int (2 : Int32)), .val (.int ((1 : Int32) + (1 : Int32))), .val (.int (own_ck bx 1))] []))
  change Go p e below _ (T11.setTop (mkF m 41 #[.val (.ref ca), .val (.int (2 : Int32)), .val (.ref ba), .val (.int (2 : Int32)), .val (.int (2 : Int32)), .val (.int ((1 : Int32) + (1 : Int32))), .val (.int (own_ck bx 1))] []))
  change Go p e below _ (T11.setTop (mkF m 41 #[.val (.ref ca), .val (.int (2 : Int32)), .val (.ref ba), .val (.int (2 : Int32)), .val (.int (2 : Int32)), .val (.int (2 : Int32)), .val (.int (own_ck bx 1))] []))
  refine Go.goto (pc' := 3) X13 hx hby d7_41 (by decide) (by decide) ?_
  refine Go.iload (pc' := 5) X13 hx hby d7_3 rfl rfl ?_
  refine Go.iload (pc' := 7) X13 hx hby d7_5 rfl rfl ?_
  refine Go.icmpY (pc' := 44) X13 hx hby d7_7 (by decide) (by decide) (show (2 : Int32) ≤ (2 : Int32) from by decide) ?_
  refine Go.iload (pc' := 46) X13 hx hby d7_44 rfl rfl ?_
  have f21 : Ar Z h12 ba .byte 2 (fun q => .int (own_cf bx q)) := f19.congr (fun i h1 h2 => by have t : i = 0 ∨ i = 1 := (by omega); rcases t with rfl | rfl <;> simp [own_cf, own_b7 (own_ckr bx _), own_n7 (own_ckr bx _)])
  exact Go.retI X13 hx hby hlk hret d7_46 (by decide) (by decide) ⟨rfl, N20, by rw [e14]; exact (((Keep.refl h0 _).wr W5 (Or.inl (List.mem_singleton.mpr rfl))).wr W15 (Or.inl (List.mem_singleton.mpr rfl))), by rw [e14]; exact f21⟩
set_option maxRecDepth 65536 in
set_option maxHeartbeats 40000000 in
theorem rmC3_2 (l : Launch) (Z : State) (a0 : Array Value) (hw : ∀ d ∈ tables_1, d.before a0 Z = true) (ca : Addr) (x1 : Int32) (x2 : Int32) (h0 : Heap) (n0 : Nat) (bx : Int32) (Z0 : n0 ≤ h0.size) (h1 : x1 = 0) (h2 : x2 = 2) (A0 : Ar Z h0 ca .char 2 (fun q => .int (own_cf bx q))) :
    Con l Z (⟨"java/lang/StringUTF16", "compress", "([CII)[B"⟩ : MethodName) jdk_52_method_16_code 6 (some (.array .byte)) [] ({ frames := 1, cells := 1, slots := 2, locals := 18 } : Room) #[(.ref ca), (.int x1), (.int x2)] h0 (fun v h L => ∃ b, v = some (.ref b) ∧ h0.size ≤ b ∧ Fr n0 L ∧ Keep h0 h [] ∧ Ar Z h b .byte 2 (fun q => .int (own_cf bx q))) := by
  refine Con.of (plainFor_of_name pn_StringUTF16) ?_
  intro p e s m below meth c s₁ hx hby hml hown hnm hret hlk hZ X0 e0
  refine Go.cast (ef_6 m ca x1 x2) ?_
  replace hown : s.vm.findClass "java/lang/StringUTF16" = some m.cls := hown
  subst h1 h2
  show Go p e below _ (s₁.setTop (mkF m 0 #[.val (.ref ca), .val (.int (0 : Int32)), .val (.int (2 : Int32)), .unset, .unset, .unset] []))
  refine Go.iloadN (pc' := 1) X0 hx hby d6_0 rfl rfl ?_
  refine Go.newarr (pc' := 3) (cap := 2) (z := 2) X0 hx hby hZ (hw _ (List.mem_of_getElem? (i := 26) rfl)) e0 d6_1 rfl (by decide) (by decide) (by decide) (by decide) (by decide) (by decide) ?_
  intro b1 T2 h3 g4 X5 e6 E7 A8
  have n9 : ca ≠ b1 := Nat.ne_of_lt (by rw [g4]; exact A0.lt)
  have g10 : n0 ≤ b1 := by rw [g4]; exact Z0
  have f11 : Ar Z h3 ca .char 2 (fun q => .int (own_cf bx q)) := A0.ext E7
  have z12 : n0 ≤ h3.size := Nat.le_trans Z0 E7.1
  have f13 : Ar Z h3 b1 .byte 2 (fun _ => (.int 0)) := A8
  show Go p e below _ (T2.setTop (mkF m 3 #[.val (.ref ca), .val (.int (0 : Int32)), .val (.int (2 : Int32)), .unset, .unset, .unset] [(.ref b1)]))
  have K0 : Keep h0 h3 [] := (Keep.refl h0 _).ext E7
  have gf : h0.size ≤ b1 := by rw [g4]; exact Nat.le_refl _
  refine Go.astoreN (Ls' := #[.val (.ref ca), .val (.int (0 : Int32)), .val (.int (2 : Int32)), .val (.ref b1), .unset, .unset]) (pc' := 4) X5 hx hby d6_3 rfl rfl rfl ?_
  refine Go.aloadN (pc' := 5) X5 hx hby d6_4 rfl rfl rfl ?_
  refine Go.iloadN (pc' := 6) X5 hx hby d6_5 rfl rfl ?_
  refine Go.aloadN (pc' := 7) X5 hx hby d6_6 rfl rfl rfl ?_
  refine Go.iconst (pc' := 8) X5 hx hby d6_7 rfl (v := (0 : Int32)) (by decide) ?_
  refine Go.iloadN (pc' := 9) X5 hx hby d6_8 rfl rfl ?_
  refine Go.callS (pc' := 12) (W := 0) (argsL := [(.ref ca), (.int (0 : Int32)), (.ref b1), (.int (0 : Int32)), (.int (2 : Int32))]) (rest := []) X5 hx hby hZ hown (hw _ (List.mem_of_getElem? (i := 27) rfl)) (hw _ (List.mem_of_getElem? (i := 28) rfl)) (hw _ (List.mem_of_getElem? (i := 24) rfl)) (hw _ (List.mem_of_getElem? (i := 29) rfl)) (by decide) (rmC5_2 l Z a0 hw ca 0 b1 0 2 h3 n0 bx z12 g10 rfl rfl rfl f11 f13) e6 (by decide) (by decide) (by rw [hml]; rfl) pd_24 rfl rfl rfl (Nat.le_of_eq rfl) d6_9 rfl (by decide) (by decide) ?_
  rintro r14 T15 L16 X17 ⟨rfl, N1_, K1_, A1⟩
  have K2 := K0.trans K1_ (allS (Or.inr gf) all0)
  show Go p e below _ (T15.setTop (mkF m 12 #[.val (.ref ca), .val (.int (0 : Int32)), .val (.int (2 : Int32)), .val (.ref b1), .unset, .unset] [(.int (2 : Int32))]))
  refine Go.istore (Ls' := #[.val (.ref ca), .val (.int (0 : Int32)), .val (.int (2 : Int32)), .val (.ref b1), .val (.int (2 : Int32)), .unset]) (pc' := 14) X17 hx hby d6_12 rfl rfl ?_
  refine Go.iload (pc' := 16) X17 hx hby d6_14 rfl rfl ?_
  refine Go.iloadN (pc' := 17) X17 hx hby d6_16 rfl rfl ?_
  refine Go.icmpY (pc' := 57) X17 hx hby d6_17 (by decide) (by decide) (show (2 : Int32) = (2 : Int32) from by decide) ?_
  refine Go.aloadN (pc' := 58) X17 hx hby d6_57 rfl rfl rfl ?_
  exact Go.retA X17 hx hby hlk hret rfl rfl rfl d6_58 (by decide) (by decide) ⟨b1, rfl, gf, (Fr.app (Fr.nil _) N1_), K2, A1⟩
set_option maxRecDepth 65536 in
set_option maxHeartbeats 40000000 in
theorem rmCF2 (l : Launch) (Z : State) (a0 : Array Value) (hw : ∀ d ∈ tables_1, d.before a0 Z = true) (a : Addr) (x1 : Int32) (h0 : Heap) (f0 : Int → Value) (h1 : x1 = 2) (A0 : Ar Z h0 a .byte 2 f0) :
    Con l Z (⟨"java/lang/StringUTF16", "coderFromArrayLen", "([BI)B"⟩ : MethodName) jdk_52_method_15_code 2 (some .byte) [] ({ frames := 0, cells := 0, slots := 0, locals := 0 } : Room) #[(.ref a), (.int x1)] h0 (PQ (some (.int 0)) h0) := by
  refine Con.of (plainFor_of_name pn_StringUTF16) ?_
  intro p e s m below meth c s₁ hx hby hml hown hnm hret hlk hZ X0 e0
  refine Go.cast (ef_8 m a x1) ?_
  replace hown : s.vm.findClass "java/lang/StringUTF16" = some m.cls := hown
  subst h1
  show Go p e below _ (s₁.setTop (mkF m 0 #[.val (.ref a), .val (.int (2 : Int32))] []))
  refine Go.iloadN (pc' := 1) X0 hx hby d8_0 rfl rfl ?_
  refine Go.aloadN (pc' := 2) X0 hx hby d8_1 rfl rfl rfl ?_
  refine Go.alen (pc' := 3) (zv := (2 : Int32)) X0 hx hby hZ e0 A0 d8_2 rfl (by decide) ?_
  refine Go.isub (pc' := 4) X0 hx hby d8_3 rfl ?_
  refine Go.bipush (pc' := 6) X0 hx hby d8_4 rfl (v := (31 : Int32)) (by decide) ?_
  refine Go.iushr (pc' := 7) X0 hx hby d8_6 rfl ?_
  refine Go.i2b (pc' := 8) X0 hx hby d8_7 rfl ?_
  exact Go.retZ X0 hx hby hlk hret (by simp) d8_8 (by decide) (by decide) ⟨by rw [show nar .byte (((((2 : Int32) - (2 : Int32)).toUInt32 >>> ((31 : Int32) &&& 31).toUInt32).toInt32).toInt8.toInt32) = 0 from by decide], rfl, e0⟩
set_option maxRecDepth 65536 in
set_option maxHeartbeats 40000000 in
theorem rmI4_2 (l : Launch) (Z : State) (a0 : Array Value) (hw : ∀ d ∈ tables_1, d.before a0 Z = true) (a : Addr) (ca : Addr) (x2 : Int32) (x3 : Int32) (h0 : Heap) (n0 : Nat) (kk : Int32) (sf : Value) (bx : Int32) (O0 : Old Z n0 h0) (SS : own_S Z kk sf) (Z0 : n0 ≤ h0.size) (ga : n0 ≤ a) (h2 : x2 = 0) (h3 : x3 = 2) (E0 : Exa Z h0 a "java/lang/String") (F1 : Fld Z h0 a "java/lang/String" "value" "[B" .null) (F2 : Fld Z h0 a "java/lang/String" "coder" "B" (.int 0)) (A0 : Ar Z h0 ca .char 2 (fun q => .int (own_cf bx q))) :
    Con l Z (⟨"java/lang/String", "<init>", "([CIILjava/lang/Void;)V"⟩ : MethodName) jdk_42_method_149_code 6 none [] ({ frames := 2, cells := 1, slots := 2, locals := 35 } : Room) #[(.ref a), (.ref ca), (.int x2), (.int x3), .null] h0 (fun v h L => ∃ b, v = none ∧ Fr n0 L ∧ Keep h0 h [a] ∧ own_sx Z h a b 2 (own_cf bx)) := by
  refine Con.of (plainFor_of_name pn_String) ?_
  intro p e s m below meth c s₁ hx hby hml hown hnm hret hlk hZ X0 e0
  refine Go.cast (ef_4 m a ca x2 x3) ?_
  replace hown : s.vm.findClass "java/lang/String" = some m.cls := hown
  subst h2 h3
  show Go p e below _ (s₁.setTop (mkF m 0 #[.val (.ref a), .val (.ref ca), .val (.int (0 : Int32)), .val (.int (2 : Int32)), .val .null, .unset] []))
  have S0_ : Sta Z h0 "java/lang/String" "COMPACT_STRINGS" "Z" (.int kk) := Sta.ext O0.2 SS.2.1
  refine Go.aloadN (pc' := 1) X0 hx hby d4_0 rfl rfl rfl ?_
  refine Go.initO (pc' := 4) (W := 0) X0 hx hby hZ hown (hw _ (List.mem_of_getElem? (i := 18) rfl)) (hw _ (List.mem_of_getElem? (i := 19) rfl)) (hw _ (List.mem_of_getElem? (i := 20) rfl)) e0 (by rw [hml]; rfl) d4_1 rfl (by decide) (Nat.le_of_eq rfl) (by decide) ?_
  intro T1 X2 e3
  refine Go.iloadN (pc' := 5) X2 hx hby d4_4 rfl rfl ?_
  refine Go.ifY (pc' := 27) X2 hx hby d4_5 (by decide) (by decide) (show (2 : Int32) ≠ 0 from by decide) ?_
  refine Go.getSt (pc' := 30) X2 hx hby hZ hown (hw _ (List.mem_of_getElem? (i := 21) rfl)) Via.refl e3 S0_ d4_27 rfl ?_
  intro T4 X5 e6
  refine Go.ifN (pc' := 33) X5 hx hby d4_30 rfl (show ¬ (kk = 0) from SS.1) ?_
  refine Go.aloadN (pc' := 34) X5 hx hby d4_33 rfl rfl rfl ?_
  refine Go.iloadN (pc' := 35) X5 hx hby d4_34 rfl rfl ?_
  refine Go.iloadN (pc' := 36) X5 hx hby d4_35 rfl rfl ?_
  refine Go.callS (pc' := 39) (W := 0) (argsL := [(.ref ca), (.int (0 : Int32)), (.int (2 : Int32))]) (rest := []) X5 hx hby hZ hown (hw _ (List.mem_of_getElem? (i := 22) rfl)) (hw _ (List.mem_of_getElem? (i := 23) rfl)) (hw _ (List.mem_of_getElem? (i := 24) rfl)) (hw _ (List.mem_of_getElem? (i := 25) rfl)) (by decide) (rmC3_2 l Z a0 hw ca 0 2 h0 n0 bx Z0 rfl rfl A0) e6 (by decide) (by decide) (by rw [hml]; rfl) pd_22 rfl rfl rfl (Nat.le_of_eq rfl) d4_36 rfl (by decide) (by decide) ?_
  rintro r7 T8 L9 X10 ⟨b, rfl, gf, N1_, K1, A1⟩
  have nb : a ≠ b := Nat.ne_of_lt (Nat.lt_of_lt_of_le E0.lt gf)
  have f11 : Old Z n0 T8.heap := O0.keep K1 all0
  have f12 : Exa Z T8.heap a "java/lang/String" := E0.keep K1
  have f13 : Fld Z T8.heap a "java/lang/String" "value" "[B" .null := F1.keep K1 nin0
  have f14 : Fld Z T8.heap a "java/lang/String" "coder" "B" (.int 0) := F2.keep K1 nin0
  have z15 : n0 ≤ T8.heap.size := Nat.le_trans Z0 K1.1
  show Go p e below _ (T8.setTop (mkF m 39 #[.val (.ref a), .val (.ref ca), .val (.int (0 : Int32)), .val (.int (2 : Int32)), .val .null, .unset] [(.ref b)]))
  refine Go.astore (Ls' := #[.val (.ref a), .val (.ref ca), .val (.int (0 : Int32)), .val (.int (2 : Int32)), .val .null, .val (.ref b)]) (pc' := 41) X10 hx hby d4_39 rfl rfl rfl ?_
  refine Go.aloadN (pc' := 42) X10 hx hby d4_41 rfl rfl rfl ?_
  refine Go.aload (pc' := 44) X10 hx hby d4_42 rfl rfl rfl ?_
  refine Go.iloadN (pc' := 45) X10 hx hby d4_44 rfl rfl ?_
  refine Go.callS (pc' := 48) (W := 1) (argsL := [(.ref b), (.int (2 : Int32))]) (rest := [(.ref a)]) X10 hx hby hZ hown (hw _ (List.mem_of_getElem? (i := 30) rfl)) (hw _ (List.mem_of_getElem? (i := 31) rfl)) (hw _ (List.mem_of_getElem? (i := 24) rfl)) (hw _ (List.mem_of_getElem? (i := 32) rfl)) (by decide) (rmCF2 l Z a0 hw b 2 T8.heap _ rfl A1) rfl (by decide) (by decide) (by rw [hml]; rfl) pd_17 rfl rfl rfl (Nat.le_of_eq rfl) d4_45 rfl (by decide) (by decide) ?_
  rintro r17 T18 L19 X20 ⟨rfl, rfl, e16⟩
  rw [List.append_nil] at X20
  show Go p e below _ (T18.setTop (mkF m 48 #[.val (.ref a), .val (.ref ca), .val (.int (0 : Int32)), .val (.int (2 : Int32)), .val .null, .val (.ref b)] [(.int (0 : Int32)), (.ref a)]))
  refine Go.putF (pc' := 51) (ty := .byte) X20 hx hby hZ hown (hw _ (List.mem_of_getElem? (i := 33) rfl)) Via.refl e16 f14 f12 (Or.inr ⟨(hw _ (List.mem_of_getElem? (i := 34) rfl)), rfl, hnm⟩) (hw _ (List.mem_of_getElem? (i := 5) rfl)) (by decide) rfl rfl d4_48 rfl ?_
  intro T21 h22 X23 e24 W25
  have f26 : Old Z n0 h22 := f11.wr W25 ga
  have f27 : Exa Z h22 a "java/lang/String" := Exa.wr W25 f12
  have f28 : Fld Z h22 a "java/lang/String" "value" "[B" .null := Fld.other W25 f13 (Or.inr (slot_ne (t := (.array .byte)) (t' := .byte) (Or.inr (hw _ (List.mem_of_getElem? (i := 36) rfl))) (Or.inr (hw _ (List.mem_of_getElem? (i := 34) rfl))) (by decide) (by decide) (by decide)))
  have f29 : Ar Z h22 b .byte 2 (fun q => .int (own_cf bx q)) := A1.other W25 (Ne.symm nb)
  have z30 : n0 ≤ h22.size := by rw [Wr.size W25]; exact z15
  have f31 : Fld Z h22 a "java/lang/String" "coder" "B" (.int (0 : Int32)) := Fld.same W25 f14
  have N32 : Fr n0 _ := Fr.snoc X23 (Fr.app (Fr.nil _) N1_) ga
  show Go p e below _ (T21.setTop (mkF m 51 #[.val (.ref a), .val (.ref ca), .val (.int (0 : Int32)), .val (.int (2 : Int32)), .val .null, .val (.ref b)] []))
  refine Go.aloadN (pc' := 52) X23 hx hby d4_51 rfl rfl rfl ?_
  refine Go.aload (pc' := 54) X23 hx hby d4_52 rfl rfl rfl ?_
  refine Go.putF (pc' := 57) (ty := (.array .byte)) X23 hx hby hZ hown (hw _ (List.mem_of_getElem? (i := 35) rfl)) Via.refl e24 f28 f27 (Or.inr ⟨(hw _ (List.mem_of_getElem? (i := 36) rfl)), rfl, hnm⟩) (hw _ (List.mem_of_getElem? (i := 5) rfl)) (by decide) rfl rfl d4_54 rfl ?_
  intro T33 h34 X35 e36 W37
  have f38 : Old Z n0 h34 := f26.wr W37 ga
  have f39 : Exa Z h34 a "java/lang/String" := Exa.wr W37 f27
  have f40 : Fld Z h34 a "java/lang/String" "coder" "B" (.int (0 : Int32)) := Fld.other W37 f31 (Or.inr (slot_ne (t := .byte) (t' := (.array .byte)) (Or.inr (hw _ (List.mem_of_getElem? (i := 34) rfl))) (Or.inr (hw _ (List.mem_of_getElem? (i := 36) rfl))) (by decide) (by decide) (by decide)))
  have f41 : Ar Z h34 b .byte 2 (fun q => .int (own_cf bx q)) := f29.other W37 (Ne.symm nb)
  have z42 : n0 ≤ h34.size := by rw [Wr.size W37]; exact z30
  have f43 : Fld Z h34 a "java/lang/String" "value" "[B" (.ref b) := Fld.same W37 f28
  have N44 : Fr n0 _ := Fr.snoc X35 N32 ga
  show Go p e below _ (T33.setTop (mkF m 57 #[.val (.ref a), .val (.ref ca), .val (.int (0 : Int32)), .val (.int (2 : Int32)), .val .null, .val (.ref b)] []))
  exact Go.ret0 X35 hx hby hlk hret d4_57 (by decide) (by decide) ⟨b, rfl, N44, by rw [e36]; exact (((Keep.refl h0 [a]).trans K1 all0).wr W25 (Or.inl (List.mem_singleton.mpr rfl))).wr W37 (Or.inl (List.mem_singleton.mpr rfl)), by rw [e36]; exact ⟨f39, f43, f40, f41⟩⟩
set_option maxRecDepth 65536 in
set_option maxHeartbeats 40000000 in
theorem rmI1_2 (l : Launch) (Z : State) (a0 : Array Value) (hw : ∀ d ∈ tables_1, d.before a0 Z = true) (a : Addr) (ca : Addr) (h0 : Heap) (n0 : Nat) (kk : Int32) (sf : Value) (bx : Int32) (O0 : Old Z n0 h0) (SS : own_S Z kk sf) (Z0 : n0 ≤ h0.size) (ga : n0 ≤ a) (E0 : Exa Z h0 a "java/lang/String") (F1 : Fld Z h0 a "java/lang/String" "value" "[B" .null) (F2 : Fld Z h0 a "java/lang/String" "coder" "B" (.int 0)) (A0 : Ar Z h0 ca .char 2 (fun q => .int (own_cf bx q))) :
    Con l Z (⟨"java/lang/String", "<init>", "([C)V"⟩ : MethodName) jdk_42_method_3_code 2 none [] ({ frames := 3, cells := 1, slots := 2, locals := 52 } : Room) #[(.ref a), (.ref ca)] h0 (fun v h L => ∃ b, v = none ∧ Fr n0 L ∧ Keep h0 h [a] ∧ own_sx Z h a b 2 (own_cf bx)) := by
  refine Con.of (plainFor_of_name pn_String) ?_
  intro p e s m below meth c s₁ hx hby hml hown hnm hret hlk hZ X0 e0
  refine Go.cast (ef_3 m a ca) ?_
  replace hown : s.vm.findClass "java/lang/String" = some m.cls := hown
  refine Go.aloadN (pc' := 1) X0 hx hby d3_0 rfl rfl rfl ?_
  refine Go.aloadN (pc' := 2) X0 hx hby d3_1 rfl rfl rfl ?_
  refine Go.iconst (pc' := 3) X0 hx hby d3_2 rfl (v := (0 : Int32)) (by decide) ?_
  refine Go.aloadN (pc' := 4) X0 hx hby d3_3 rfl rfl rfl ?_
  refine Go.alen (pc' := 5) (zv := (2 : Int32)) X0 hx hby hZ e0 A0 d3_4 rfl (by decide) ?_
  refine Go.aconstNull (pc' := 6) X0 hx hby d3_5 rfl ?_
  refine Go.callI (pc' := 9) (a := a) (W := 0) (argsL := [(.ref ca), (.int (0 : Int32)), (.int (2 : Int32)), .null]) (rest := []) X0 hx hby rfl hZ hown (hw _ (List.mem_of_getElem? (i := 14) rfl)) (hw _ (List.mem_of_getElem? (i := 15) rfl)) (hw _ (List.mem_of_getElem? (i := 6) rfl)) (hw _ (List.mem_of_getElem? (i := 17) rfl)) (by decide) (rmI4_2 l Z a0 hw a ca 0 2 h0 n0 kk sf bx O0 SS Z0 ga rfl rfl E0 F1 F2 A0) e0 (by decide) (by decide) (by rw [hml]; rfl) pd_23 rfl rfl rfl (Nat.le_of_eq rfl) d3_6 rfl (by decide) (by decide) ?_
  rintro r1 T2 L3 X4 ⟨b, rfl, N1, K1, S1⟩
  show Go p e below _ (T2.setTop (mkF m 9 #[.val (.ref a), .val (.ref ca)] []))
  exact Go.ret0 X4 hx hby hlk hret d3_9 (by decide) (by decide) ⟨b, rfl, (Fr.app (Fr.nil _) N1), K1, S1⟩
set_option maxRecDepth 65536 in
set_option maxHeartbeats 40000000 in
theorem rmC5_3 (l : Launch) (Z : State) (a0 : Array Value) (hw : ∀ d ∈ tables_1, d.before a0 Z = true) (ca : Addr) (x1 : Int32) (ba : Addr) (x3 : Int32) (x4 : Int32) (h0 : Heap) (n0 : Nat) (bx : Int32) (Z0 : n0 ≤ h0.size) (gb : n0 ≤ ba) (h1 : x1 = 0) (h3 : x3 = 0) (h4 : x4 = 3) (A0 : Ar Z h0 ca .char 3 (fun q => .int (own_cf bx q))) (A1 : Ar Z h0 ba .byte 3 (fun q => .int 0)) :
    Con l Z (⟨"java/lang/StringUTF16", "compress", "([CI[BII)I"⟩ : MethodName) jdk_52_method_21_code 7 (some .int) [] ({ frames := 0, cells := 0, slots := 0, locals := 0 } : Room) #[(.ref ca), (.int x1), (.ref ba), (.int x3), (.int x4)] h0 (fun v h L => v = some (.int 3) ∧ Fr n0 L ∧ Keep h0 h [ba] ∧ Ar Z h ba .byte 3 (fun q => .int (own_cf bx q))) := by
  refine Con.of (plainFor_of_name pn_StringUTF16) ?_
  intro p e s m below meth c s₁ hx hby hml hown hnm hret hlk hZ X0 e0
  refine Go.cast (ef_7 m ca x1 ba x3 x4) ?_
  replace hown : s.vm.findClass "java/lang/StringUTF16" = some m.cls := hown
  subst h1 h3 h4
  show Go p e below _ (s₁.setTop (mkF m 0 #[.val (.ref ca), .val (.int (0 : Int32)), .val (.ref ba), .val (.int (0 : Int32)), .val (.int (3 : Int32)), .unset, .unset] []))
  have nb : ca ≠ ba := Ar.neTy A0 A1 (by decide)
  refine Go.iconst (pc' := 1) X0 hx hby d7_0 rfl (v := (0 : Int32)) (by decide) ?_
  refine Go.istore (Ls' := #[.val (.ref ca), .val (.int (0 : Int32)), .val (.ref ba), .val (.int (0 : Int32)), .val (.int (3 : Int32)), .val (.int (0 : Int32)), .unset]) (pc' := 3) X0 hx hby d7_1 rfl rfl ?_
  refine Go.iload (pc' := 5) X0 hx hby d7_3 rfl rfl ?_
  refine Go.iload (pc' := 7) X0 hx hby d7_5 rfl rfl ?_
  refine Go.icmpN (pc' := 10) X0 hx hby d7_7 rfl (show ¬ ((3 : Int32) ≤ (0 : Int32)) from by decide) ?_
  refine Go.aloadN (pc' := 11) X0 hx hby d7_10 rfl rfl rfl ?_
  refine Go.iloadN (pc' := 12) X0 hx hby d7_11 rfl rfl ?_
  refine Go.caload (pc' := 13) (i := 0) (v := (.int (own_ck bx 0))) X0 hx hby hZ e0 A0 d7_12 rfl (by decide) (by decide) (by decide) rfl ?_
  refine Go.istore (Ls' := #[.val (.ref ca), .val (.int (0 : Int32)), .val (.ref ba), .val (.int (0 : Int32)), .val (.int (3 : Int32)), .val (.int (0 : Int32)), .val (.int (own_ck bx 0))]) (pc' := 15) X0 hx hby d7_13 rfl rfl ?_
  refine Go.iload (pc' := 17) X0 hx hby d7_15 rfl rfl ?_
  refine Go.sipush (pc' := 20) X0 hx hby d7_17 rfl (v := (255 : Int32)) (by decide) ?_
  refine Go.icmpY (pc' := 26) X0 hx hby d7_20 (by decide) (by decide) (show (own_ck bx 0) ≤ (255 : Int32) from own_le7 (own_ckr bx 0)) ?_
  refine Go.aloadN (pc' := 27) X0 hx hby d7_26 rfl rfl rfl ?_
  refine Go.iloadN (pc' := 28) X0 hx hby d7_27 rfl rfl ?_
  refine Go.iload (pc' := 30) X0 hx hby d7_28 rfl rfl ?_
  refine Go.i2b (pc' := 31) X0 hx hby d7_30 rfl ?_
  refine Go.bastore (pc' := 32) (i := 0) X0 hx hby hZ e0 A1 d7_31 rfl (by decide) (by decide) (by decide) ?_
  intro T1 h2 X3 e4 W5 A6
  have f7 : Ar Z h2 ca .char 3 (fun q => .int (own_cf bx q)) := A0.other W5 nb
  have z8 : n0 ≤ h2.size := by rw [Wr.size W5]; exact Z0
  have f9 : Ar Z h2 ba .byte 3 (fun q => if q = 0 then (.int (nar .byte ((own_ck bx 0).toInt8.toInt32))) else .int 0) := A6
  have N10 : Fr n0 _ := Fr.snoc X3 (Fr.nil _) gb
  show Go p e below _ (T1.setTop (mkF m 32 #[.val (.ref ca), .val (.int (0 : Int32)), .val (.ref ba), .val (.int (0 : Int32)), .val (.int (3 : Int32)), .val (.int (0 : Int32)), .val (.int (own_ck bx 0))] []))
  refine Go.iinc (w := (0 : Int32) + (1 : Int32)) (Ls' := #[.val (.ref ca), .val (.int ((0 : Int32) + (1 : Int32))), .val (.ref ba), .val (.int (0 : Int32)), .val (.int (3 : Int32)), .val (.int (0 : Int32)), .val (.int (own_ck bx 0))]) (pc' := 35) X3 hx hby d7_32 rfl rfl rfl rfl ?_
  refine Go.iinc (w := (0 : Int32) + (1 : Int32)) (Ls' := #[.val (.ref ca), .val (.int ((0 : Int32) + (1 : Int32))), .val (.ref ba), .val (.int ((0 : Int32) + (1 : Int32))), .val (.int (3 : Int32)), .val (.int (0 : Int32)), .val (.int (own_ck bx 0))]) (pc' := 38) X3 hx hby d7_35 rfl rfl rfl rfl ?_
  refine Go.iinc (w := (0 : Int32) + (1 : Int32)) (Ls' := #[.val (.ref ca), .val (.int ((0 : Int32) + (1 : Int32))), .val (.ref ba), .val (.int ((0 : Int32) + (1 : Int32))), .val (.int (3 : Int32)), .val (.int ((0 : Int32) + (1 : Int32))), .val (.int (own_ck bx 0))]) (pc' := 41) X3 hx hby d7_38 rfl rfl rfl rfl ?_
  change Go p e below _ (T1.setTop (mkF m 41 #[.val (.ref ca), .val (.int (1 : Int32)), .val (.ref ba), .val (.int ((0 : Int32) + (1 : Int32))), .val (.int (3 : Int32)), .val (.int ((0 : Int32) + (1 : Int32))), .val (.int (own_ck bx 0))] []))
  change Go p e below _ (T1.setTop (mkF m 41 #[.val (.ref ca), .val (.int (1 : Int32)), .val (.ref ba), .val (.int (1 : Int32)), .val (.int (3 : Int32)), .val (.int ((0 : Int32) + (1 : Int32))), .val (.int (own_ck bx 0))] []))
  change Go p e below _ (T1.setTop (mkF m 41 #[.val (.ref ca), .val (.int (1 : Int32)), .val (.ref ba), .val (.int (1 : Int32)), .val (.int (3 : Int32)), .val (.int (1 : Int32)), .val (.int (own_ck bx 0))] []))
  refine Go.goto (pc' := 3) X3 hx hby d7_41 (by decide) (by decide) ?_
  refine Go.iload (pc' := 5) X3 hx hby d7_3 rfl rfl ?_
  refine Go.iload (pc' := 7) X3 hx hby d7_5 rfl rfl ?_
  refine Go.icmpN (pc' := 10) X3 hx hby d7_7 rfl (show ¬ ((3 : Int32) ≤ (1 : Int32)) from by decide) ?_
  refine Go.aloadN (pc' := 11) X3 hx hby d7_10 rfl rfl rfl ?_
  refine Go.iloadN (pc' := 12) X3 hx hby d7_11 rfl rfl ?_
  refine Go.caload (pc' := 13) (i := 1) (v := (.int (own_ck bx 1))) X3 hx hby hZ e4 f7 d7_12 rfl (by decide) (by decide) (by decide) rfl ?_
  refine Go.istore (Ls' := #[.val (.ref ca), .val (.int (1 : Int32)), .val (.ref ba), .val (.int (1 : Int32)), .val (.int (3 : Int32)), .val (.int (1 : Int32)), .val (.int (own_ck bx 1))]) (pc' := 15) X3 hx hby d7_13 rfl rfl ?_
  refine Go.iload (pc' := 17) X3 hx hby d7_15 rfl rfl ?_
  refine Go.sipush (pc' := 20) X3 hx hby d7_17 rfl (v := (255 : Int32)) (by decide) ?_
  refine Go.icmpY (pc' := 26) X3 hx hby d7_20 (by decide) (by decide) (show (own_ck bx 1) ≤ (255 : Int32) from own_le7 (own_ckr bx 1)) ?_
  refine Go.aloadN (pc' := 27) X3 hx hby d7_26 rfl rfl rfl ?_
  refine Go.iloadN (pc' := 28) X3 hx hby d7_27 rfl rfl ?_
  refine Go.iload (pc' := 30) X3 hx hby d7_28 rfl rfl ?_
  refine Go.i2b (pc' := 31) X3 hx hby d7_30 rfl ?_
  refine Go.bastore (pc' := 32) (i := 1) X3 hx hby hZ e4 f9 d7_31 rfl (by decide) (by decide) (by decide) ?_
  intro T11 h12 X13 e14 W15 A16
  have f17 : Ar Z h12 ca .char 3 (fun q => .int (own_cf bx q)) := f7.other W15 nb
  have z18 : n0 ≤ h12.size := by rw [Wr.size W15]; exact z8
  have f19 : Ar Z h12 ba .byte 3 (fun q => if q = 1 then (.int (nar .byte ((own_ck bx 1).toInt8.toInt32))) else if q = 0 then (.int (nar .byte ((own_ck bx 0).toInt8.toInt32))) else .int 0) := A16
  have N20 : Fr n0 _ := Fr.snoc X13 N10 gb
  show Go p e below _ (T11.setTop (mkF m 32 #[.val (.ref ca), .val (.int (1 : Int32)), .val (.ref ba), .val (.int (1 : Int32)), .val (.int (3 : Int32)), .val (.int (1 : Int32)), .val (.int (own_ck bx 1))] []))
  refine Go.iinc (w := (1 : Int32) + (1 : Int32)) (Ls' := #[.val (.ref ca), .val (.int ((1 : Int32) + (1 : Int32))), .val (.ref ba), .val (.int (1 : Int32)), .val (.int (3 : Int32)), .val (.int (1 : Int32)), .val (.int (own_ck bx 1))]) (pc' := 35) X13 hx hby d7_32 rfl rfl rfl rfl ?_
  refine Go.iinc (w := (1 : Int32) + (1 : Int32)) (Ls' := #[.val (.ref ca), .val (.int ((1 : Int32) + (1 : Int32))), .val (.ref ba), .val (.int ((1 : Int32) + (1 : Int32))), .val (.int (3 : Int32)), .val (.int (1 : Int32)), .val (.int (own_ck bx 1))]) (pc' := 38) X13 hx hby d7_35 rfl rfl rfl rfl ?_
  refine Go.iinc (w := (1 : Int32) + (1 : Int32)) (Ls' := #[.val (.ref ca), .val (.int ((1 : Int32) + (1 : Int32))), .val (.ref ba), .val (.int ((1 : Int32) + (1 : Int32))), .val (.int (3 : Int32)), .val (.int ((1 : Int32) + (1 : Int32))), .val (.int (own_ck bx 1))]) (pc' := 41) X13 hx hby d7_38 rfl rfl rfl rfl ?_
  change Go p e below _ (T11.setTop (mkF m 41 #[.val (.ref ca), .val (.int (2 : Int32)), .val (.ref ba), .val (.int ((1 : Int32) + (1 : Int32))), .val (.int (3 : Int32)), .val (.int ((1 : Int32) + (1 : Int32))), .val (.int (own_ck bx 1))] []))
  change Go p e below _ (T11.setTop (mkF m 41 #[.val (.ref ca), .val (.int (2 : Int32)), .val (.ref ba), .val (.int (2 : Int32)), .val (.int (3 : Int32)), .val (.int ((1 : Int32) + (1 : Int32))), .val (.int (own_ck bx 1))] []))
  change Go p e below _ (T11.setTop (mkF m 41 #[.val (.ref ca), .val (.int (2 : Int32)), .val (.ref ba), .val (.int (2 : Int32)), .val (.int (3 : Int32)), .val (.int (2 : Int32)), .val (.int (own_ck bx 1))] []))
  refine Go.goto (pc' := 3) X13 hx hby d7_41 (by decide) (by decide) ?_
  refine Go.iload (pc' := 5) X13 hx hby d7_3 rfl rfl ?_
  refine Go.iload (pc' := 7) X13 hx hby d7_5 rfl rfl ?_
  refine Go.icmpN (pc' := 10) X13 hx hby d7_7 rfl (show ¬ ((3 : Int32) ≤ (2 : Int32)) from by decide) ?_
  refine Go.aloadN (pc' := 11) X13 hx hby d7_10 rfl rfl rfl ?_
  refine Go.iloadN (pc' := 12) X13 hx hby d7_11 rfl rfl ?_
  refine Go.caload (pc' := 13) (i := 2) (v := (.int (own_ck bx 2))) X13 hx hby hZ e14 f17 d7_12 rfl (by decide) (by decide) (by decide) rfl ?_
  refine Go.istore (Ls' := #[.val (.ref ca), .val (.int (2 : Int32)), .val (.ref ba), .val (.int (2 : Int32)), .val (.int (3 : Int32)), .val (.int (2 : Int32)), .val (.int (own_ck bx 2))]) (pc' := 15) X13 hx hby d7_13 rfl rfl ?_
  refine Go.iload (pc' := 17) X13 hx hby d7_15 rfl rfl ?_
  refine Go.sipush (pc' := 20) X13 hx hby d7_17 rfl (v := (255 : Int32)) (by decide) ?_
  refine Go.icmpY (pc' := 26) X13 hx hby d7_20 (by decide) (by decide) (show (own_ck bx 2) ≤ (255 : Int32) from own_le7 (own_ckr bx 2)) ?_
  refine Go.aloadN (pc' := 27) X13 hx hby d7_26 rfl rfl rfl ?_
  refine Go.iloadN (pc' := 28) X13 hx hby d7_27 rfl rfl ?_
  refine Go.iload (pc' := 30) X13 hx hby d7_28 rfl rfl ?_
  refine Go.i2b (pc' := 31) X13 hx hby d7_30 rfl ?_
  refine Go.bastore (pc' := 32) (i := 2) X13 hx hby hZ e14 f19 d7_31 rfl (by decide) (by decide) (by decide) ?_
  intro T21 h22 X23 e24 W25 A26
  have f27 : Ar Z h22 ca .char 3 (fun q => .int (own_cf bx q)) := f17.other W25 nb
  have z28 : n0 ≤ h22.size := by rw [Wr.size W25]; exact z18
  have f29 : Ar Z h22 ba .byte 3 (fun q => if q = 2 then (.int (nar .byte ((own_ck bx 2).toInt8.toInt32))) else if q = 1 then (.int (nar .byte ((own_ck bx 1).toInt8.toInt32))) else if q = 0 then (.int (nar .byte ((own_ck bx 0).toInt8.toInt32))) else .int 0) := A26
  have N30 : Fr n0 _ := Fr.snoc X23 N20 gb
  show Go p e below _ (T21.setTop (mkF m 32 #[.val (.ref ca), .val (.int (2 : Int32)), .val (.ref ba), .val (.int (2 : Int32)), .val (.int (3 : Int32)), .val (.int (2 : Int32)), .val (.int (own_ck bx 2))] []))
  refine Go.iinc (w := (2 : Int32) + (1 : Int32)) (Ls' := #[.val (.ref ca), .val (.int ((2 : Int32) + (1 : Int32))), .val (.ref ba), .val (.int (2 : Int32)), .val (.int (3 : Int32)), .val (.int (2 : Int32)), .val (.int (own_ck bx 2))]) (pc' := 35) X23 hx hby d7_32 rfl rfl rfl rfl ?_
  refine Go.iinc (w := (2 : Int32) + (1 : Int32)) (Ls' := #[.val (.ref ca), .val (.int ((2 : Int32) + (1 : Int32))), .val (.ref ba), .val (.int ((2 : Int32) + (1 : Int32))), .val (.int (3 : Int32)), .val (.int (2 : Int32)), .val (.int (own_ck bx 2))]) (pc' := 38) X23 hx hby d7_35 rfl rfl rfl rfl ?_
  refine Go.iinc (w := (2 : Int32) + (1 : Int32)) (Ls' := #[.val (.ref ca), .val (.int ((2 : Int32) + (1 : Int32))), .val (.ref ba), .val (.int ((2 : Int32) + (1 : Int32))), .val (.int (3 : Int32)), .val (.int ((2 : Int32) + (1 : Int32))), .val (.int (own_ck bx 2))]) (pc' := 41) X23 hx hby d7_38 rfl rfl rfl rfl ?_
  change Go p e below _ (T21.setTop (mkF m 41 #[.val (.ref ca), .val (.int (3 : Int32)), .val (.ref ba), .val (.int ((2 : Int32) + (1 : Int32))), .val (.int (3 : Int32)), .val (.int ((2 : Int32) + (1 : Int32))), .val (.int (own_ck bx 2))] []))
  change Go p e below _ (T21.setTop (mkF m 41 #[.val (.ref ca), .val (.int (3 : Int32)), .val (.ref ba), .val (.int (3 : Int32)), .val (.int (3 : Int32)), .val (.int ((2 : Int32) + (1 : Int32))), .val (.int (own_ck bx 2))] []))
  change Go p e below _ (T21.setTop (mkF m 41 #[.val (.ref ca), .val (.int (3 : Int32)), .val (.ref ba), .val (.int (3 : Int32)), .val (.int (3 : Int32)), .val (.int (3 : Int32)), .val (.int (own_ck bx 2))] []))
  refine Go.goto (pc' := 3) X23 hx hby d7_41 (by decide) (by decide) ?_
  refine Go.iload (pc' := 5) X23 hx hby d7_3 rfl rfl ?_
  refine Go.iload (pc' := 7) X23 hx hby d7_5 rfl rfl ?_
  refine Go.icmpY (pc' := 44) X23 hx hby d7_7 (by decide) (by decide) (show (3 : Int32) ≤ (3 : Int32) from by decide) ?_
  refine Go.iload (pc' := 46) X23 hx hby d7_44 rfl rfl ?_
  have f31 : Ar Z h22 ba .byte 3 (fun q => .int (own_cf bx q)) := f29.congr (fun i h1 h2 => by have t : i = 0 ∨ i = 1 ∨ i = 2 := (by omega); rcases t with rfl | rfl | rfl <;> simp [own_cf, own_b7 (own_ckr bx _), own_n7 (own_ckr bx _)])
  exact Go.retI X23 hx hby hlk hret d7_46 (by decide) (by decide) ⟨rfl, N30, by rw [e24]; exact ((((Keep.refl h0 _).wr W5 (Or.inl (List.mem_singleton.mpr rfl))).wr W15 (Or.inl (List.mem_singleton.mpr rfl))).wr W25 (Or.inl (List.mem_singleton.mpr rfl))), by rw [e24]; exact f31⟩
set_option maxRecDepth 65536 in
set_option maxHeartbeats 40000000 in
theorem rmC3_3 (l : Launch) (Z : State) (a0 : Array Value) (hw : ∀ d ∈ tables_1, d.before a0 Z = true) (ca : Addr) (x1 : Int32) (x2 : Int32) (h0 : Heap) (n0 : Nat) (bx : Int32) (Z0 : n0 ≤ h0.size) (h1 : x1 = 0) (h2 : x2 = 3) (A0 : Ar Z h0 ca .char 3 (fun q => .int (own_cf bx q))) :
    Con l Z (⟨"java/lang/StringUTF16", "compress", "([CII)[B"⟩ : MethodName) jdk_52_method_16_code 6 (some (.array .byte)) [] ({ frames := 1, cells := 1, slots := 3, locals := 18 } : Room) #[(.ref ca), (.int x1), (.int x2)] h0 (fun v h L => ∃ b, v = some (.ref b) ∧ h0.size ≤ b ∧ Fr n0 L ∧ Keep h0 h [] ∧ Ar Z h b .byte 3 (fun q => .int (own_cf bx q))) := by
  refine Con.of (plainFor_of_name pn_StringUTF16) ?_
  intro p e s m below meth c s₁ hx hby hml hown hnm hret hlk hZ X0 e0
  refine Go.cast (ef_6 m ca x1 x2) ?_
  replace hown : s.vm.findClass "java/lang/StringUTF16" = some m.cls := hown
  subst h1 h2
  show Go p e below _ (s₁.setTop (mkF m 0 #[.val (.ref ca), .val (.int (0 : Int32)), .val (.int (3 : Int32)), .unset, .unset, .unset] []))
  refine Go.iloadN (pc' := 1) X0 hx hby d6_0 rfl rfl ?_
  refine Go.newarr (pc' := 3) (cap := 3) (z := 3) X0 hx hby hZ (hw _ (List.mem_of_getElem? (i := 26) rfl)) e0 d6_1 rfl (by decide) (by decide) (by decide) (by decide) (by decide) (by decide) ?_
  intro b1 T2 h3 g4 X5 e6 E7 A8
  have n9 : ca ≠ b1 := Nat.ne_of_lt (by rw [g4]; exact A0.lt)
  have g10 : n0 ≤ b1 := by rw [g4]; exact Z0
  have f11 : Ar Z h3 ca .char 3 (fun q => .int (own_cf bx q)) := A0.ext E7
  have z12 : n0 ≤ h3.size := Nat.le_trans Z0 E7.1
  have f13 : Ar Z h3 b1 .byte 3 (fun _ => (.int 0)) := A8
  show Go p e below _ (T2.setTop (mkF m 3 #[.val (.ref ca), .val (.int (0 : Int32)), .val (.int (3 : Int32)), .unset, .unset, .unset] [(.ref b1)]))
  have K0 : Keep h0 h3 [] := (Keep.refl h0 _).ext E7
  have gf : h0.size ≤ b1 := by rw [g4]; exact Nat.le_refl _
  refine Go.astoreN (Ls' := #[.val (.ref ca), .val (.int (0 : Int32)), .val (.int (3 : Int32)), .val (.ref b1), .unset, .unset]) (pc' := 4) X5 hx hby d6_3 rfl rfl rfl ?_
  refine Go.aloadN (pc' := 5) X5 hx hby d6_4 rfl rfl rfl ?_
  refine Go.iloadN (pc' := 6) X5 hx hby d6_5 rfl rfl ?_
  refine Go.aloadN (pc' := 7) X5 hx hby d6_6 rfl rfl rfl ?_
  refine Go.iconst (pc' := 8) X5 hx hby d6_7 rfl (v := (0 : Int32)) (by decide) ?_
  refine Go.iloadN (pc' := 9) X5 hx hby d6_8 rfl rfl ?_
  refine Go.callS (pc' := 12) (W := 0) (argsL := [(.ref ca), (.int (0 : Int32)), (.ref b1), (.int (0 : Int32)), (.int (3 : Int32))]) (rest := []) X5 hx hby hZ hown (hw _ (List.mem_of_getElem? (i := 27) rfl)) (hw _ (List.mem_of_getElem? (i := 28) rfl)) (hw _ (List.mem_of_getElem? (i := 24) rfl)) (hw _ (List.mem_of_getElem? (i := 29) rfl)) (by decide) (rmC5_3 l Z a0 hw ca 0 b1 0 3 h3 n0 bx z12 g10 rfl rfl rfl f11 f13) e6 (by decide) (by decide) (by rw [hml]; rfl) pd_24 rfl rfl rfl (Nat.le_of_eq rfl) d6_9 rfl (by decide) (by decide) ?_
  rintro r14 T15 L16 X17 ⟨rfl, N1_, K1_, A1⟩
  have K2 := K0.trans K1_ (allS (Or.inr gf) all0)
  show Go p e below _ (T15.setTop (mkF m 12 #[.val (.ref ca), .val (.int (0 : Int32)), .val (.int (3 : Int32)), .val (.ref b1), .unset, .unset] [(.int (3 : Int32))]))
  refine Go.istore (Ls' := #[.val (.ref ca), .val (.int (0 : Int32)), .val (.int (3 : Int32)), .val (.ref b1), .val (.int (3 : Int32)), .unset]) (pc' := 14) X17 hx hby d6_12 rfl rfl ?_
  refine Go.iload (pc' := 16) X17 hx hby d6_14 rfl rfl ?_
  refine Go.iloadN (pc' := 17) X17 hx hby d6_16 rfl rfl ?_
  refine Go.icmpY (pc' := 57) X17 hx hby d6_17 (by decide) (by decide) (show (3 : Int32) = (3 : Int32) from by decide) ?_
  refine Go.aloadN (pc' := 58) X17 hx hby d6_57 rfl rfl rfl ?_
  exact Go.retA X17 hx hby hlk hret rfl rfl rfl d6_58 (by decide) (by decide) ⟨b1, rfl, gf, (Fr.app (Fr.nil _) N1_), K2, A1⟩
set_option maxRecDepth 65536 in
set_option maxHeartbeats 40000000 in
theorem rmCF3 (l : Launch) (Z : State) (a0 : Array Value) (hw : ∀ d ∈ tables_1, d.before a0 Z = true) (a : Addr) (x1 : Int32) (h0 : Heap) (f0 : Int → Value) (h1 : x1 = 3) (A0 : Ar Z h0 a .byte 3 f0) :
    Con l Z (⟨"java/lang/StringUTF16", "coderFromArrayLen", "([BI)B"⟩ : MethodName) jdk_52_method_15_code 2 (some .byte) [] ({ frames := 0, cells := 0, slots := 0, locals := 0 } : Room) #[(.ref a), (.int x1)] h0 (PQ (some (.int 0)) h0) := by
  refine Con.of (plainFor_of_name pn_StringUTF16) ?_
  intro p e s m below meth c s₁ hx hby hml hown hnm hret hlk hZ X0 e0
  refine Go.cast (ef_8 m a x1) ?_
  replace hown : s.vm.findClass "java/lang/StringUTF16" = some m.cls := hown
  subst h1
  show Go p e below _ (s₁.setTop (mkF m 0 #[.val (.ref a), .val (.int (3 : Int32))] []))
  refine Go.iloadN (pc' := 1) X0 hx hby d8_0 rfl rfl ?_
  refine Go.aloadN (pc' := 2) X0 hx hby d8_1 rfl rfl rfl ?_
  refine Go.alen (pc' := 3) (zv := (3 : Int32)) X0 hx hby hZ e0 A0 d8_2 rfl (by decide) ?_
  refine Go.isub (pc' := 4) X0 hx hby d8_3 rfl ?_
  refine Go.bipush (pc' := 6) X0 hx hby d8_4 rfl (v := (31 : Int32)) (by decide) ?_
  refine Go.iushr (pc' := 7) X0 hx hby d8_6 rfl ?_
  refine Go.i2b (pc' := 8) X0 hx hby d8_7 rfl ?_
  exact Go.retZ X0 hx hby hlk hret (by simp) d8_8 (by decide) (by decide) ⟨by rw [show nar .byte (((((3 : Int32) - (3 : Int32)).toUInt32 >>> ((31 : Int32) &&& 31).toUInt32).toInt32).toInt8.toInt32) = 0 from by decide], rfl, e0⟩
set_option maxRecDepth 65536 in
set_option maxHeartbeats 40000000 in
theorem rmI4_3 (l : Launch) (Z : State) (a0 : Array Value) (hw : ∀ d ∈ tables_1, d.before a0 Z = true) (a : Addr) (ca : Addr) (x2 : Int32) (x3 : Int32) (h0 : Heap) (n0 : Nat) (kk : Int32) (sf : Value) (bx : Int32) (O0 : Old Z n0 h0) (SS : own_S Z kk sf) (Z0 : n0 ≤ h0.size) (ga : n0 ≤ a) (h2 : x2 = 0) (h3 : x3 = 3) (E0 : Exa Z h0 a "java/lang/String") (F1 : Fld Z h0 a "java/lang/String" "value" "[B" .null) (F2 : Fld Z h0 a "java/lang/String" "coder" "B" (.int 0)) (A0 : Ar Z h0 ca .char 3 (fun q => .int (own_cf bx q))) :
    Con l Z (⟨"java/lang/String", "<init>", "([CIILjava/lang/Void;)V"⟩ : MethodName) jdk_42_method_149_code 6 none [] ({ frames := 2, cells := 1, slots := 3, locals := 35 } : Room) #[(.ref a), (.ref ca), (.int x2), (.int x3), .null] h0 (fun v h L => ∃ b, v = none ∧ Fr n0 L ∧ Keep h0 h [a] ∧ own_sx Z h a b 3 (own_cf bx)) := by
  refine Con.of (plainFor_of_name pn_String) ?_
  intro p e s m below meth c s₁ hx hby hml hown hnm hret hlk hZ X0 e0
  refine Go.cast (ef_4 m a ca x2 x3) ?_
  replace hown : s.vm.findClass "java/lang/String" = some m.cls := hown
  subst h2 h3
  show Go p e below _ (s₁.setTop (mkF m 0 #[.val (.ref a), .val (.ref ca), .val (.int (0 : Int32)), .val (.int (3 : Int32)), .val .null, .unset] []))
  have S0_ : Sta Z h0 "java/lang/String" "COMPACT_STRINGS" "Z" (.int kk) := Sta.ext O0.2 SS.2.1
  refine Go.aloadN (pc' := 1) X0 hx hby d4_0 rfl rfl rfl ?_
  refine Go.initO (pc' := 4) (W := 0) X0 hx hby hZ hown (hw _ (List.mem_of_getElem? (i := 18) rfl)) (hw _ (List.mem_of_getElem? (i := 19) rfl)) (hw _ (List.mem_of_getElem? (i := 20) rfl)) e0 (by rw [hml]; rfl) d4_1 rfl (by decide) (Nat.le_of_eq rfl) (by decide) ?_
  intro T1 X2 e3
  refine Go.iloadN (pc' := 5) X2 hx hby d4_4 rfl rfl ?_
  refine Go.ifY (pc' := 27) X2 hx hby d4_5 (by decide) (by decide) (show (3 : Int32) ≠ 0 from by decide) ?_
  refine Go.getSt (pc' := 30) X2 hx hby hZ hown (hw _ (List.mem_of_getElem? (i := 21) rfl)) Via.refl e3 S0_ d4_27 rfl ?_
  intro T4 X5 e6
  refine Go.ifN (pc' := 33) X5 hx hby d4_30 rfl (show ¬ (kk = 0) from SS.1) ?_
  refine Go.aloadN (pc' := 34) X5 hx hby d4_33 rfl rfl rfl ?_
  refine Go.iloadN (pc' := 35) X5 hx hby d4_34 rfl rfl ?_
  refine Go.iloadN (pc' := 36) X5 hx hby d4_35 rfl rfl ?_
  refine Go.callS (pc' := 39) (W := 0) (argsL := [(.ref ca), (.int (0 : Int32)), (.int (3 : Int32))]) (rest := []) X5 hx hby hZ hown (hw _ (List.mem_of_getElem? (i := 22) rfl)) (hw _ (List.mem_of_getElem? (i := 23) rfl)) (hw _ (List.mem_of_getElem? (i := 24) rfl)) (hw _ (List.mem_of_getElem? (i := 25) rfl)) (by decide) (rmC3_3 l Z a0 hw ca 0 3 h0 n0 bx Z0 rfl rfl A0) e6 (by decide) (by decide) (by rw [hml]; rfl) pd_22 rfl rfl rfl (Nat.le_of_eq rfl) d4_36 rfl (by decide) (by decide) ?_
  rintro r7 T8 L9 X10 ⟨b, rfl, gf, N1_, K1, A1⟩
  have nb : a ≠ b := Nat.ne_of_lt (Nat.lt_of_lt_of_le E0.lt gf)
  have f11 : Old Z n0 T8.heap := O0.keep K1 all0
  have f12 : Exa Z T8.heap a "java/lang/String" := E0.keep K1
  have f13 : Fld Z T8.heap a "java/lang/String" "value" "[B" .null := F1.keep K1 nin0
  have f14 : Fld Z T8.heap a "java/lang/String" "coder" "B" (.int 0) := F2.keep K1 nin0
  have z15 : n0 ≤ T8.heap.size := Nat.le_trans Z0 K1.1
  show Go p e below _ (T8.setTop (mkF m 39 #[.val (.ref a), .val (.ref ca), .val (.int (0 : Int32)), .val (.int (3 : Int32)), .val .null, .unset] [(.ref b)]))
  refine Go.astore (Ls' := #[.val (.ref a), .val (.ref ca), .val (.int (0 : Int32)), .val (.int (3 : Int32)), .val .null, .val (.ref b)]) (pc' := 41) X10 hx hby d4_39 rfl rfl rfl ?_
  refine Go.aloadN (pc' := 42) X10 hx hby d4_41 rfl rfl rfl ?_
  refine Go.aload (pc' := 44) X10 hx hby d4_42 rfl rfl rfl ?_
  refine Go.iloadN (pc' := 45) X10 hx hby d4_44 rfl rfl ?_
  refine Go.callS (pc' := 48) (W := 1) (argsL := [(.ref b), (.int (3 : Int32))]) (rest := [(.ref a)]) X10 hx hby hZ hown (hw _ (List.mem_of_getElem? (i := 30) rfl)) (hw _ (List.mem_of_getElem? (i := 31) rfl)) (hw _ (List.mem_of_getElem? (i := 24) rfl)) (hw _ (List.mem_of_getElem? (i := 32) rfl)) (by decide) (rmCF3 l Z a0 hw b 3 T8.heap _ rfl A1) rfl (by decide) (by decide) (by rw [hml]; rfl) pd_17 rfl rfl rfl (Nat.le_of_eq rfl) d4_45 rfl (by decide) (by decide) ?_
  rintro r17 T18 L19 X20 ⟨rfl, rfl, e16⟩
  rw [List.append_nil] at X20
  show Go p e below _ (T18.setTop (mkF m 48 #[.val (.ref a), .val (.ref ca), .val (.int (0 : Int32)), .val (.int (3 : Int32)), .val .null, .val (.ref b)] [(.int (0 : Int32)), (.ref a)]))
  refine Go.putF (pc' := 51) (ty := .byte) X20 hx hby hZ hown (hw _ (List.mem_of_getElem? (i := 33) rfl)) Via.refl e16 f14 f12 (Or.inr ⟨(hw _ (List.mem_of_getElem? (i := 34) rfl)), rfl, hnm⟩) (hw _ (List.mem_of_getElem? (i := 5) rfl)) (by decide) rfl rfl d4_48 rfl ?_
  intro T21 h22 X23 e24 W25
  have f26 : Old Z n0 h22 := f11.wr W25 ga
  have f27 : Exa Z h22 a "java/lang/String" := Exa.wr W25 f12
  have f28 : Fld Z h22 a "java/lang/String" "value" "[B" .null := Fld.other W25 f13 (Or.inr (slot_ne (t := (.array .byte)) (t' := .byte) (Or.inr (hw _ (List.mem_of_getElem? (i := 36) rfl))) (Or.inr (hw _ (List.mem_of_getElem? (i := 34) rfl))) (by decide) (by decide) (by decide)))
  have f29 : Ar Z h22 b .byte 3 (fun q => .int (own_cf bx q)) := A1.other W25 (Ne.symm nb)
  have z30 : n0 ≤ h22.size := by rw [Wr.size W25]; exact z15
  have f31 : Fld Z h22 a "java/lang/String" "coder" "B" (.int (0 : Int32)) := Fld.same W25 f14
  have N32 : Fr n0 _ := Fr.snoc X23 (Fr.app (Fr.nil _) N1_) ga
  show Go p e below _ (T21.setTop (mkF m 51 #[.val (.ref a), .val (.ref ca), .val (.int (0 : Int32)), .val (.int (3 : Int32)), .val .null, .val (.ref b)] []))
  refine Go.aloadN (pc' := 52) X23 hx hby d4_51 rfl rfl rfl ?_
  refine Go.aload (pc' := 54) X23 hx hby d4_52 rfl rfl rfl ?_
  refine Go.putF (pc' := 57) (ty := (.array .byte)) X23 hx hby hZ hown (hw _ (List.mem_of_getElem? (i := 35) rfl)) Via.refl e24 f28 f27 (Or.inr ⟨(hw _ (List.mem_of_getElem? (i := 36) rfl)), rfl, hnm⟩) (hw _ (List.mem_of_getElem? (i := 5) rfl)) (by decide) rfl rfl d4_54 rfl ?_
  intro T33 h34 X35 e36 W37
  have f38 : Old Z n0 h34 := f26.wr W37 ga
  have f39 : Exa Z h34 a "java/lang/String" := Exa.wr W37 f27
  have f40 : Fld Z h34 a "java/lang/String" "coder" "B" (.int (0 : Int32)) := Fld.other W37 f31 (Or.inr (slot_ne (t := .byte) (t' := (.array .byte)) (Or.inr (hw _ (List.mem_of_getElem? (i := 34) rfl))) (Or.inr (hw _ (List.mem_of_getElem? (i := 36) rfl))) (by decide) (by decide) (by decide)))
  have f41 : Ar Z h34 b .byte 3 (fun q => .int (own_cf bx q)) := f29.other W37 (Ne.symm nb)
  have z42 : n0 ≤ h34.size := by rw [Wr.size W37]; exact z30
  have f43 : Fld Z h34 a "java/lang/String" "value" "[B" (.ref b) := Fld.same W37 f28
  have N44 : Fr n0 _ := Fr.snoc X35 N32 ga
  show Go p e below _ (T33.setTop (mkF m 57 #[.val (.ref a), .val (.ref ca), .val (.int (0 : Int32)), .val (.int (3 : Int32)), .val .null, .val (.ref b)] []))
  exact Go.ret0 X35 hx hby hlk hret d4_57 (by decide) (by decide) ⟨b, rfl, N44, by rw [e36]; exact (((Keep.refl h0 [a]).trans K1 all0).wr W25 (Or.inl (List.mem_singleton.mpr rfl))).wr W37 (Or.inl (List.mem_singleton.mpr rfl)), by rw [e36]; exact ⟨f39, f43, f40, f41⟩⟩
set_option maxRecDepth 65536 in
set_option maxHeartbeats 40000000 in
theorem rmI1_3 (l : Launch) (Z : State) (a0 : Array Value) (hw : ∀ d ∈ tables_1, d.before a0 Z = true) (a : Addr) (ca : Addr) (h0 : Heap) (n0 : Nat) (kk : Int32) (sf : Value) (bx : Int32) (O0 : Old Z n0 h0) (SS : own_S Z kk sf) (Z0 : n0 ≤ h0.size) (ga : n0 ≤ a) (E0 : Exa Z h0 a "java/lang/String") (F1 : Fld Z h0 a "java/lang/String" "value" "[B" .null) (F2 : Fld Z h0 a "java/lang/String" "coder" "B" (.int 0)) (A0 : Ar Z h0 ca .char 3 (fun q => .int (own_cf bx q))) :
    Con l Z (⟨"java/lang/String", "<init>", "([C)V"⟩ : MethodName) jdk_42_method_3_code 2 none [] ({ frames := 3, cells := 1, slots := 3, locals := 52 } : Room) #[(.ref a), (.ref ca)] h0 (fun v h L => ∃ b, v = none ∧ Fr n0 L ∧ Keep h0 h [a] ∧ own_sx Z h a b 3 (own_cf bx)) := by
  refine Con.of (plainFor_of_name pn_String) ?_
  intro p e s m below meth c s₁ hx hby hml hown hnm hret hlk hZ X0 e0
  refine Go.cast (ef_3 m a ca) ?_
  replace hown : s.vm.findClass "java/lang/String" = some m.cls := hown
  refine Go.aloadN (pc' := 1) X0 hx hby d3_0 rfl rfl rfl ?_
  refine Go.aloadN (pc' := 2) X0 hx hby d3_1 rfl rfl rfl ?_
  refine Go.iconst (pc' := 3) X0 hx hby d3_2 rfl (v := (0 : Int32)) (by decide) ?_
  refine Go.aloadN (pc' := 4) X0 hx hby d3_3 rfl rfl rfl ?_
  refine Go.alen (pc' := 5) (zv := (3 : Int32)) X0 hx hby hZ e0 A0 d3_4 rfl (by decide) ?_
  refine Go.aconstNull (pc' := 6) X0 hx hby d3_5 rfl ?_
  refine Go.callI (pc' := 9) (a := a) (W := 0) (argsL := [(.ref ca), (.int (0 : Int32)), (.int (3 : Int32)), .null]) (rest := []) X0 hx hby rfl hZ hown (hw _ (List.mem_of_getElem? (i := 14) rfl)) (hw _ (List.mem_of_getElem? (i := 15) rfl)) (hw _ (List.mem_of_getElem? (i := 6) rfl)) (hw _ (List.mem_of_getElem? (i := 17) rfl)) (by decide) (rmI4_3 l Z a0 hw a ca 0 3 h0 n0 kk sf bx O0 SS Z0 ga rfl rfl E0 F1 F2 A0) e0 (by decide) (by decide) (by rw [hml]; rfl) pd_23 rfl rfl rfl (Nat.le_of_eq rfl) d3_6 rfl (by decide) (by decide) ?_
  rintro r1 T2 L3 X4 ⟨b, rfl, N1, K1, S1⟩
  show Go p e below _ (T2.setTop (mkF m 9 #[.val (.ref a), .val (.ref ca)] []))
  exact Go.ret0 X4 hx hby hlk hret d3_9 (by decide) (by decide) ⟨b, rfl, (Fr.app (Fr.nil _) N1), K1, S1⟩
set_option maxRecDepth 65536 in
set_option maxHeartbeats 40000000 in
theorem rmI4_0 (l : Launch) (Z : State) (a0 : Array Value) (hw : ∀ d ∈ tables_1, d.before a0 Z = true) (a : Addr) (ca : Addr) (x2 : Int32) (x3 : Int32) (h0 : Heap) (n0 : Nat) (bx : Int32) (Z0 : n0 ≤ h0.size) (ga : n0 ≤ a) (h2 : x2 = 0) (h3 : x3 = 0) (E0 : Exa Z h0 a "java/lang/String") (F1 : Fld Z h0 a "java/lang/String" "value" "[B" .null) (F2 : Fld Z h0 a "java/lang/String" "coder" "B" (.int 0)) :
    ConR l Z own_EL [a] (⟨"java/lang/String", "<init>", "([CIILjava/lang/Void;)V"⟩ : MethodName) jdk_42_method_149_code 6 none [] ({ frames := 1, cells := 2, slots := 4, locals := 12 } : Room) #[(.ref a), (.ref ca), (.int x2), (.int x3), .null] h0 (fun v h L => ∃ b, v = none ∧ Fr n0 L ∧ Keep h0 h [a] ∧ own_sx Z h a b 0 (own_cf bx)) := by
  refine ConR.of (plainFor_of_name pn_String) ?_
  intro p e s m below meth c s₁ hx hby hml hown hnm hret hlk hZ hS hC hsl X0 e0
  refine Go.cast (ef_4 m a ca x2 x3) ?_
  replace hown : (s.setVm s.vm).vm.findClass "java/lang/String" = some m.cls := hown
  subst h2 h3
  show Go p e below _ (s₁.setTop (mkF m 0 #[.val (.ref a), .val (.ref ca), .val (.int (0 : Int32)), .val (.int (0 : Int32)), .val .null, .unset] []))
  refine Go.aloadN (pc' := 1) X0 hx hby d4_0 rfl rfl rfl ?_
  refine Go.initO (pc' := 4) (W := 0) X0 hx hby hZ hown (hw _ (List.mem_of_getElem? (i := 18) rfl)) (hw _ (List.mem_of_getElem? (i := 19) rfl)) (hw _ (List.mem_of_getElem? (i := 20) rfl)) e0 (by rw [hml]; rfl) d4_1 rfl (by decide) (Nat.le_of_eq rfl) (by decide) ?_
  intro T1 X2 e3
  refine Go.iloadN (pc' := 5) X2 hx hby d4_4 rfl rfl ?_
  refine Go.ifN (pc' := 8) X2 hx hby d4_5 rfl (show ¬ ((0 : Int32) ≠ 0) from fun q => q rfl) ?_
  refine Go.aloadN (pc' := 9) X2 hx hby d4_8 rfl rfl rfl ?_
  refine Go.ldcR2 (pc' := 11) (n := 0) (z := 0) (vs := []) (EL := own_EL) X2 hx hby hZ hown (hw _ (List.mem_of_getElem? (i := 37) rfl)) (own_strs hw) e3 hS (Nat.zero_le _) (own_ew hw) (by simp [own_EL]) hC ⟨by decide, rfl⟩ (by decide) (by decide) d4_9 rfl (by decide) (by decide) (by decide) (by decide) ?_
  intro sa T9 h9 k9 b kc X9 e9 E9 S9 hk9 hZ9 ho9 Es Cs Vs As CH9 LI9 sf9
  have sf1 := CH9.safe E0.lt (hsl a (List.mem_singleton.mpr rfl))
  have ns := (sf9 a sf1).1
  have nb := (sf9 a sf1).2
  have f4 : Exa Z h9 a "java/lang/String" := Exa.ext E9 E0
  have f5 : Fld Z h9 a "java/lang/String" "value" "[B" .null := Fld.ext E9 F1
  have f6 : Fld Z h9 a "java/lang/String" "coder" "B" (.int 0) := Fld.ext E9 F2
  have z7 : n0 ≤ h9.size := Nat.le_trans Z0 E9.1
  have Ab : Ar Z h9 b .byte 0 (fun q => .int (own_cf bx q)) := (own_arv As).congr (fun i h1 h2 => absurd h1 (Int.not_le.mpr (show i < 0 from h2)))
  show Go p e below _ (T9.setTop (mkF m 11 #[.val (.ref a), .val (.ref ca), .val (.int (0 : Int32)), .val (.int (0 : Int32)), .val .null, .unset] [(.ref sa), (.ref a)]))
  refine Go.getF (pc' := 14) X9 hx hby hZ9 ho9 (hw _ (List.mem_of_getElem? (i := 35) rfl)) Via.refl e9 Vs d4_11 rfl ?_
  intro T8 X9 e10
  refine Go.putF (pc' := 17) (ty := (.array .byte)) X9 hx hby hZ9 ho9 (hw _ (List.mem_of_getElem? (i := 35) rfl)) Via.refl e10 f5 f4 (Or.inr ⟨(hw _ (List.mem_of_getElem? (i := 36) rfl)), rfl, hnm⟩) (hw _ (List.mem_of_getElem? (i := 5) rfl)) (by decide) rfl rfl d4_14 rfl ?_
  intro T11 h12 X13 e14 W15
  have f16 : Exa Z h12 a "java/lang/String" := Exa.wr W15 f4
  have f17 : Fld Z h12 a "java/lang/String" "coder" "B" (.int 0) := Fld.other W15 f6 (Or.inr (slot_ne (t := .byte) (t' := (.array .byte)) (Or.inr (hw _ (List.mem_of_getElem? (i := 34) rfl))) (Or.inr (hw _ (List.mem_of_getElem? (i := 36) rfl))) (by decide) (by decide) (by decide)))
  have f18 : Fld Z h12 sa "java/lang/String" "coder" "B" (.int 0) := Fld.other W15 Cs (Or.inl (Ne.symm ns))
  have f19 : Fld Z h12 sa "java/lang/String" "value" "[B" (.ref b) := Fld.other W15 Vs (Or.inl (Ne.symm ns))
  have f20 : Ar Z h12 b .byte 0 (fun q => .int (own_cf bx q)) := Ab.other W15 (Ne.symm nb)
  have z21 : n0 ≤ h12.size := by rw [Wr.size W15]; exact z7
  have hk22 : k9 ≤ h12.size := by rw [Wr.size W15]; exact hk9
  have f23 : Fld Z h12 a "java/lang/String" "value" "[B" (.ref b) := Fld.same W15 f5
  have N24 : Fr n0 _ := Fr.snoc X13 (Fr.nil _) ga
  show Go p e below _ (T11.setTop (mkF m 17 #[.val (.ref a), .val (.ref ca), .val (.int (0 : Int32)), .val (.int (0 : Int32)), .val .null, .unset] []))
  refine Go.aloadN (pc' := 18) X13 hx hby d4_17 rfl rfl rfl ?_
  have R1 := CH9.trans (CHr.wr W15 sf1 CH9.1)
  have sf2 := Safe.wr W15 sf1 CH9.1 sf1
  refine Go.ldcA (pc' := 20) X13 hx hby hZ9 ho9 (hw _ (List.mem_of_getElem? (i := 37) rfl)) LI9 d4_18 rfl ?_
  show Go p e below _ (T11.setTop (mkF m 20 #[.val (.ref a), .val (.ref ca), .val (.int (0 : Int32)), .val (.int (0 : Int32)), .val .null, .unset] [(.ref sa), (.ref a)]))
  refine Go.getF (pc' := 23) X13 hx hby hZ9 ho9 (hw _ (List.mem_of_getElem? (i := 33) rfl)) Via.refl e14 f18 d4_20 rfl ?_
  intro T25 X26 e27
  refine Go.putF (pc' := 26) (ty := .byte) X26 hx hby hZ9 ho9 (hw _ (List.mem_of_getElem? (i := 33) rfl)) Via.refl e27 f17 f16 (Or.inr ⟨(hw _ (List.mem_of_getElem? (i := 34) rfl)), rfl, hnm⟩) (hw _ (List.mem_of_getElem? (i := 5) rfl)) (by decide) rfl rfl d4_23 rfl ?_
  intro T28 h29 X30 e31 W32
  have f33 : Exa Z h29 a "java/lang/String" := Exa.wr W32 f16
  have f34 : Fld Z h29 a "java/lang/String" "value" "[B" (.ref b) := Fld.other W32 f23 (Or.inr (slot_ne (t := (.array .byte)) (t' := .byte) (Or.inr (hw _ (List.mem_of_getElem? (i := 36) rfl))) (Or.inr (hw _ (List.mem_of_getElem? (i := 34) rfl))) (by decide) (by decide) (by decide)))
  have f35 : Fld Z h29 sa "java/lang/String" "coder" "B" (.int 0) := Fld.other W32 f18 (Or.inl (Ne.symm ns))
  have f36 : Fld Z h29 sa "java/lang/String" "value" "[B" (.ref b) := Fld.other W32 f19 (Or.inl (Ne.symm ns))
  have f37 : Ar Z h29 b .byte 0 (fun q => .int (own_cf bx q)) := f20.other W32 (Ne.symm nb)
  have z38 : n0 ≤ h29.size := by rw [Wr.size W32]; exact z21
  have hk39 : k9 ≤ h29.size := by rw [Wr.size W32]; exact hk22
  have f40 : Fld Z h29 a "java/lang/String" "coder" "B" (.int (0 : Int32)) := Fld.same W32 f17
  have N41 : Fr n0 _ := Fr.snoc X30 N24 ga
  show Go p e below _ (T28.setTop (mkF m 26 #[.val (.ref a), .val (.ref ca), .val (.int (0 : Int32)), .val (.int (0 : Int32)), .val .null, .unset] []))
  have R2 := R1.trans (CHr.wr W32 sf2 R1.1)
  exact Go.ret0R X30 hx hby hlk hret d4_26 (by decide) (by decide) S9 (by rw [e31]; exact hk39) hZ9 (own_ew hw) (by rw [e31]; exact R2) ⟨b, rfl, N41, by rw [e31]; exact (((Keep.refl h0 _).ext E9).wr W15 (Or.inl (List.mem_singleton.mpr rfl))).wr W32 (Or.inl (List.mem_singleton.mpr rfl)), by rw [e31]; exact ⟨f33, f34, f40, f37⟩⟩
set_option maxRecDepth 65536 in
set_option maxHeartbeats 40000000 in
theorem rmI1_0 (l : Launch) (Z : State) (a0 : Array Value) (hw : ∀ d ∈ tables_1, d.before a0 Z = true) (a : Addr) (ca : Addr) (h0 : Heap) (n0 : Nat) (bx : Int32) (f0 : Int → Value) (Z0 : n0 ≤ h0.size) (ga : n0 ≤ a) (E0 : Exa Z h0 a "java/lang/String") (F1 : Fld Z h0 a "java/lang/String" "value" "[B" .null) (F2 : Fld Z h0 a "java/lang/String" "coder" "B" (.int 0)) (A0 : Ar Z h0 ca .char 0 f0) :
    ConR l Z own_EL [a] (⟨"java/lang/String", "<init>", "([C)V"⟩ : MethodName) jdk_42_method_3_code 2 none [] ({ frames := 2, cells := 2, slots := 4, locals := 29 } : Room) #[(.ref a), (.ref ca)] h0 (fun v h L => ∃ b, v = none ∧ Fr n0 L ∧ Keep h0 h [a] ∧ own_sx Z h a b 0 (own_cf bx)) := by
  refine ConR.of (plainFor_of_name pn_String) ?_
  intro p e s m below meth c s₁ hx hby hml hown hnm hret hlk hZ hS hC hsl X0 e0
  refine Go.cast (ef_3 m a ca) ?_
  replace hown : (s.setVm s.vm).vm.findClass "java/lang/String" = some m.cls := hown
  refine Go.aloadN (pc' := 1) X0 hx hby d3_0 rfl rfl rfl ?_
  refine Go.aloadN (pc' := 2) X0 hx hby d3_1 rfl rfl rfl ?_
  refine Go.iconst (pc' := 3) X0 hx hby d3_2 rfl (v := (0 : Int32)) (by decide) ?_
  refine Go.aloadN (pc' := 4) X0 hx hby d3_3 rfl rfl rfl ?_
  refine Go.alen (pc' := 5) (zv := (0 : Int32)) X0 hx hby hZ e0 A0 d3_4 rfl (by decide) ?_
  refine Go.aconstNull (pc' := 6) X0 hx hby d3_5 rfl ?_
  refine Go.callIR (pc' := 9) (a := a) (W := 0) (argsL := [(.ref ca), (.int (0 : Int32)), (.int (0 : Int32)), .null]) (rest := []) X0 hx hby rfl hZ hown (hw _ (List.mem_of_getElem? (i := 14) rfl)) (hw _ (List.mem_of_getElem? (i := 15) rfl)) (hw _ (List.mem_of_getElem? (i := 6) rfl)) (hw _ (List.mem_of_getElem? (i := 17) rfl)) (by decide) (rmI4_0 l Z a0 hw a ca 0 0 h0 n0 bx Z0 ga rfl rfl E0 F1 F2) e0 (by decide) (by decide) (by rw [hml]; rfl) pd_23 rfl rfl rfl (Nat.le_of_eq rfl) d3_6 rfl (by decide) (by decide) hS (Nat.zero_le _) (own_ew hw) hC (fun x hx => ⟨by cases List.mem_singleton.mp hx; exact E0.lt, by cases List.mem_singleton.mp hx; exact hsl a (List.mem_singleton.mpr rfl)⟩) ?_
  rintro r1 T2 L3 X4 S5 hZ6 hown7 g8 ⟨⟨b, rfl, N1, K1, S1⟩, R1⟩
  show Go p e below _ (T2.setTop (mkF m 9 #[.val (.ref a), .val (.ref ca)] []))
  exact Go.ret0R X4 hx hby hlk hret d3_9 (by decide) (by decide) S5 (by exact (Nat.le_refl _)) hZ6 (own_ew hw) (by exact R1) ⟨b, rfl, (Fr.app (Fr.nil _) N1), K1, S1⟩
theorem own_0 : (0 : Int32).toInt = 0 := by decide
theorem own_1 : (1 : Int32).toInt = 1 := by decide
theorem own_2 : (2 : Int32).toInt = 2 := by decide
theorem own_add (x y : Int32) (h0 : 0 ≤ x.toInt) (h1 : x.toInt ≤ 1000) (h2 : 0 ≤ y.toInt) (h3 : y.toInt ≤ 1000) : (x + y).toInt = x.toInt + y.toInt := by
  have a := c_iadd x y; have r := rng32 (x + y); omega
theorem own_dbl (x : Int32) (h0 : 0 ≤ x.toInt) (h1 : x.toInt ≤ 1000) : ((2 : Int32) * x).toInt = 2 * x.toInt := by
  have a := c_imul 2 x; have r := rng32 ((2 : Int32) * x); rw [own_2] at a; omega
theorem own_sh0 (x : Int32) : x >>> ((0 : Int32) &&& 31) = x := by
  apply Int32.toInt_inj.mp; have a := c_ishr x 0 0 (by decide); omega
theorem own_minI (x y : Int32) : (own_min x y).toInt = if y.toInt < x.toInt then y.toInt else x.toInt := by
  unfold own_min; by_cases h : y < x
  · rw [if_pos h, if_pos (Int32.lt_iff_toInt_lt.mp h)]
  · rw [if_neg h, if_neg (fun q => h (Int32.lt_iff_toInt_lt.mpr q))]
theorem d1_0 : decode method_3_code 0 = .ok (.iload_n 1, 1) := by decide +kernel
theorem d1_1 : decode method_3_code 1 = .ok (.ifCond .ne 14, 3) := by decide +kernel
theorem d1_4 : decode method_3_code 4 = .ok (.new 7, 3) := by decide +kernel
theorem d1_7 : decode method_3_code 7 = .ok (.dup, 1) := by decide +kernel
theorem d1_8 : decode method_3_code 8 = .ok (.iconst 0, 1) := by decide +kernel
theorem d1_9 : decode method_3_code 9 = .ok (.newarray .char, 2) := by decide +kernel
theorem d1_11 : decode method_3_code 11 = .ok (.invokespecial 9, 3) := by decide +kernel
theorem d1_14 : decode method_3_code 14 = .ok (.areturn, 1) := by decide +kernel
theorem d1_15 : decode method_3_code 15 = .ok (.iload_n 1, 1) := by decide +kernel
theorem d1_16 : decode method_3_code 16 = .ok (.iconst 1, 1) := by decide +kernel
theorem d1_17 : decode method_3_code 17 = .ok (.if_icmp .ne 12, 3) := by decide +kernel
theorem d1_20 : decode method_3_code 20 = .ok (.iload_n 0, 1) := by decide +kernel
theorem d1_21 : decode method_3_code 21 = .ok (.iconst 0, 1) := by decide +kernel
theorem d1_22 : decode method_3_code 22 = .ok (.invokestatic 12, 3) := by decide +kernel
theorem d1_25 : decode method_3_code 25 = .ok (.invokestatic 18, 3) := by decide +kernel
theorem d1_28 : decode method_3_code 28 = .ok (.areturn, 1) := by decide +kernel
theorem d1_29 : decode method_3_code 29 = .ok (.iload_n 1, 1) := by decide +kernel
theorem d1_30 : decode method_3_code 30 = .ok (.iconst 2, 1) := by decide +kernel
theorem d1_31 : decode method_3_code 31 = .ok (.if_icmp .ne 30, 3) := by decide +kernel
theorem d1_34 : decode method_3_code 34 = .ok (.new 7, 3) := by decide +kernel
theorem d1_37 : decode method_3_code 37 = .ok (.dup, 1) := by decide +kernel
theorem d1_38 : decode method_3_code 38 = .ok (.iconst 2, 1) := by decide +kernel
theorem d1_39 : decode method_3_code 39 = .ok (.newarray .char, 2) := by decide +kernel
theorem d1_41 : decode method_3_code 41 = .ok (.dup, 1) := by decide +kernel
theorem d1_42 : decode method_3_code 42 = .ok (.iconst 0, 1) := by decide +kernel
theorem d1_43 : decode method_3_code 43 = .ok (.iload_n 0, 1) := by decide +kernel
theorem d1_44 : decode method_3_code 44 = .ok (.iconst 0, 1) := by decide +kernel
theorem d1_45 : decode method_3_code 45 = .ok (.invokestatic 12, 3) := by decide +kernel
theorem d1_48 : decode method_3_code 48 = .ok (.castore, 1) := by decide +kernel
theorem d1_49 : decode method_3_code 49 = .ok (.dup, 1) := by decide +kernel
theorem d1_50 : decode method_3_code 50 = .ok (.iconst 1, 1) := by decide +kernel
theorem d1_51 : decode method_3_code 51 = .ok (.iload_n 0, 1) := by decide +kernel
theorem d1_52 : decode method_3_code 52 = .ok (.iconst 1, 1) := by decide +kernel
theorem d1_53 : decode method_3_code 53 = .ok (.invokestatic 12, 3) := by decide +kernel
theorem d1_56 : decode method_3_code 56 = .ok (.castore, 1) := by decide +kernel
theorem d1_57 : decode method_3_code 57 = .ok (.invokespecial 9, 3) := by decide +kernel
theorem d1_60 : decode method_3_code 60 = .ok (.areturn, 1) := by decide +kernel
theorem d1_61 : decode method_3_code 61 = .ok (.new 7, 3) := by decide +kernel
theorem d1_64 : decode method_3_code 64 = .ok (.dup, 1) := by decide +kernel
theorem d1_65 : decode method_3_code 65 = .ok (.iconst 3, 1) := by decide +kernel
theorem d1_66 : decode method_3_code 66 = .ok (.newarray .char, 2) := by decide +kernel
theorem d1_68 : decode method_3_code 68 = .ok (.dup, 1) := by decide +kernel
theorem d1_69 : decode method_3_code 69 = .ok (.iconst 0, 1) := by decide +kernel
theorem d1_70 : decode method_3_code 70 = .ok (.iload_n 0, 1) := by decide +kernel
theorem d1_71 : decode method_3_code 71 = .ok (.iconst 0, 1) := by decide +kernel
theorem d1_72 : decode method_3_code 72 = .ok (.invokestatic 12, 3) := by decide +kernel
theorem d1_75 : decode method_3_code 75 = .ok (.castore, 1) := by decide +kernel
theorem d1_76 : decode method_3_code 76 = .ok (.dup, 1) := by decide +kernel
theorem d1_77 : decode method_3_code 77 = .ok (.iconst 1, 1) := by decide +kernel
theorem d1_78 : decode method_3_code 78 = .ok (.iload_n 0, 1) := by decide +kernel
theorem d1_79 : decode method_3_code 79 = .ok (.iconst 1, 1) := by decide +kernel
theorem d1_80 : decode method_3_code 80 = .ok (.invokestatic 12, 3) := by decide +kernel
theorem d1_83 : decode method_3_code 83 = .ok (.castore, 1) := by decide +kernel
theorem d1_84 : decode method_3_code 84 = .ok (.dup, 1) := by decide +kernel
theorem d1_85 : decode method_3_code 85 = .ok (.iconst 2, 1) := by decide +kernel
theorem d1_86 : decode method_3_code 86 = .ok (.iload_n 0, 1) := by decide +kernel
theorem d1_87 : decode method_3_code 87 = .ok (.iconst 2, 1) := by decide +kernel
theorem d1_88 : decode method_3_code 88 = .ok (.invokestatic 12, 3) := by decide +kernel
theorem d1_91 : decode method_3_code 91 = .ok (.castore, 1) := by decide +kernel
theorem d1_92 : decode method_3_code 92 = .ok (.invokespecial 9, 3) := by decide +kernel
theorem d1_95 : decode method_3_code 95 = .ok (.areturn, 1) := by decide +kernel
theorem ef_1 (m : MethodId) (x0 : Int32) (x1 : Int32) : entryFrame m #[(.int x0), (.int x1)] 2 = mkF m 0 #[.val (.int x0), .val (.int x1)] [] := by first | (simp [entryFrame, mkF, argsToLocals, Value.category]; done) | rfl
set_option maxRecDepth 65536 in
set_option maxHeartbeats 40000000 in
theorem rmMK (l : Launch) (Z : State) (a0 : Array Value) (hw : ∀ d ∈ tables_1, d.before a0 Z = true) (bx : Int32) (x1 : Int32) (h0 : Heap) (n0 : Nat) (kk : Int32) (sf : Value) (O0 : Old Z n0 h0) (SS : own_S Z kk sf) (Z0 : n0 ≤ h0.size) (hn : x1 = 0 ∨ x1 = 1 ∨ x1 = 2 ∨ x1 = 3) :
    ConR l Z own_EL [] (⟨"com/example/vellum_channels/vellumchannels/frame/HeaderLineToOctetsPinLaw", "make", "(II)Ljava/lang/String;"⟩ : MethodName) method_3_code 2 (some (.object "java/lang/String")) [] ({ frames := 4, cells := 4, slots := 10, locals := 66 } : Room) #[(.int bx), (.int x1)] h0 (fun v h L => ∃ su b, v = some (.ref su) ∧ Fr n0 L ∧ Keep h0 h [] ∧ own_sx Z h su b x1.toInt (own_cf bx)) := by
  refine ConR.of (plainFor_of_name pn_HeaderLineToOctetsPinLaw) ?_
  intro p e s m below meth c s₁ hx hby hml hown hnm hret hlk hZ hS hC hsl X0 e0
  refine Go.cast (ef_1 m bx x1) ?_
  replace hown : (s.setVm s.vm).vm.findClass "com/example/vellum_channels/vellumchannels/frame/HeaderLineToOctetsPinLaw" = some m.cls := hown
  rcases hn with rfl | rfl | rfl | rfl
  ·
    show Go p e below _ (s₁.setTop (mkF m 0 #[.val (.int bx), .val (.int (0 : Int32))] []))
    refine Go.iloadN (pc' := 1) X0 hx hby d1_0 rfl rfl ?_
    refine Go.ifN (pc' := 4) X0 hx hby d1_1 rfl (show ¬ ((0 : Int32) ≠ 0) from by decide) ?_
    refine Go.new_ (pc' := 7) X0 hx hby hZ hown (hw _ (List.mem_of_getElem? (i := 4) rfl)) (hw _ (List.mem_of_getElem? (i := 5) rfl)) (hw _ (List.mem_of_getElem? (i := 6) rfl)) e0 d1_4 rfl (by decide) (by decide) ?_
    intro b1 T2 h3 g4 X5 e6 E7 A8 D9
    have g10 : n0 ≤ b1 := by rw [g4]; exact Z0
    have f11 : Old Z n0 h3 := O0.ext E7
    have z12 : n0 ≤ h3.size := Nat.le_trans Z0 E7.1
    have f13 : Exa Z h3 b1 "java/lang/String" := A8
    have f14 : Fld Z h3 b1 "java/lang/String" "value" "[B" .null := D9 (Or.inr (hw _ (List.mem_of_getElem? (i := 36) rfl))) (ty := (.array .byte)) (by decide)
    have f15 : Fld Z h3 b1 "java/lang/String" "coder" "B" (.int 0) := D9 (Or.inr (hw _ (List.mem_of_getElem? (i := 34) rfl))) (ty := .byte) (by decide)
    show Go p e below _ (T2.setTop (mkF m 7 #[.val (.int bx), .val (.int (0 : Int32))] [(.ref b1)]))
    have gf : h0.size ≤ b1 := by rw [g4]; exact Nat.le_refl _
    have K0 : Keep h0 h3 [] := (Keep.refl h0 _).ext E7
    refine Go.dup (pc' := 8) X5 hx hby d1_7 rfl rfl ?_
    refine Go.iconst (pc' := 9) X5 hx hby d1_8 rfl (v := (0 : Int32)) (by decide) ?_
    refine Go.newarr (pc' := 11) (cap := 0) (z := 0) X5 hx hby hZ (hw _ (List.mem_of_getElem? (i := 7) rfl)) e6 d1_9 rfl (by decide) (by decide) (by decide) (by decide) (by decide) (by decide) ?_
    intro b16 T17 h18 g19 X20 e21 E22 A23
    have n24 : b1 ≠ b16 := Nat.ne_of_lt (by rw [g19]; exact f13.lt)
    have g25 : n0 ≤ b16 := by rw [g19]; exact z12
    have f26 : Old Z n0 h18 := f11.ext E22
    have f27 : Exa Z h18 b1 "java/lang/String" := Exa.ext E22 f13
    have f28 : Fld Z h18 b1 "java/lang/String" "value" "[B" .null := Fld.ext E22 f14
    have f29 : Fld Z h18 b1 "java/lang/String" "coder" "B" (.int 0) := Fld.ext E22 f15
    have z30 : n0 ≤ h18.size := Nat.le_trans z12 E22.1
    have f31 : Ar Z h18 b16 .char 0 (fun _ => (.int 0)) := A23
    show Go p e below _ (T17.setTop (mkF m 11 #[.val (.int bx), .val (.int (0 : Int32))] [(.ref b16), (.ref b1), (.ref b1)]))
    have gc : h0.size ≤ b16 := by rw [g19]; exact K0.1
    have C1 := CHv.ext E7 hC
    have C2 := CHv.ext E22 C1
    have sf1 := Safe.ext E22 C1 (Safe.ext E7 hC (Safe.new gf))
    refine Go.callIR (pc' := 14) (a := b1) (W := 1) (argsL := [(.ref b16)]) (rest := [(.ref b1)]) X20 hx hby rfl hZ hown (hw _ (List.mem_of_getElem? (i := 11) rfl)) (hw _ (List.mem_of_getElem? (i := 12) rfl)) (hw _ (List.mem_of_getElem? (i := 6) rfl)) (hw _ (List.mem_of_getElem? (i := 13) rfl)) (by decide) (rmI1_0 l Z a0 hw b1 b16 h18 n0 bx _ z30 g10 f27 f28 f29 f31) e21 (by decide) (by decide) (by rw [hml]; rfl) pd_21 rfl rfl rfl (Nat.le_of_eq rfl) d1_11 rfl (by decide) (by decide) hS (Nat.zero_le _) (own_ew hw) C2 (fun x hx => ⟨by cases List.mem_singleton.mp hx; exact f27.lt, by cases List.mem_singleton.mp hx; exact sf1⟩) ?_
    rintro r32 T33 L34 X35 S36 hZ37 hown38 g39 ⟨⟨b, rfl, N1, K1, S1⟩, R1⟩
    show Go p e below _ (T33.setTop (mkF m 14 #[.val (.int bx), .val (.int (0 : Int32))] [(.ref b1)]))
    exact Go.retAR X35 hx hby hlk hret rfl rfl rfl d1_14 (by decide) (by decide) S36 (by exact (Nat.le_refl _)) hZ37 (own_ew hw) (by exact (((CHr.ext E7 hC).trans (CHr.ext E22 C1)).trans R1)) ⟨b1, b, rfl, Fr.app (Fr.nil _) N1, (K0.ext E22).trans K1 (allS (Or.inr gf) all0), S1⟩
  ·
    show Go p e below _ (s₁.setTop (mkF m 0 #[.val (.int bx), .val (.int (1 : Int32))] []))
    refine Go.iloadN (pc' := 1) X0 hx hby d1_0 rfl rfl ?_
    refine Go.ifY (pc' := 15) X0 hx hby d1_1 (by decide) (by decide) (show (1 : Int32) ≠ 0 from by decide) ?_
    refine Go.iloadN (pc' := 16) X0 hx hby d1_15 rfl rfl ?_
    refine Go.iconst (pc' := 17) X0 hx hby d1_16 rfl (v := (1 : Int32)) (by decide) ?_
    refine Go.icmpN (pc' := 20) X0 hx hby d1_17 rfl (show ¬ ((1 : Int32) ≠ (1 : Int32)) from by decide) ?_
    refine Go.iloadN (pc' := 21) X0 hx hby d1_20 rfl rfl ?_
    refine Go.iconst (pc' := 22) X0 hx hby d1_21 rfl (v := (0 : Int32)) (by decide) ?_
    refine Go.callS (pc' := 25) (W := 0) (argsL := [(.int bx), (.int (0 : Int32))]) (rest := []) X0 hx hby hZ hown (hw _ (List.mem_of_getElem? (i := 8) rfl)) (hw _ (List.mem_of_getElem? (i := 9) rfl)) (hw _ (List.mem_of_getElem? (i := 2) rfl)) (hw _ (List.mem_of_getElem? (i := 10) rfl)) (by decide) (rmch l Z a0 hw bx 0 h0) e0 (by decide) (by decide) (by rw [hml]; rfl) pd_10 rfl rfl rfl (Nat.le_of_eq rfl) d1_22 rfl (by decide) (by decide) ?_
    rintro r41 T42 L43 X44 ⟨rfl, rfl, e40⟩
    rw [List.append_nil] at X44
    show Go p e below _ (T42.setTop (mkF m 25 #[.val (.int bx), .val (.int (1 : Int32))] [(.int (own_ck bx 0))]))
    refine Go.callS (pc' := 28) (W := 0) (argsL := [(.int (own_ck bx 0))]) (rest := []) X44 hx hby hZ hown (hw _ (List.mem_of_getElem? (i := 116) rfl)) (hw _ (List.mem_of_getElem? (i := 117) rfl)) (hw _ (List.mem_of_getElem? (i := 6) rfl)) (hw _ (List.mem_of_getElem? (i := 118) rfl)) (by decide) (rmVO l Z a0 hw (own_ck bx 0) h0 n0 kk sf O0 SS Z0 (own_ckr bx 0)) e40 (by decide) (by decide) (by rw [hml]; rfl) pd_5 rfl rfl rfl (Nat.le_of_eq rfl) d1_25 rfl (by decide) (by decide) ?_
    rintro r45 T46 L47 X48 ⟨su, b, rfl, N1, K1, S1⟩
    show Go p e below _ (T46.setTop (mkF m 28 #[.val (.int bx), .val (.int (1 : Int32))] [(.ref su)]))
    exact Go.retAR X48 hx hby hlk hret rfl rfl rfl d1_28 (by decide) (by decide) hS (Nat.zero_le _) hZ (own_ew hw) (by exact (CHr.keep K1 all0 hC)) ⟨su, b, rfl, (Fr.app (Fr.nil _) N1), K1, S1.1, S1.2.1, S1.2.2.1, S1.2.2.2.congr (fun i h1 h2 => by obtain rfl : i = 0 := (by omega); rfl)⟩
  ·
    show Go p e below _ (s₁.setTop (mkF m 0 #[.val (.int bx), .val (.int (2 : Int32))] []))
    refine Go.iloadN (pc' := 1) X0 hx hby d1_0 rfl rfl ?_
    refine Go.ifY (pc' := 15) X0 hx hby d1_1 (by decide) (by decide) (show (2 : Int32) ≠ 0 from by decide) ?_
    refine Go.iloadN (pc' := 16) X0 hx hby d1_15 rfl rfl ?_
    refine Go.iconst (pc' := 17) X0 hx hby d1_16 rfl (v := (1 : Int32)) (by decide) ?_
    refine Go.icmpY (pc' := 29) X0 hx hby d1_17 (by decide) (by decide) (show (2 : Int32) ≠ (1 : Int32) from by decide) ?_
    refine Go.iloadN (pc' := 30) X0 hx hby d1_29 rfl rfl ?_
    refine Go.iconst (pc' := 31) X0 hx hby d1_30 rfl (v := (2 : Int32)) (by decide) ?_
    refine Go.icmpN (pc' := 34) X0 hx hby d1_31 rfl (show ¬ ((2 : Int32) ≠ (2 : Int32)) from by decide) ?_
    refine Go.new_ (pc' := 37) X0 hx hby hZ hown (hw _ (List.mem_of_getElem? (i := 4) rfl)) (hw _ (List.mem_of_getElem? (i := 5) rfl)) (hw _ (List.mem_of_getElem? (i := 6) rfl)) e0 d1_34 rfl (by decide) (by decide) ?_
    intro b49 T50 h51 g52 X53 e54 E55 A56 D57
    have g58 : n0 ≤ b49 := by rw [g52]; exact Z0
    have f59 : Old Z n0 h51 := O0.ext E55
    have z60 : n0 ≤ h51.size := Nat.le_trans Z0 E55.1
    have f61 : Exa Z h51 b49 "java/lang/String" := A56
    have f62 : Fld Z h51 b49 "java/lang/String" "value" "[B" .null := D57 (Or.inr (hw _ (List.mem_of_getElem? (i := 36) rfl))) (ty := (.array .byte)) (by decide)
    have f63 : Fld Z h51 b49 "java/lang/String" "coder" "B" (.int 0) := D57 (Or.inr (hw _ (List.mem_of_getElem? (i := 34) rfl))) (ty := .byte) (by decide)
    show Go p e below _ (T50.setTop (mkF m 37 #[.val (.int bx), .val (.int (2 : Int32))] [(.ref b49)]))
    have gf : h0.size ≤ b49 := by rw [g52]; exact Nat.le_refl _
    have K0 : Keep h0 h51 [] := (Keep.refl h0 _).ext E55
    refine Go.dup (pc' := 38) X53 hx hby d1_37 rfl rfl ?_
    refine Go.iconst (pc' := 39) X53 hx hby d1_38 rfl (v := (2 : Int32)) (by decide) ?_
    refine Go.newarr (pc' := 41) (cap := 2) (z := 2) X53 hx hby hZ (hw _ (List.mem_of_getElem? (i := 7) rfl)) e54 d1_39 rfl (by decide) (by decide) (by decide) (by decide) (by decide) (by decide) ?_
    intro b64 T65 h66 g67 X68 e69 E70 A71
    have n72 : b49 ≠ b64 := Nat.ne_of_lt (by rw [g67]; exact f61.lt)
    have g73 : n0 ≤ b64 := by rw [g67]; exact z60
    have f74 : Old Z n0 h66 := f59.ext E70
    have f75 : Exa Z h66 b49 "java/lang/String" := Exa.ext E70 f61
    have f76 : Fld Z h66 b49 "java/lang/String" "value" "[B" .null := Fld.ext E70 f62
    have f77 : Fld Z h66 b49 "java/lang/String" "coder" "B" (.int 0) := Fld.ext E70 f63
    have z78 : n0 ≤ h66.size := Nat.le_trans z60 E70.1
    have f79 : Ar Z h66 b64 .char 2 (fun _ => (.int 0)) := A71
    show Go p e below _ (T65.setTop (mkF m 41 #[.val (.int bx), .val (.int (2 : Int32))] [(.ref b64), (.ref b49), (.ref b49)]))
    have gc : h0.size ≤ b64 := by rw [g67]; exact K0.1
    refine Go.dup (pc' := 42) X68 hx hby d1_41 rfl rfl ?_
    refine Go.iconst (pc' := 43) X68 hx hby d1_42 rfl (v := (0 : Int32)) (by decide) ?_
    refine Go.iloadN (pc' := 44) X68 hx hby d1_43 rfl rfl ?_
    refine Go.iconst (pc' := 45) X68 hx hby d1_44 rfl (v := (0 : Int32)) (by decide) ?_
    refine Go.callS (pc' := 48) (W := 5) (argsL := [(.int bx), (.int (0 : Int32))]) (rest := [(.int (0 : Int32)), (.ref b64), (.ref b64), (.ref b49), (.ref b49)]) X68 hx hby hZ hown (hw _ (List.mem_of_getElem? (i := 8) rfl)) (hw _ (List.mem_of_getElem? (i := 9) rfl)) (hw _ (List.mem_of_getElem? (i := 2) rfl)) (hw _ (List.mem_of_getElem? (i := 10) rfl)) (by decide) (rmch l Z a0 hw bx 0 h66) e69 (by decide) (by decide) (by rw [hml]; rfl) pd_10 rfl rfl rfl (Nat.le_of_eq rfl) d1_45 rfl (by decide) (by decide) ?_
    rintro r81 T82 L83 X84 ⟨rfl, rfl, e80⟩
    rw [List.append_nil] at X84
    show Go p e below _ (T82.setTop (mkF m 48 #[.val (.int bx), .val (.int (2 : Int32))] [(.int (own_ck bx 0)), (.int (0 : Int32)), (.ref b64), (.ref b64), (.ref b49), (.ref b49)]))
    refine Go.castore (pc' := 49) (i := 0) X84 hx hby hZ e80 f79 d1_48 rfl (by decide) (by decide) (by decide) ?_
    intro T85 h86 X87 e88 W89 A90
    have f91 : Old Z n0 h86 := f74.wr W89 g73
    have f92 : Exa Z h86 b49 "java/lang/String" := Exa.wr W89 f75
    have f93 : Fld Z h86 b49 "java/lang/String" "value" "[B" .null := Fld.other W89 f76 (Or.inl n72)
    have f94 : Fld Z h86 b49 "java/lang/String" "coder" "B" (.int 0) := Fld.other W89 f77 (Or.inl n72)
    have z95 : n0 ≤ h86.size := by rw [Wr.size W89]; exact z78
    have f96 : Ar Z h86 b64 .char 2 (fun q => if q = 0 then (.int (nar .char (own_ck bx 0))) else (.int 0)) := A90
    have N97 : Fr n0 _ := Fr.snoc X87 (Fr.nil _) g73
    show Go p e below _ (T85.setTop (mkF m 49 #[.val (.int bx), .val (.int (2 : Int32))] [(.ref b64), (.ref b49), (.ref b49)]))
    refine Go.dup (pc' := 50) X87 hx hby d1_49 rfl rfl ?_
    refine Go.iconst (pc' := 51) X87 hx hby d1_50 rfl (v := (1 : Int32)) (by decide) ?_
    refine Go.iloadN (pc' := 52) X87 hx hby d1_51 rfl rfl ?_
    refine Go.iconst (pc' := 53) X87 hx hby d1_52 rfl (v := (1 : Int32)) (by decide) ?_
    refine Go.callS (pc' := 56) (W := 5) (argsL := [(.int bx), (.int (1 : Int32))]) (rest := [(.int (1 : Int32)), (.ref b64), (.ref b64), (.ref b49), (.ref b49)]) X87 hx hby hZ hown (hw _ (List.mem_of_getElem? (i := 8) rfl)) (hw _ (List.mem_of_getElem? (i := 9) rfl)) (hw _ (List.mem_of_getElem? (i := 2) rfl)) (hw _ (List.mem_of_getElem? (i := 10) rfl)) (by decide) (rmch l Z a0 hw bx 1 h86) e88 (by decide) (by decide) (by rw [hml]; rfl) pd_10 rfl rfl rfl (Nat.le_of_eq rfl) d1_53 rfl (by decide) (by decide) ?_
    rintro r99 T100 L101 X102 ⟨rfl, rfl, e98⟩
    rw [List.append_nil] at X102
    show Go p e below _ (T100.setTop (mkF m 56 #[.val (.int bx), .val (.int (2 : Int32))] [(.int (own_ck bx 1)), (.int (1 : Int32)), (.ref b64), (.ref b64), (.ref b49), (.ref b49)]))
    refine Go.castore (pc' := 57) (i := 1) X102 hx hby hZ e98 f96 d1_56 rfl (by decide) (by decide) (by decide) ?_
    intro T103 h104 X105 e106 W107 A108
    have f109 : Old Z n0 h104 := f91.wr W107 g73
    have f110 : Exa Z h104 b49 "java/lang/String" := Exa.wr W107 f92
    have f111 : Fld Z h104 b49 "java/lang/String" "value" "[B" .null := Fld.other W107 f93 (Or.inl n72)
    have f112 : Fld Z h104 b49 "java/lang/String" "coder" "B" (.int 0) := Fld.other W107 f94 (Or.inl n72)
    have z113 : n0 ≤ h104.size := by rw [Wr.size W107]; exact z95
    have f114 : Ar Z h104 b64 .char 2 (fun q => if q = 1 then (.int (nar .char (own_ck bx 1))) else if q = 0 then (.int (nar .char (own_ck bx 0))) else (.int 0)) := A108
    have N115 : Fr n0 _ := Fr.snoc X105 N97 g73
    show Go p e below _ (T103.setTop (mkF m 57 #[.val (.int bx), .val (.int (2 : Int32))] [(.ref b64), (.ref b49), (.ref b49)]))
    have f116 : Ar Z h104 b64 .char 2 (fun q => .int (own_cf bx q)) := f114.congr (fun i h1 h2 => by have t : i = 0 ∨ i = 1 := (by omega); rcases t with rfl | rfl <;> simp [own_cf, own_nc7 (own_ckr bx _)])
    refine Go.callI (pc' := 60) (a := b49) (W := 1) (argsL := [(.ref b64)]) (rest := [(.ref b49)]) X105 hx hby rfl hZ hown (hw _ (List.mem_of_getElem? (i := 11) rfl)) (hw _ (List.mem_of_getElem? (i := 12) rfl)) (hw _ (List.mem_of_getElem? (i := 6) rfl)) (hw _ (List.mem_of_getElem? (i := 13) rfl)) (by decide) (rmI1_2 l Z a0 hw b49 b64 h104 n0 kk sf bx f109 SS z113 g58 f110 f111 f112 f116) e106 (by decide) (by decide) (by rw [hml]; rfl) pd_21 rfl rfl rfl (Nat.le_of_eq rfl) d1_57 rfl (by decide) (by decide) ?_
    rintro r117 T118 L119 X120 ⟨b, rfl, N1, K1, S1⟩
    show Go p e below _ (T118.setTop (mkF m 60 #[.val (.int bx), .val (.int (2 : Int32))] [(.ref b49)]))
    have K9 := (((K0.ext E70).wr W89 (Or.inr gc)).wr W107 (Or.inr gc)).trans K1 (allS (Or.inr gf) all0)
    exact Go.retAR X120 hx hby hlk hret rfl rfl rfl d1_60 (by decide) (by decide) hS (Nat.zero_le _) hZ (own_ew hw) (by exact (CHr.keep K9 all0 hC)) ⟨b49, b, rfl, Fr.app N115 N1, K9, S1⟩
  ·
    show Go p e below _ (s₁.setTop (mkF m 0 #[.val (.int bx), .val (.int (3 : Int32))] []))
    refine Go.iloadN (pc' := 1) X0 hx hby d1_0 rfl rfl ?_
    refine Go.ifY (pc' := 15) X0 hx hby d1_1 (by decide) (by decide) (show (3 : Int32) ≠ 0 from by decide) ?_
    refine Go.iloadN (pc' := 16) X0 hx hby d1_15 rfl rfl ?_
    refine Go.iconst (pc' := 17) X0 hx hby d1_16 rfl (v := (1 : Int32)) (by decide) ?_
    refine Go.icmpY (pc' := 29) X0 hx hby d1_17 (by decide) (by decide) (show (3 : Int32) ≠ (1 : Int32) from by decide) ?_
    refine Go.iloadN (pc' := 30) X0 hx hby d1_29 rfl rfl ?_
    refine Go.iconst (pc' := 31) X0 hx hby d1_30 rfl (v := (2 : Int32)) (by decide) ?_
    refine Go.icmpY (pc' := 61) X0 hx hby d1_31 (by decide) (by decide) (show (3 : Int32) ≠ (2 : Int32) from by decide) ?_
    refine Go.new_ (pc' := 64) X0 hx hby hZ hown (hw _ (List.mem_of_getElem? (i := 4) rfl)) (hw _ (List.mem_of_getElem? (i := 5) rfl)) (hw _ (List.mem_of_getElem? (i := 6) rfl)) e0 d1_61 rfl (by decide) (by decide) ?_
    intro b121 T122 h123 g124 X125 e126 E127 A128 D129
    have g130 : n0 ≤ b121 := by rw [g124]; exact Z0
    have f131 : Old Z n0 h123 := O0.ext E127
    have z132 : n0 ≤ h123.size := Nat.le_trans Z0 E127.1
    have f133 : Exa Z h123 b121 "java/lang/String" := A128
    have f134 : Fld Z h123 b121 "java/lang/String" "value" "[B" .null := D129 (Or.inr (hw _ (List.mem_of_getElem? (i := 36) rfl))) (ty := (.array .byte)) (by decide)
    have f135 : Fld Z h123 b121 "java/lang/String" "coder" "B" (.int 0) := D129 (Or.inr (hw _ (List.mem_of_getElem? (i := 34) rfl))) (ty := .byte) (by decide)
    show Go p e below _ (T122.setTop (mkF m 64 #[.val (.int bx), .val (.int (3 : Int32))] [(.ref b121)]))
    have gf : h0.size ≤ b121 := by rw [g124]; exact Nat.le_refl _
    have K0 : Keep h0 h123 [] := (Keep.refl h0 _).ext E127
    refine Go.dup (pc' := 65) X125 hx hby d1_64 rfl rfl ?_
    refine Go.iconst (pc' := 66) X125 hx hby d1_65 rfl (v := (3 : Int32)) (by decide) ?_
    refine Go.newarr (pc' := 68) (cap := 3) (z := 3) X125 hx hby hZ (hw _ (List.mem_of_getElem? (i := 7) rfl)) e126 d1_66 rfl (by decide) (by decide) (by decide) (by decide) (by decide) (by decide) ?_
    intro b136 T137 h138 g139 X140 e141 E142 A143
    have n144 : b121 ≠ b136 := Nat.ne_of_lt (by rw [g139]; exact f133.lt)
    have g145 : n0 ≤ b136 := by rw [g139]; exact z132
    have f146 : Old Z n0 h138 := f131.ext E142
    have f147 : Exa Z h138 b121 "java/lang/String" := Exa.ext E142 f133
    have f148 : Fld Z h138 b121 "java/lang/String" "value" "[B" .null := Fld.ext E142 f134
    have f149 : Fld Z h138 b121 "java/lang/String" "coder" "B" (.int 0) := Fld.ext E142 f135
    have z150 : n0 ≤ h138.size := Nat.le_trans z132 E142.1
    have f151 : Ar Z h138 b136 .char 3 (fun _ => (.int 0)) := A143
    show Go p e below _ (T137.setTop (mkF m 68 #[.val (.int bx), .val (.int (3 : Int32))] [(.ref b136), (.ref b121), (.ref b121)]))
    have gc : h0.size ≤ b136 := by rw [g139]; exact K0.1
    refine Go.dup (pc' := 69) X140 hx hby d1_68 rfl rfl ?_
    refine Go.iconst (pc' := 70) X140 hx hby d1_69 rfl (v := (0 : Int32)) (by decide) ?_
    refine Go.iloadN (pc' := 71) X140 hx hby d1_70 rfl rfl ?_
    refine Go.iconst (pc' := 72) X140 hx hby d1_71 rfl (v := (0 : Int32)) (by decide) ?_
    refine Go.callS (pc' := 75) (W := 5) (argsL := [(.int bx), (.int (0 : Int32))]) (rest := [(.int (0 : Int32)), (.ref b136), (.ref b136), (.ref b121), (.ref b121)]) X140 hx hby hZ hown (hw _ (List.mem_of_getElem? (i := 8) rfl)) (hw _ (List.mem_of_getElem? (i := 9) rfl)) (hw _ (List.mem_of_getElem? (i := 2) rfl)) (hw _ (List.mem_of_getElem? (i := 10) rfl)) (by decide) (rmch l Z a0 hw bx 0 h138) e141 (by decide) (by decide) (by rw [hml]; rfl) pd_10 rfl rfl rfl (Nat.le_of_eq rfl) d1_72 rfl (by decide) (by decide) ?_
    rintro r153 T154 L155 X156 ⟨rfl, rfl, e152⟩
    rw [List.append_nil] at X156
    show Go p e below _ (T154.setTop (mkF m 75 #[.val (.int bx), .val (.int (3 : Int32))] [(.int (own_ck bx 0)), (.int (0 : Int32)), (.ref b136), (.ref b136), (.ref b121), (.ref b121)]))
    refine Go.castore (pc' := 76) (i := 0) X156 hx hby hZ e152 f151 d1_75 rfl (by decide) (by decide) (by decide) ?_
    intro T157 h158 X159 e160 W161 A162
    have f163 : Old Z n0 h158 := f146.wr W161 g145
    have f164 : Exa Z h158 b121 "java/lang/String" := Exa.wr W161 f147
    have f165 : Fld Z h158 b121 "java/lang/String" "value" "[B" .null := Fld.other W161 f148 (Or.inl n144)
    have f166 : Fld Z h158 b121 "java/lang/String" "coder" "B" (.int 0) := Fld.other W161 f149 (Or.inl n144)
    have z167 : n0 ≤ h158.size := by rw [Wr.size W161]; exact z150
    have f168 : Ar Z h158 b136 .char 3 (fun q => if q = 0 then (.int (nar .char (own_ck bx 0))) else (.int 0)) := A162
    have N169 : Fr n0 _ := Fr.snoc X159 (Fr.nil _) g145
    show Go p e below _ (T157.setTop (mkF m 76 #[.val (.int bx), .val (.int (3 : Int32))] [(.ref b136), (.ref b121), (.ref b121)]))
    refine Go.dup (pc' := 77) X159 hx hby d1_76 rfl rfl ?_
    refine Go.iconst (pc' := 78) X159 hx hby d1_77 rfl (v := (1 : Int32)) (by decide) ?_
    refine Go.iloadN (pc' := 79) X159 hx hby d1_78 rfl rfl ?_
    refine Go.iconst (pc' := 80) X159 hx hby d1_79 rfl (v := (1 : Int32)) (by decide) ?_
    refine Go.callS (pc' := 83) (W := 5) (argsL := [(.int bx), (.int (1 : Int32))]) (rest := [(.int (1 : Int32)), (.ref b136), (.ref b136), (.ref b121), (.ref b121)]) X159 hx hby hZ hown (hw _ (List.mem_of_getElem? (i := 8) rfl)) (hw _ (List.mem_of_getElem? (i := 9) rfl)) (hw _ (List.mem_of_getElem? (i := 2) rfl)) (hw _ (List.mem_of_getElem? (i := 10) rfl)) (by decide) (rmch l Z a0 hw bx 1 h158) e160 (by decide) (by decide) (by rw [hml]; rfl) pd_10 rfl rfl rfl (Nat.le_of_eq rfl) d1_80 rfl (by decide) (by decide) ?_
    rintro r171 T172 L173 X174 ⟨rfl, rfl, e170⟩
    rw [List.append_nil] at X174
    show Go p e below _ (T172.setTop (mkF m 83 #[.val (.int bx), .val (.int (3 : Int32))] [(.int (own_ck bx 1)), (.int (1 : Int32)), (.ref b136), (.ref b136), (.ref b121), (.ref b121)]))
    refine Go.castore (pc' := 84) (i := 1) X174 hx hby hZ e170 f168 d1_83 rfl (by decide) (by decide) (by decide) ?_
    intro T175 h176 X177 e178 W179 A180
    have f181 : Old Z n0 h176 := f163.wr W179 g145
    have f182 : Exa Z h176 b121 "java/lang/String" := Exa.wr W179 f164
    have f183 : Fld Z h176 b121 "java/lang/String" "value" "[B" .null := Fld.other W179 f165 (Or.inl n144)
    have f184 : Fld Z h176 b121 "java/lang/String" "coder" "B" (.int 0) := Fld.other W179 f166 (Or.inl n144)
    have z185 : n0 ≤ h176.size := by rw [Wr.size W179]; exact z167
    have f186 : Ar Z h176 b136 .char 3 (fun q => if q = 1 then (.int (nar .char (own_ck bx 1))) else if q = 0 then (.int (nar .char (own_ck bx 0))) else (.int 0)) := A180
    have N187 : Fr n0 _ := Fr.snoc X177 N169 g145
    show Go p e below _ (T175.setTop (mkF m 84 #[.val (.int bx), .val (.int (3 : Int32))] [(.ref b136), (.ref b121), (.ref b121)]))
    refine Go.dup (pc' := 85) X177 hx hby d1_84 rfl rfl ?_
    refine Go.iconst (pc' := 86) X177 hx hby d1_85 rfl (v := (2 : Int32)) (by decide) ?_
    refine Go.iloadN (pc' := 87) X177 hx hby d1_86 rfl rfl ?_
    refine Go.iconst (pc' := 88) X177 hx hby d1_87 rfl (v := (2 : Int32)) (by decide) ?_
    refine Go.callS (pc' := 91) (W := 5) (argsL := [(.int bx), (.int (2 : Int32))]) (rest := [(.int (2 : Int32)), (.ref b136), (.ref b136), (.ref b121), (.ref b121)]) X177 hx hby hZ hown (hw _ (List.mem_of_getElem? (i := 8) rfl)) (hw _ (List.mem_of_getElem? (i := 9) rfl)) (hw _ (List.mem_of_getElem? (i := 2) rfl)) (hw _ (List.mem_of_getElem? (i := 10) rfl)) (by decide) (rmch l Z a0 hw bx 2 h176) e178 (by decide) (by decide) (by rw [hml]; rfl) pd_10 rfl rfl rfl (Nat.le_of_eq rfl) d1_88 rfl (by decide) (by decide) ?_
    rintro r189 T190 L191 X192 ⟨rfl, rfl, e188⟩
    rw [List.append_nil] at X192
    show Go p e below _ (T190.setTop (mkF m 91 #[.val (.int bx), .val (.int (3 : Int32))] [(.int (own_ck bx 2)), (.int (2 : Int32)), (.ref b136), (.ref b136), (.ref b121), (.ref b121)]))
    refine Go.castore (pc' := 92) (i := 2) X192 hx hby hZ e188 f186 d1_91 rfl (by decide) (by decide) (by decide) ?_
    intro T193 h194 X195 e196 W197 A198
    have f199 : Old Z n0 h194 := f181.wr W197 g145
    have f200 : Exa Z h194 b121 "java/lang/String" := Exa.wr W197 f182
    have f201 : Fld Z h194 b121 "java/lang/String" "value" "[B" .null := Fld.other W197 f183 (Or.inl n144)
    have f202 : Fld Z h194 b121 "java/lang/String" "coder" "B" (.int 0) := Fld.other W197 f184 (Or.inl n144)
    have z203 : n0 ≤ h194.size := by rw [Wr.size W197]; exact z185
    have f204 : Ar Z h194 b136 .char 3 (fun q => if q = 2 then (.int (nar .char (own_ck bx 2))) else if q = 1 then (.int (nar .char (own_ck bx 1))) else if q = 0 then (.int (nar .char (own_ck bx 0))) else (.int 0)) := A198
    have N205 : Fr n0 _ := Fr.snoc X195 N187 g145
    show Go p e below _ (T193.setTop (mkF m 92 #[.val (.int bx), .val (.int (3 : Int32))] [(.ref b136), (.ref b121), (.ref b121)]))
    have f206 : Ar Z h194 b136 .char 3 (fun q => .int (own_cf bx q)) := f204.congr (fun i h1 h2 => by have t : i = 0 ∨ i = 1 ∨ i = 2 := (by omega); rcases t with rfl | rfl | rfl <;> simp [own_cf, own_nc7 (own_ckr bx _)])
    refine Go.callI (pc' := 95) (a := b121) (W := 1) (argsL := [(.ref b136)]) (rest := [(.ref b121)]) X195 hx hby rfl hZ hown (hw _ (List.mem_of_getElem? (i := 11) rfl)) (hw _ (List.mem_of_getElem? (i := 12) rfl)) (hw _ (List.mem_of_getElem? (i := 6) rfl)) (hw _ (List.mem_of_getElem? (i := 13) rfl)) (by decide) (rmI1_3 l Z a0 hw b121 b136 h194 n0 kk sf bx f199 SS z203 g130 f200 f201 f202 f206) e196 (by decide) (by decide) (by rw [hml]; rfl) pd_21 rfl rfl rfl (Nat.le_of_eq rfl) d1_92 rfl (by decide) (by decide) ?_
    rintro r207 T208 L209 X210 ⟨b, rfl, N1, K1, S1⟩
    show Go p e below _ (T208.setTop (mkF m 95 #[.val (.int bx), .val (.int (3 : Int32))] [(.ref b121)]))
    have K9 := ((((K0.ext E142).wr W161 (Or.inr gc)).wr W179 (Or.inr gc)).wr W197 (Or.inr gc)).trans K1 (allS (Or.inr gf) all0)
    exact Go.retAR X210 hx hby hlk hret rfl rfl rfl d1_95 (by decide) (by decide) hS (Nat.zero_le _) hZ (own_ew hw) (by exact (CHr.keep K9 all0 hC)) ⟨b121, b, rfl, Fr.app N205 N1, K9, S1⟩
theorem d16_0 : decode jdk_42_method_154_code 0 = .ok (.getstatic 38, 3) := by decide +kernel
theorem d16_3 : decode jdk_42_method_154_code 3 = .ok (.ifCond .eq 14, 3) := by decide +kernel
theorem d16_6 : decode jdk_42_method_154_code 6 = .ok (.aload_n 0, 1) := by decide +kernel
theorem d16_7 : decode jdk_42_method_154_code 7 = .ok (.getfield 15, 3) := by decide +kernel
theorem d16_10 : decode jdk_42_method_154_code 10 = .ok (.ifCond .ne 7, 3) := by decide +kernel
theorem d16_13 : decode jdk_42_method_154_code 13 = .ok (.iconst 1, 1) := by decide +kernel
theorem d16_14 : decode jdk_42_method_154_code 14 = .ok (.goto 4, 3) := by decide +kernel
theorem d16_17 : decode jdk_42_method_154_code 17 = .ok (.iconst 0, 1) := by decide +kernel
theorem d16_18 : decode jdk_42_method_154_code 18 = .ok (.ireturn, 1) := by decide +kernel
theorem d13_0 : decode jdk_42_method_152_code 0 = .ok (.getstatic 38, 3) := by decide +kernel
theorem d13_3 : decode jdk_42_method_152_code 3 = .ok (.ifCond .eq 10, 3) := by decide +kernel
theorem d13_6 : decode jdk_42_method_152_code 6 = .ok (.aload_n 0, 1) := by decide +kernel
theorem d13_7 : decode jdk_42_method_152_code 7 = .ok (.getfield 15, 3) := by decide +kernel
theorem d13_10 : decode jdk_42_method_152_code 10 = .ok (.goto 4, 3) := by decide +kernel
theorem d13_13 : decode jdk_42_method_152_code 13 = .ok (.iconst 1, 1) := by decide +kernel
theorem d13_14 : decode jdk_42_method_152_code 14 = .ok (.ireturn, 1) := by decide +kernel
theorem d12_0 : decode jdk_42_method_54_code 0 = .ok (.aload_n 0, 1) := by decide +kernel
theorem d12_1 : decode jdk_42_method_54_code 1 = .ok (.getfield 9, 3) := by decide +kernel
theorem d12_4 : decode jdk_42_method_54_code 4 = .ok (.arraylength, 1) := by decide +kernel
theorem d12_5 : decode jdk_42_method_54_code 5 = .ok (.aload_n 0, 1) := by decide +kernel
theorem d12_6 : decode jdk_42_method_54_code 6 = .ok (.invokevirtual 335, 3) := by decide +kernel
theorem d12_9 : decode jdk_42_method_54_code 9 = .ok (.ishr, 1) := by decide +kernel
theorem d12_10 : decode jdk_42_method_54_code 10 = .ok (.ireturn, 1) := by decide +kernel
theorem ef_16 (m : MethodId) (x0 : Addr) : entryFrame m #[(.ref x0)] 1 = mkF m 0 #[.val (.ref x0)] [] := by first | (simp [entryFrame, mkF, argsToLocals, Value.category]; done) | rfl
set_option maxRecDepth 65536 in
set_option maxHeartbeats 40000000 in
theorem rmIL (l : Launch) (Z : State) (a0 : Array Value) (hw : ∀ d ∈ tables_1, d.before a0 Z = true) (a : Addr) (h0 : Heap) (n0 : Nat) (kk : Int32) (sf : Value) (O0 : Old Z n0 h0) (SS : own_S Z kk sf) (F2 : Fld Z h0 a "java/lang/String" "coder" "B" (.int 0)) :
    Con l Z (⟨"java/lang/String", "isLatin1", "()Z"⟩ : MethodName) jdk_42_method_154_code 1 (some .boolean) [] ({ frames := 0, cells := 0, slots := 0, locals := 0 } : Room) #[(.ref a)] h0 (PQ (some (.int 1)) h0) := by
  refine Con.of (plainFor_of_name pn_String) ?_
  intro p e s m below meth c s₁ hx hby hml hown hnm hret hlk hZ X0 e0
  refine Go.cast (ef_16 m a) ?_
  replace hown : s.vm.findClass "java/lang/String" = some m.cls := hown
  have S0_ : Sta Z h0 "java/lang/String" "COMPACT_STRINGS" "Z" (.int kk) := Sta.ext O0.2 SS.2.1
  refine Go.getSt (pc' := 3) X0 hx hby hZ hown (hw _ (List.mem_of_getElem? (i := 21) rfl)) Via.refl e0 S0_ d16_0 rfl ?_
  intro T1 X2 e3
  refine Go.ifN (pc' := 6) X2 hx hby d16_3 rfl (show ¬ (kk = 0) from SS.1) ?_
  refine Go.aloadN (pc' := 7) X2 hx hby d16_6 rfl rfl rfl ?_
  refine Go.getF (pc' := 10) X2 hx hby hZ hown (hw _ (List.mem_of_getElem? (i := 33) rfl)) Via.refl e3 F2 d16_7 rfl ?_
  intro T4 X5 e6
  refine Go.ifN (pc' := 13) X5 hx hby d16_10 rfl (show ¬ ((0 : Int32) ≠ 0) from by decide) ?_
  refine Go.iconst (pc' := 14) X5 hx hby d16_13 rfl (v := (1 : Int32)) (by decide) ?_
  refine Go.goto (pc' := 18) X5 hx hby d16_14 (by decide) (by decide) ?_
  exact Go.retZ X5 hx hby hlk hret (by simp) d16_18 (by decide) (by decide) ⟨rfl, rfl, e6⟩
theorem ef_13 (m : MethodId) (x0 : Addr) : entryFrame m #[(.ref x0)] 1 = mkF m 0 #[.val (.ref x0)] [] := by first | (simp [entryFrame, mkF, argsToLocals, Value.category]; done) | rfl
set_option maxRecDepth 65536 in
set_option maxHeartbeats 40000000 in
theorem rmCO (l : Launch) (Z : State) (a0 : Array Value) (hw : ∀ d ∈ tables_1, d.before a0 Z = true) (a : Addr) (h0 : Heap) (n0 : Nat) (kk : Int32) (sf : Value) (O0 : Old Z n0 h0) (SS : own_S Z kk sf) (F2 : Fld Z h0 a "java/lang/String" "coder" "B" (.int 0)) :
    Con l Z (⟨"java/lang/String", "coder", "()B"⟩ : MethodName) jdk_42_method_152_code 1 (some .byte) [] ({ frames := 0, cells := 0, slots := 0, locals := 0 } : Room) #[(.ref a)] h0 (PQ (some (.int 0)) h0) := by
  refine Con.of (plainFor_of_name pn_String) ?_
  intro p e s m below meth c s₁ hx hby hml hown hnm hret hlk hZ X0 e0
  refine Go.cast (ef_13 m a) ?_
  replace hown : s.vm.findClass "java/lang/String" = some m.cls := hown
  have S0_ : Sta Z h0 "java/lang/String" "COMPACT_STRINGS" "Z" (.int kk) := Sta.ext O0.2 SS.2.1
  refine Go.getSt (pc' := 3) X0 hx hby hZ hown (hw _ (List.mem_of_getElem? (i := 21) rfl)) Via.refl e0 S0_ d13_0 rfl ?_
  intro T1 X2 e3
  refine Go.ifN (pc' := 6) X2 hx hby d13_3 rfl (show ¬ (kk = 0) from SS.1) ?_
  refine Go.aloadN (pc' := 7) X2 hx hby d13_6 rfl rfl rfl ?_
  refine Go.getF (pc' := 10) X2 hx hby hZ hown (hw _ (List.mem_of_getElem? (i := 33) rfl)) Via.refl e3 F2 d13_7 rfl ?_
  intro T4 X5 e6
  refine Go.goto (pc' := 14) X5 hx hby d13_10 (by decide) (by decide) ?_
  exact Go.retZ X5 hx hby hlk hret (by simp) d13_14 (by decide) (by decide) ⟨rfl, rfl, e6⟩
theorem ef_12 (m : MethodId) (x0 : Addr) : entryFrame m #[(.ref x0)] 1 = mkF m 0 #[.val (.ref x0)] [] := by first | (simp [entryFrame, mkF, argsToLocals, Value.category]; done) | rfl
set_option maxRecDepth 65536 in
set_option maxHeartbeats 40000000 in
theorem rmLE (l : Launch) (Z : State) (a0 : Array Value) (hw : ∀ d ∈ tables_1, d.before a0 Z = true) (a : Addr) (h0 : Heap) (n0 : Nat) (kk : Int32) (sf : Value) (b : Addr) (nz : Int32) (cf : Int → Int32) (O0 : Old Z n0 h0) (SS : own_S Z kk sf) (S0 : own_sx Z h0 a b nz.toInt cf) :
    Con l Z (⟨"java/lang/String", "length", "()I"⟩ : MethodName) jdk_42_method_54_code 1 (some .int) [] ({ frames := 1, cells := 0, slots := 0, locals := 13 } : Room) #[(.ref a)] h0 (PQ (some (.int nz)) h0) := by
  refine Con.of (plainFor_of_name pn_String) ?_
  intro p e s m below meth c s₁ hx hby hml hown hnm hret hlk hZ X0 e0
  refine Go.cast (ef_12 m a) ?_
  replace hown : s.vm.findClass "java/lang/String" = some m.cls := hown
  obtain ⟨E0, F1, F2, A0⟩ := S0
  refine Go.aloadN (pc' := 1) X0 hx hby d12_0 rfl rfl rfl ?_
  refine Go.getF (pc' := 4) X0 hx hby hZ hown (hw _ (List.mem_of_getElem? (i := 35) rfl)) Via.refl e0 F1 d12_1 rfl ?_
  intro T1 X2 e3
  refine Go.alen (pc' := 5) (zv := nz) X2 hx hby hZ e3 A0 d12_4 rfl rfl ?_
  refine Go.aloadN (pc' := 6) X2 hx hby d12_5 rfl rfl rfl ?_
  refine Go.callV (C := "java/lang/String") (pc' := 9) (a := a) (W := 1) (argsL := []) (rest := [(.int nz)]) X2 hx hby hZ hown (hw _ (List.mem_of_getElem? (i := 65) rfl)) (hw _ (List.mem_of_getElem? (i := 66) rfl)) (notFace_of_selects (args := #[]) (mvT hZ (hw _ (List.mem_of_getElem? (i := 68) rfl)))) (hw _ (List.mem_of_getElem? (i := 68) rfl)) (hw _ (List.mem_of_getElem? (i := 67) rfl)) (hw _ (List.mem_of_getElem? (i := 6) rfl)) (hw _ (List.mem_of_getElem? (i := 69) rfl)) (by decide) (rmCO l Z a0 hw a h0 n0 kk sf O0 SS F2) e3 E0 (by decide) (by decide) (by rw [hml]; rfl) pd_0 rfl rfl rfl (Nat.le_of_eq rfl) d12_6 rfl (by decide) (by decide) ?_
  rintro r5 T6 L7 X8 ⟨rfl, rfl, e4⟩
  rw [List.append_nil] at X8
  show Go p e below _ (T6.setTop (mkF m 9 #[.val (.ref a)] [(.int (0 : Int32)), (.int nz)]))
  refine Go.ishr (pc' := 10) X8 hx hby d12_9 rfl ?_
  exact Go.retI X8 hx hby hlk hret d12_10 (by decide) (by decide) ⟨by rw [own_sh0], rfl, e4⟩
theorem d19_0 : decode jdk_41_method_11_code 0 = .ok (.iload_n 0, 1) := by decide +kernel
theorem d19_1 : decode jdk_41_method_11_code 1 = .ok (.ifCond .lt 8, 3) := by decide +kernel
theorem d19_4 : decode jdk_41_method_11_code 4 = .ok (.iload_n 0, 1) := by decide +kernel
theorem d19_5 : decode jdk_41_method_11_code 5 = .ok (.iload_n 1, 1) := by decide +kernel
theorem d19_6 : decode jdk_41_method_11_code 6 = .ok (.if_icmp .lt 10, 3) := by decide +kernel
theorem d19_9 : decode jdk_41_method_11_code 9 = .ok (.aload_n 2, 1) := by decide +kernel
theorem d19_10 : decode jdk_41_method_11_code 10 = .ok (.iload_n 0, 1) := by decide +kernel
theorem d19_11 : decode jdk_41_method_11_code 11 = .ok (.iload_n 1, 1) := by decide +kernel
theorem d19_12 : decode jdk_41_method_11_code 12 = .ok (.invokestatic 95, 3) := by decide +kernel
theorem d19_15 : decode jdk_41_method_11_code 15 = .ok (.athrow, 1) := by decide +kernel
theorem d19_16 : decode jdk_41_method_11_code 16 = .ok (.iload_n 0, 1) := by decide +kernel
theorem d19_17 : decode jdk_41_method_11_code 17 = .ok (.ireturn, 1) := by decide +kernel
theorem d18_0 : decode jdk_42_method_155_code 0 = .ok (.iload_n 0, 1) := by decide +kernel
theorem d18_1 : decode jdk_42_method_155_code 1 = .ok (.iload_n 1, 1) := by decide +kernel
theorem d18_2 : decode jdk_42_method_155_code 2 = .ok (.getstatic 1053, 3) := by decide +kernel
theorem d18_5 : decode jdk_42_method_155_code 5 = .ok (.invokestatic 1059, 3) := by decide +kernel
theorem d18_8 : decode jdk_42_method_155_code 8 = .ok (.pop, 1) := by decide +kernel
theorem d18_9 : decode jdk_42_method_155_code 9 = .ok (.return_, 1) := by decide +kernel
theorem d17_0 : decode jdk_43_method_2_code 0 = .ok (.iload_n 1, 1) := by decide +kernel
theorem d17_1 : decode jdk_43_method_2_code 1 = .ok (.aload_n 0, 1) := by decide +kernel
theorem d17_2 : decode jdk_43_method_2_code 2 = .ok (.arraylength, 1) := by decide +kernel
theorem d17_3 : decode jdk_43_method_2_code 3 = .ok (.invokestatic 9, 3) := by decide +kernel
theorem d17_6 : decode jdk_43_method_2_code 6 = .ok (.aload_n 0, 1) := by decide +kernel
theorem d17_7 : decode jdk_43_method_2_code 7 = .ok (.iload_n 1, 1) := by decide +kernel
theorem d17_8 : decode jdk_43_method_2_code 8 = .ok (.baload, 1) := by decide +kernel
theorem d17_9 : decode jdk_43_method_2_code 9 = .ok (.sipush 255, 3) := by decide +kernel
theorem d17_12 : decode jdk_43_method_2_code 12 = .ok (.iand, 1) := by decide +kernel
theorem d17_13 : decode jdk_43_method_2_code 13 = .ok (.i2c, 1) := by decide +kernel
theorem d17_14 : decode jdk_43_method_2_code 14 = .ok (.ireturn, 1) := by decide +kernel
theorem d15_0 : decode jdk_42_method_56_code 0 = .ok (.aload_n 0, 1) := by decide +kernel
theorem d15_1 : decode jdk_42_method_56_code 1 = .ok (.invokevirtual 492, 3) := by decide +kernel
theorem d15_4 : decode jdk_42_method_56_code 4 = .ok (.ifCond .eq 12, 3) := by decide +kernel
theorem d15_7 : decode jdk_42_method_56_code 7 = .ok (.aload_n 0, 1) := by decide +kernel
theorem d15_8 : decode jdk_42_method_56_code 8 = .ok (.getfield 9, 3) := by decide +kernel
theorem d15_11 : decode jdk_42_method_56_code 11 = .ok (.iload_n 1, 1) := by decide +kernel
theorem d15_12 : decode jdk_42_method_56_code 12 = .ok (.invokestatic 495, 3) := by decide +kernel
theorem d15_15 : decode jdk_42_method_56_code 15 = .ok (.ireturn, 1) := by decide +kernel
theorem d15_16 : decode jdk_42_method_56_code 16 = .ok (.aload_n 0, 1) := by decide +kernel
theorem d15_17 : decode jdk_42_method_56_code 17 = .ok (.getfield 9, 3) := by decide +kernel
theorem d15_20 : decode jdk_42_method_56_code 20 = .ok (.iload_n 1, 1) := by decide +kernel
theorem d15_21 : decode jdk_42_method_56_code 21 = .ok (.invokestatic 498, 3) := by decide +kernel
theorem d15_24 : decode jdk_42_method_56_code 24 = .ok (.ireturn, 1) := by decide +kernel
theorem ef_19n (m : MethodId) (x0 : Int32) (x1 : Int32) : entryFrame m #[(.int x0), (.int x1), .null] 3 = mkF m 0 #[.val (.int x0), .val (.int x1), .val .null] [] := by first | (simp [entryFrame, mkF, argsToLocals, Value.category]; done) | rfl
theorem pn_Preconditions : plainName "jdk/internal/util/Preconditions" = true := by first | (simp [plainName, overriddenIn]; done) | decide +kernel
set_option maxRecDepth 65536 in
set_option maxHeartbeats 40000000 in
theorem rmPXn (l : Launch) (Z : State) (a0 : Array Value) (hw : ∀ d ∈ tables_1, d.before a0 Z = true) (x0 : Int32) (nz : Int32) (h0 : Heap) (i0 : 0 ≤ x0.toInt) (i1 : x0.toInt < nz.toInt) :
    Con l Z (⟨"jdk/internal/util/Preconditions", "checkIndex", "(IILjava/util/function/BiFunction;)I"⟩ : MethodName) jdk_41_method_11_code 3 (some .int) [] ({ frames := 0, cells := 0, slots := 0, locals := 0 } : Room) #[(.int x0), (.int nz), .null] h0 (PQ (some (.int x0)) h0) := by
  refine Con.of (plainFor_of_name pn_Preconditions) ?_
  intro p e s m below meth c s₁ hx hby hml hown hnm hret hlk hZ X0 e0
  refine Go.cast (ef_19n m x0 nz) ?_
  replace hown : s.vm.findClass "jdk/internal/util/Preconditions" = some m.cls := hown
  refine Go.iloadN (pc' := 1) X0 hx hby d19_0 rfl rfl ?_
  refine Go.ifN (pc' := 4) X0 hx hby d19_1 rfl (show ¬ (x0 < 0) from by rw [Int32.lt_iff_toInt_lt, own_0]; omega) ?_
  refine Go.iloadN (pc' := 5) X0 hx hby d19_4 rfl rfl ?_
  refine Go.iloadN (pc' := 6) X0 hx hby d19_5 rfl rfl ?_
  refine Go.icmpY (pc' := 16) X0 hx hby d19_6 (by decide) (by decide) (show x0 < nz from Int32.lt_iff_toInt_lt.mpr i1) ?_
  refine Go.iloadN (pc' := 17) X0 hx hby d19_16 rfl rfl ?_
  exact Go.retI X0 hx hby hlk hret d19_17 (by decide) (by decide) ⟨rfl, rfl, e0⟩
theorem ef_19r (m : MethodId) (x0 : Int32) (x1 : Int32) (x2 : Addr) : entryFrame m #[(.int x0), (.int x1), (.ref x2)] 3 = mkF m 0 #[.val (.int x0), .val (.int x1), .val (.ref x2)] [] := by first | (simp [entryFrame, mkF, argsToLocals, Value.category]; done) | rfl
set_option maxRecDepth 65536 in
set_option maxHeartbeats 40000000 in
theorem rmPXr (l : Launch) (Z : State) (a0 : Array Value) (hw : ∀ d ∈ tables_1, d.before a0 Z = true) (x0 : Int32) (nz : Int32) (sr : Addr) (h0 : Heap) (i0 : 0 ≤ x0.toInt) (i1 : x0.toInt < nz.toInt) :
    Con l Z (⟨"jdk/internal/util/Preconditions", "checkIndex", "(IILjava/util/function/BiFunction;)I"⟩ : MethodName) jdk_41_method_11_code 3 (some .int) [] ({ frames := 0, cells := 0, slots := 0, locals := 0 } : Room) #[(.int x0), (.int nz), (.ref sr)] h0 (PQ (some (.int x0)) h0) := by
  refine Con.of (plainFor_of_name pn_Preconditions) ?_
  intro p e s m below meth c s₁ hx hby hml hown hnm hret hlk hZ X0 e0
  refine Go.cast (ef_19r m x0 nz sr) ?_
  replace hown : s.vm.findClass "jdk/internal/util/Preconditions" = some m.cls := hown
  refine Go.iloadN (pc' := 1) X0 hx hby d19_0 rfl rfl ?_
  refine Go.ifN (pc' := 4) X0 hx hby d19_1 rfl (show ¬ (x0 < 0) from by rw [Int32.lt_iff_toInt_lt, own_0]; omega) ?_
  refine Go.iloadN (pc' := 5) X0 hx hby d19_4 rfl rfl ?_
  refine Go.iloadN (pc' := 6) X0 hx hby d19_5 rfl rfl ?_
  refine Go.icmpY (pc' := 16) X0 hx hby d19_6 (by decide) (by decide) (show x0 < nz from Int32.lt_iff_toInt_lt.mpr i1) ?_
  refine Go.iloadN (pc' := 17) X0 hx hby d19_16 rfl rfl ?_
  exact Go.retI X0 hx hby hlk hret d19_17 (by decide) (by decide) ⟨rfl, rfl, e0⟩
theorem ef_18 (m : MethodId) (x0 : Int32) (x1 : Int32) : entryFrame m #[(.int x0), (.int x1)] 2 = mkF m 0 #[.val (.int x0), .val (.int x1)] [] := by first | (simp [entryFrame, mkF, argsToLocals, Value.category]; done) | rfl
set_option maxRecDepth 65536 in
set_option maxHeartbeats 40000000 in
theorem rmSB (l : Launch) (Z : State) (a0 : Array Value) (hw : ∀ d ∈ tables_1, d.before a0 Z = true) (x0 : Int32) (nz : Int32) (h0 : Heap) (n0 : Nat) (kk : Int32) (sf : Value) (O0 : Old Z n0 h0) (SS : own_S Z kk sf) (i0 : 0 ≤ x0.toInt) (i1 : x0.toInt < nz.toInt) :
    Con l Z (⟨"java/lang/String", "checkIndex", "(II)V"⟩ : MethodName) jdk_42_method_155_code 2 none [] ({ frames := 1, cells := 0, slots := 0, locals := 14 } : Room) #[(.int x0), (.int nz)] h0 (PQ none h0) := by
  refine Con.of (plainFor_of_name pn_String) ?_
  intro p e s m below meth c s₁ hx hby hml hown hnm hret hlk hZ X0 e0
  refine Go.cast (ef_18 m x0 nz) ?_
  replace hown : s.vm.findClass "java/lang/String" = some m.cls := hown
  rcases SS.2.2.2 with rfl | ⟨sr, rfl⟩
  ·
    have S4_ : Sta Z h0 "jdk/internal/util/Preconditions" "SIOOBE_FORMATTER" "Ljava/util/function/BiFunction;" .null := Sta.ext O0.2 SS.2.2.1
    refine Go.iloadN (pc' := 1) X0 hx hby d18_0 rfl rfl ?_
    refine Go.iloadN (pc' := 2) X0 hx hby d18_1 rfl rfl ?_
    refine Go.getSt (pc' := 5) X0 hx hby hZ hown (hw _ (List.mem_of_getElem? (i := 91) rfl)) Via.refl e0 S4_ d18_2 rfl ?_
    intro T1 X2 e3
    refine Go.callS (pc' := 8) (W := 0) (argsL := [(.int x0), (.int nz), .null]) (rest := []) X2 hx hby hZ hown (hw _ (List.mem_of_getElem? (i := 93) rfl)) (hw _ (List.mem_of_getElem? (i := 94) rfl)) (hw _ (List.mem_of_getElem? (i := 92) rfl)) (hw _ (List.mem_of_getElem? (i := 95) rfl)) (by decide) (rmPXn l Z a0 hw x0 nz h0 i0 i1) e3 (by decide) (by decide) (by rw [hml]; rfl) pd_14 rfl rfl rfl (Nat.le_of_eq rfl) d18_5 rfl (by decide) (by decide) ?_
    rintro r5 T6 L7 X8 ⟨rfl, rfl, e4⟩
    rw [List.append_nil] at X8
    show Go p e below _ (T6.setTop (mkF m 8 #[.val (.int x0), .val (.int nz)] [(.int x0)]))
    refine Go.pop (pc' := 9) X8 hx hby d18_8 rfl rfl ?_
    exact Go.ret0 X8 hx hby hlk hret d18_9 (by decide) (by decide) ⟨rfl, rfl, e4⟩
  ·
    have S4_ : Sta Z h0 "jdk/internal/util/Preconditions" "SIOOBE_FORMATTER" "Ljava/util/function/BiFunction;" (.ref sr) := Sta.ext O0.2 SS.2.2.1
    refine Go.iloadN (pc' := 1) X0 hx hby d18_0 rfl rfl ?_
    refine Go.iloadN (pc' := 2) X0 hx hby d18_1 rfl rfl ?_
    refine Go.getSt (pc' := 5) X0 hx hby hZ hown (hw _ (List.mem_of_getElem? (i := 91) rfl)) Via.refl e0 S4_ d18_2 rfl ?_
    intro T9 X10 e11
    refine Go.callS (pc' := 8) (W := 0) (argsL := [(.int x0), (.int nz), (.ref sr)]) (rest := []) X10 hx hby hZ hown (hw _ (List.mem_of_getElem? (i := 93) rfl)) (hw _ (List.mem_of_getElem? (i := 94) rfl)) (hw _ (List.mem_of_getElem? (i := 92) rfl)) (hw _ (List.mem_of_getElem? (i := 95) rfl)) (by decide) (rmPXr l Z a0 hw x0 nz sr h0 i0 i1) e11 (by decide) (by decide) (by rw [hml]; rfl) pd_14 rfl rfl rfl (Nat.le_of_eq rfl) d18_5 rfl (by decide) (by decide) ?_
    rintro r13 T14 L15 X16 ⟨rfl, rfl, e12⟩
    rw [List.append_nil] at X16
    show Go p e below _ (T14.setTop (mkF m 8 #[.val (.int x0), .val (.int nz)] [(.int x0)]))
    refine Go.pop (pc' := 9) X16 hx hby d18_8 rfl rfl ?_
    exact Go.ret0 X16 hx hby hlk hret d18_9 (by decide) (by decide) ⟨rfl, rfl, e12⟩
theorem ef_17 (m : MethodId) (x0 : Addr) (x1 : Int32) : entryFrame m #[(.ref x0), (.int x1)] 2 = mkF m 0 #[.val (.ref x0), .val (.int x1)] [] := by first | (simp [entryFrame, mkF, argsToLocals, Value.category]; done) | rfl
set_option maxRecDepth 65536 in
set_option maxHeartbeats 40000000 in
theorem rmLC (l : Launch) (Z : State) (a0 : Array Value) (hw : ∀ d ∈ tables_1, d.before a0 Z = true) (b : Addr) (x0 : Int32) (h0 : Heap) (n0 : Nat) (kk : Int32) (sf : Value) (nz : Int32) (cf : Int → Int32) (O0 : Old Z n0 h0) (SS : own_S Z kk sf) (i0 : 0 ≤ x0.toInt) (i1 : x0.toInt < nz.toInt) (A0 : Ar Z h0 b .byte nz.toInt (fun q => .int (cf q))) (q7 : Own7 (cf x0.toInt)) :
    Con l Z (⟨"java/lang/StringLatin1", "charAt", "([BI)C"⟩ : MethodName) jdk_43_method_2_code 2 (some .char) [] ({ frames := 2, cells := 0, slots := 0, locals := 27 } : Room) #[(.ref b), (.int x0)] h0 (PQ (some (.int (cf x0.toInt))) h0) := by
  refine Con.of (plainFor_of_name pn_StringLatin1) ?_
  intro p e s m below meth c s₁ hx hby hml hown hnm hret hlk hZ X0 e0
  refine Go.cast (ef_17 m b x0) ?_
  replace hown : s.vm.findClass "java/lang/StringLatin1" = some m.cls := hown
  refine Go.iloadN (pc' := 1) X0 hx hby d17_0 rfl rfl ?_
  refine Go.aloadN (pc' := 2) X0 hx hby d17_1 rfl rfl rfl ?_
  refine Go.alen (pc' := 3) (zv := nz) X0 hx hby hZ e0 A0 d17_2 rfl rfl ?_
  refine Go.callS (pc' := 6) (W := 0) (argsL := [(.int x0), (.int nz)]) (rest := []) X0 hx hby hZ hown (hw _ (List.mem_of_getElem? (i := 88) rfl)) (hw _ (List.mem_of_getElem? (i := 89) rfl)) (hw _ (List.mem_of_getElem? (i := 6) rfl)) (hw _ (List.mem_of_getElem? (i := 90) rfl)) (by decide) (rmSB l Z a0 hw x0 nz h0 n0 kk sf O0 SS i0 i1) e0 (by decide) (by decide) (by rw [hml]; rfl) pd_13 rfl rfl rfl (Nat.le_of_eq rfl) d17_3 rfl (by decide) (by decide) ?_
  rintro r2 T3 L4 X5 ⟨rfl, rfl, e1⟩
  rw [List.append_nil] at X5
  show Go p e below _ (T3.setTop (mkF m 6 #[.val (.ref b), .val (.int x0)] []))
  refine Go.aloadN (pc' := 7) X5 hx hby d17_6 rfl rfl rfl ?_
  refine Go.iloadN (pc' := 8) X5 hx hby d17_7 rfl rfl ?_
  refine Go.baload (pc' := 9) (i := x0.toInt) (v := (.int (cf x0.toInt))) X5 hx hby hZ e1 A0 d17_8 rfl rfl i0 i1 rfl ?_
  refine Go.sipush (pc' := 12) X5 hx hby d17_9 rfl (v := (255 : Int32)) (by decide) ?_
  refine Go.iand (pc' := 13) X5 hx hby d17_12 rfl ?_
  refine Go.i2c (pc' := 14) X5 hx hby d17_13 rfl ?_
  exact Go.retZ X5 hx hby hlk hret (by simp) d17_14 (by decide) (by decide) ⟨congrArg (fun z => some (Value.int z)) (own_gx7 q7), rfl, e1⟩
theorem ef_15 (m : MethodId) (x0 : Addr) (x1 : Int32) : entryFrame m #[(.ref x0), (.int x1)] 2 = mkF m 0 #[.val (.ref x0), .val (.int x1)] [] := by first | (simp [entryFrame, mkF, argsToLocals, Value.category]; done) | rfl
set_option maxRecDepth 65536 in
set_option maxHeartbeats 40000000 in
theorem rmCA (l : Launch) (Z : State) (a0 : Array Value) (hw : ∀ d ∈ tables_1, d.before a0 Z = true) (a : Addr) (x0 : Int32) (h0 : Heap) (n0 : Nat) (kk : Int32) (sf : Value) (b : Addr) (nz : Int32) (cf : Int → Int32) (O0 : Old Z n0 h0) (SS : own_S Z kk sf) (i0 : 0 ≤ x0.toInt) (i1 : x0.toInt < nz.toInt) (S0 : own_sx Z h0 a b nz.toInt cf) (q7 : Own7 (cf x0.toInt)) :
    Con l Z (⟨"java/lang/String", "charAt", "(I)C"⟩ : MethodName) jdk_42_method_56_code 2 (some .char) [] ({ frames := 3, cells := 0, slots := 0, locals := 40 } : Room) #[(.ref a), (.int x0)] h0 (PQ (some (.int (cf x0.toInt))) h0) := by
  refine Con.of (plainFor_of_name pn_String) ?_
  intro p e s m below meth c s₁ hx hby hml hown hnm hret hlk hZ X0 e0
  refine Go.cast (ef_15 m a x0) ?_
  replace hown : s.vm.findClass "java/lang/String" = some m.cls := hown
  obtain ⟨E0, F1, F2, A0⟩ := S0
  refine Go.aloadN (pc' := 1) X0 hx hby d15_0 rfl rfl rfl ?_
  refine Go.callV (C := "java/lang/String") (pc' := 4) (a := a) (W := 0) (argsL := []) (rest := []) X0 hx hby hZ hown (hw _ (List.mem_of_getElem? (i := 79) rfl)) (hw _ (List.mem_of_getElem? (i := 80) rfl)) (notFace_of_selects (args := #[]) (mvT hZ (hw _ (List.mem_of_getElem? (i := 82) rfl)))) (hw _ (List.mem_of_getElem? (i := 82) rfl)) (hw _ (List.mem_of_getElem? (i := 81) rfl)) (hw _ (List.mem_of_getElem? (i := 6) rfl)) (hw _ (List.mem_of_getElem? (i := 83) rfl)) (by decide) (rmIL l Z a0 hw a h0 n0 kk sf O0 SS F2) e0 E0 (by decide) (by decide) (by rw [hml]; rfl) pd_3 rfl rfl rfl (Nat.le_of_eq rfl) d15_1 rfl (by decide) (by decide) ?_
  rintro r2 T3 L4 X5 ⟨rfl, rfl, e1⟩
  rw [List.append_nil] at X5
  show Go p e below _ (T3.setTop (mkF m 4 #[.val (.ref a), .val (.int x0)] [(.int (1 : Int32))]))
  refine Go.ifN (pc' := 7) X5 hx hby d15_4 rfl (show ¬ ((1 : Int32) = 0) from by decide) ?_
  refine Go.aloadN (pc' := 8) X5 hx hby d15_7 rfl rfl rfl ?_
  refine Go.getF (pc' := 11) X5 hx hby hZ hown (hw _ (List.mem_of_getElem? (i := 35) rfl)) Via.refl e1 F1 d15_8 rfl ?_
  intro T6 X7 e8
  refine Go.iloadN (pc' := 12) X7 hx hby d15_11 rfl rfl ?_
  refine Go.callS (pc' := 15) (W := 0) (argsL := [(.ref b), (.int x0)]) (rest := []) X7 hx hby hZ hown (hw _ (List.mem_of_getElem? (i := 84) rfl)) (hw _ (List.mem_of_getElem? (i := 85) rfl)) (hw _ (List.mem_of_getElem? (i := 86) rfl)) (hw _ (List.mem_of_getElem? (i := 87) rfl)) (by decide) (rmLC l Z a0 hw b x0 h0 n0 kk sf nz cf O0 SS i0 i1 A0 q7) e8 (by decide) (by decide) (by rw [hml]; rfl) pd_18 rfl rfl rfl (Nat.le_of_eq rfl) d15_12 rfl (by decide) (by decide) ?_
  rintro r10 T11 L12 X13 ⟨rfl, rfl, e9⟩
  rw [List.append_nil] at X13
  show Go p e below _ (T11.setTop (mkF m 15 #[.val (.ref a), .val (.int x0)] [(.int (cf x0.toInt))]))
  exact Go.retZ X13 hx hby hlk hret (by simp) d15_15 (by decide) (by decide) ⟨congrArg (fun z => some (Value.int z)) (own_nc7 q7), rfl, e9⟩
theorem d21_0 : decode jdk_65_method_121_code 0 = .ok (.iload_n 1, 1) := by decide +kernel
theorem d21_1 : decode jdk_65_method_121_code 1 = .ok (.aload_n 0, 1) := by decide +kernel
theorem d21_2 : decode jdk_65_method_121_code 2 = .ok (.arraylength, 1) := by decide +kernel
theorem d21_3 : decode jdk_65_method_121_code 3 = .ok (.if_icmp .ne 11, 3) := by decide +kernel
theorem d21_6 : decode jdk_65_method_121_code 6 = .ok (.aload_n 0, 1) := by decide +kernel
theorem d21_7 : decode jdk_65_method_121_code 7 = .ok (.invokevirtual 310, 3) := by decide +kernel
theorem d21_10 : decode jdk_65_method_121_code 10 = .ok (.checkcast 311, 3) := by decide +kernel
theorem d21_13 : decode jdk_65_method_121_code 13 = .ok (.areturn, 1) := by decide +kernel
theorem d21_14 : decode jdk_65_method_121_code 14 = .ok (.iload_n 1, 1) := by decide +kernel
theorem d21_15 : decode jdk_65_method_121_code 15 = .ok (.newarray .byte, 2) := by decide +kernel
theorem d21_17 : decode jdk_65_method_121_code 17 = .ok (.astore_n 2, 1) := by decide +kernel
theorem d21_18 : decode jdk_65_method_121_code 18 = .ok (.aload_n 0, 1) := by decide +kernel
theorem d21_19 : decode jdk_65_method_121_code 19 = .ok (.iconst 0, 1) := by decide +kernel
theorem d21_20 : decode jdk_65_method_121_code 20 = .ok (.aload_n 2, 1) := by decide +kernel
theorem d21_21 : decode jdk_65_method_121_code 21 = .ok (.iconst 0, 1) := by decide +kernel
theorem d21_22 : decode jdk_65_method_121_code 22 = .ok (.aload_n 0, 1) := by decide +kernel
theorem d21_23 : decode jdk_65_method_121_code 23 = .ok (.arraylength, 1) := by decide +kernel
theorem d21_24 : decode jdk_65_method_121_code 24 = .ok (.iload_n 1, 1) := by decide +kernel
theorem d21_25 : decode jdk_65_method_121_code 25 = .ok (.invokestatic 304, 3) := by decide +kernel
theorem d21_28 : decode jdk_65_method_121_code 28 = .ok (.invokestatic 150, 3) := by decide +kernel
theorem d21_31 : decode jdk_65_method_121_code 31 = .ok (.aload_n 2, 1) := by decide +kernel
theorem d21_32 : decode jdk_65_method_121_code 32 = .ok (.areturn, 1) := by decide +kernel
theorem ef_21 (m : MethodId) (x0 : Addr) (x1 : Int32) : entryFrame m #[(.ref x0), (.int x1)] 3 = mkF m 0 #[.val (.ref x0), .val (.int x1), .unset] [] := by first | (simp [entryFrame, mkF, argsToLocals, Value.category]; done) | rfl
theorem pn_Arrays : plainName "java/util/Arrays" = true := by first | (simp [plainName, overriddenIn]; done) | decide +kernel
set_option maxRecDepth 65536 in
set_option maxHeartbeats 40000000 in
theorem rmCP (l : Launch) (Z : State) (a0 : Array Value) (hw : ∀ d ∈ tables_1, d.before a0 Z = true) (oa : Addr) (x1 : Int32) (h0 : Heap) (n0 : Nat) (cz : Int32) (Cc : Int → Int32) (Z0 : n0 ≤ h0.size) (A0 : Ar Z h0 oa .byte cz.toInt (fun q => .int (Cc q))) (y0 : ∀ q, nar .byte (Cc q) = Cc q) (i0 : 0 ≤ x1.toInt) (i1 : x1.toInt ≤ 140) (ne : x1.toInt ≠ cz.toInt) :
    Con l Z (⟨"java/util/Arrays", "copyOf", "([BI)[B"⟩ : MethodName) jdk_65_method_121_code 3 (some (.array .byte)) [] ({ frames := 1, cells := 1, slots := 140, locals := 40 } : Room) #[(.ref oa), (.int x1)] h0 (fun v h L => ∃ nb, ∃ Cn : Int → Int32, v = some (.ref nb) ∧ h0.size ≤ nb ∧ Fr n0 L ∧ Keep h0 h [] ∧ Ar Z h nb .byte x1.toInt (fun q => .int (Cn q)) ∧ (∀ q, nar .byte (Cn q) = Cn q) ∧ (∀ q, q < cz.toInt → q < x1.toInt → Cn q = Cc q)) := by
  refine Con.of (plainFor_of_name pn_Arrays) ?_
  intro p e s m below meth c s₁ hx hby hml hown hnm hret hlk hZ X0 e0
  refine Go.cast (ef_21 m oa x1) ?_
  replace hown : s.vm.findClass "java/util/Arrays" = some m.cls := hown
  refine Go.iloadN (pc' := 1) X0 hx hby d21_0 rfl rfl ?_
  refine Go.aloadN (pc' := 2) X0 hx hby d21_1 rfl rfl rfl ?_
  refine Go.alen (pc' := 3) (zv := cz) X0 hx hby hZ e0 A0 d21_2 rfl rfl ?_
  refine Go.icmpY (pc' := 14) X0 hx hby d21_3 (by decide) (by decide) (show x1 ≠ cz from fun q => ne (by rw [q])) ?_
  refine Go.iloadN (pc' := 15) X0 hx hby d21_14 rfl rfl ?_
  refine Go.newarr (pc' := 17) (cap := 140) (z := x1.toInt) X0 hx hby hZ (hw _ (List.mem_of_getElem? (i := 26) rfl)) e0 d21_15 rfl rfl i0 (by omega) (by decide) (by decide) (by decide) ?_
  intro b1 T2 h3 g4 X5 e6 E7 A8
  have n9 : oa ≠ b1 := Nat.ne_of_lt (by rw [g4]; exact A0.lt)
  have g10 : n0 ≤ b1 := by rw [g4]; exact Z0
  have f11 : Ar Z h3 oa .byte cz.toInt (fun q => .int (Cc q)) := A0.ext E7
  have z12 : n0 ≤ h3.size := Nat.le_trans Z0 E7.1
  have f13 : Ar Z h3 b1 .byte x1.toInt (fun _ => (.int 0)) := A8
  show Go p e below _ (T2.setTop (mkF m 17 #[.val (.ref oa), .val (.int x1), .unset] [(.ref b1)]))
  have gf : h0.size ≤ b1 := by rw [g4]; exact Nat.le_refl _
  have K0 : Keep h0 h3 [] := (Keep.refl h0 _).ext E7
  refine Go.astoreN (Ls' := #[.val (.ref oa), .val (.int x1), .val (.ref b1)]) (pc' := 18) X5 hx hby d21_17 rfl rfl rfl ?_
  refine Go.aloadN (pc' := 19) X5 hx hby d21_18 rfl rfl rfl ?_
  refine Go.iconst (pc' := 20) X5 hx hby d21_19 rfl (v := (0 : Int32)) (by decide) ?_
  refine Go.aloadN (pc' := 21) X5 hx hby d21_20 rfl rfl rfl ?_
  refine Go.iconst (pc' := 22) X5 hx hby d21_21 rfl (v := (0 : Int32)) (by decide) ?_
  refine Go.aloadN (pc' := 23) X5 hx hby d21_22 rfl rfl rfl ?_
  refine Go.alen (pc' := 24) (zv := cz) X5 hx hby hZ e6 f11 d21_23 rfl rfl ?_
  refine Go.iloadN (pc' := 25) X5 hx hby d21_24 rfl rfl ?_
  refine Go.callS (pc' := 28) (W := 4) (argsL := [(.int cz), (.int x1)]) (rest := [(.int (0 : Int32)), (.ref b1), (.int (0 : Int32)), (.ref oa)]) X5 hx hby hZ hown (hw _ (List.mem_of_getElem? (i := 105) rfl)) (hw _ (List.mem_of_getElem? (i := 106) rfl)) (hw _ (List.mem_of_getElem? (i := 107) rfl)) (hw _ (List.mem_of_getElem? (i := 108) rfl)) (by decide) (rmMin l Z a0 hw cz x1 h3) e6 (by decide) (by decide) (by rw [hml]; rfl) pd_11 rfl rfl rfl (Nat.le_of_eq rfl) d21_25 rfl (by decide) (by decide) ?_
  rintro r15 T16 L17 X18 ⟨rfl, rfl, e14⟩
  rw [List.append_nil] at X18
  show Go p e below _ (T16.setTop (mkF m 28 #[.val (.ref oa), .val (.int x1), .val (.ref b1)] [(.int (own_min cz x1)), (.int (0 : Int32)), (.ref b1), (.int (0 : Int32)), (.ref oa)]))
  have mI := own_minI cz x1
  have cb := A0.bound
  refine Go.acopy (pc' := 31) (zi := cz) (zi' := x1) (W := 0) X18 hx hby hZ hown (hw _ (List.mem_of_getElem? (i := 109) rfl)) (hw _ (List.mem_of_getElem? (i := 112) rfl)) (hw _ (List.mem_of_getElem? (i := 110) rfl)) (hw _ (List.mem_of_getElem? (i := 111) rfl)) e14 f11 f13 rfl rfl rfl (fun i hi => own_fb _ (y0 _)) (fun i hi => own_fb _ (by decide)) rfl (by rw [mI]; split <;> omega) (by rw [mI]; split <;> omega) (by rw [mI]; split <;> omega) (Fr.nil _) g10 (by rw [hml]; rfl) d21_28 rfl (by decide) (Nat.le_of_eq rfl) (by decide) ?_
  intro T9 h9 L9 X9 e9 N9 K9 A9
  show Go p e below _ (T9.setTop (mkF m 31 #[.val (.ref oa), .val (.int x1), .val (.ref b1)] []))
  refine Go.aloadN (pc' := 32) X9 hx hby d21_31 rfl rfl rfl ?_
  have Ab : Ar Z h9 b1 .byte x1.toInt (fun q => .int ((fun q => if q < (own_min cz x1).toInt then Cc q else 0) q)) := A9.congr (fun i h1 h2 => by dsimp only; split <;> rfl)
  exact Go.retA X9 hx hby hlk hret rfl rfl rfl d21_32 (by decide) (by decide) ⟨b1, _, rfl, gf, N9, by rw [e9]; exact K0.trans K9 (allS (Or.inr gf) all0), by rw [e9]; exact Ab, fun q => by (try dsimp only); split; exact y0 q; decide, fun q h1 h2 => by (try dsimp only); rw [if_pos (by rw [mI]; split <;> omega)]⟩
theorem d9_0 : decode prog_7_method_1_code 0 = .ok (.aload_n 0, 1) := by decide +kernel
theorem d9_1 : decode prog_7_method_1_code 1 = .ok (.invokespecial 1, 3) := by decide +kernel
theorem d9_4 : decode prog_7_method_1_code 4 = .ok (.aload_n 0, 1) := by decide +kernel
theorem d9_5 : decode prog_7_method_1_code 5 = .ok (.bipush 62, 2) := by decide +kernel
theorem d9_7 : decode prog_7_method_1_code 7 = .ok (.newarray .byte, 2) := by decide +kernel
theorem d9_9 : decode prog_7_method_1_code 9 = .ok (.putfield 9, 3) := by decide +kernel
theorem d9_12 : decode prog_7_method_1_code 12 = .ok (.return_, 1) := by decide +kernel
theorem ef_9 (m : MethodId) (x0 : Addr) : entryFrame m #[(.ref x0)] 1 = mkF m 0 #[.val (.ref x0)] [] := by first | (simp [entryFrame, mkF, argsToLocals, Value.category]; done) | rfl
theorem pn_HeaderLine : plainName "com/example/vellum_channels/vellumchannels/frame/HeaderLine" = true := by first | (simp [plainName, overriddenIn]; done) | decide +kernel
set_option maxRecDepth 65536 in
set_option maxHeartbeats 40000000 in
theorem rmHI (l : Launch) (Z : State) (a0 : Array Value) (hw : ∀ d ∈ tables_1, d.before a0 Z = true) (a : Addr) (h0 : Heap) (n0 : Nat) (Z0 : n0 ≤ h0.size) (ga : n0 ≤ a) (E1 : Exa Z h0 a "com/example/vellum_channels/vellumchannels/frame/HeaderLine") (F1 : Fld Z h0 a "com/example/vellum_channels/vellumchannels/frame/HeaderLine" "octets" "[B" .null) (F2 : Fld Z h0 a "com/example/vellum_channels/vellumchannels/frame/HeaderLine" "length" "I" (.int 0)) :
    Con l Z (⟨"com/example/vellum_channels/vellumchannels/frame/HeaderLine", "<init>", "()V"⟩ : MethodName) prog_7_method_1_code 1 none [] ({ frames := 1, cells := 1, slots := 62, locals := 12 } : Room) #[(.ref a)] h0 (fun v h L => ∃ ob, v = none ∧ h0.size ≤ ob ∧ Fr n0 L ∧ Keep h0 h [a] ∧ Exa Z h a "com/example/vellum_channels/vellumchannels/frame/HeaderLine" ∧ Fld Z h a "com/example/vellum_channels/vellumchannels/frame/HeaderLine" "octets" "[B" (.ref ob) ∧ Fld Z h a "com/example/vellum_channels/vellumchannels/frame/HeaderLine" "length" "I" (.int 0) ∧ Ar Z h ob .byte 62 (fun q => .int 0)) := by
  refine Con.of (plainFor_of_name pn_HeaderLine) ?_
  intro p e s m below meth c s₁ hx hby hml hown hnm hret hlk hZ X0 e0
  refine Go.cast (ef_9 m a) ?_
  replace hown : s.vm.findClass "com/example/vellum_channels/vellumchannels/frame/HeaderLine" = some m.cls := hown
  refine Go.aloadN (pc' := 1) X0 hx hby d9_0 rfl rfl rfl ?_
  refine Go.initO (pc' := 4) (W := 0) X0 hx hby hZ hown (hw _ (List.mem_of_getElem? (i := 46) rfl)) (hw _ (List.mem_of_getElem? (i := 19) rfl)) (hw _ (List.mem_of_getElem? (i := 20) rfl)) e0 (by rw [hml]; rfl) d9_1 rfl (by decide) (Nat.le_of_eq rfl) (by decide) ?_
  intro T1 X2 e3
  refine Go.aloadN (pc' := 5) X2 hx hby d9_4 rfl rfl rfl ?_
  refine Go.bipush (pc' := 7) X2 hx hby d9_5 rfl (v := (62 : Int32)) (by decide) ?_
  refine Go.newarr (pc' := 9) (cap := 62) (z := 62) X2 hx hby hZ (hw _ (List.mem_of_getElem? (i := 26) rfl)) e3 d9_7 rfl (by decide) (by decide) (by decide) (by decide) (by decide) (by decide) ?_
  intro b4 T5 h6 g7 X8 e9 E10 A11
  have n12 : a ≠ b4 := Nat.ne_of_lt (by rw [g7]; exact E1.lt)
  have g13 : n0 ≤ b4 := by rw [g7]; exact Z0
  have f14 : Exa Z h6 a "com/example/vellum_channels/vellumchannels/frame/HeaderLine" := Exa.ext E10 E1
  have f15 : Fld Z h6 a "com/example/vellum_channels/vellumchannels/frame/HeaderLine" "octets" "[B" .null := Fld.ext E10 F1
  have f16 : Fld Z h6 a "com/example/vellum_channels/vellumchannels/frame/HeaderLine" "length" "I" (.int 0) := Fld.ext E10 F2
  have z17 : n0 ≤ h6.size := Nat.le_trans Z0 E10.1
  have f18 : Ar Z h6 b4 .byte 62 (fun _ => (.int 0)) := A11
  show Go p e below _ (T5.setTop (mkF m 9 #[.val (.ref a)] [(.ref b4), (.ref a)]))
  have gf : h0.size ≤ b4 := by rw [g7]; exact Nat.le_refl _
  refine Go.putF (pc' := 12) (ty := (.array .byte)) X8 hx hby hZ hown (hw _ (List.mem_of_getElem? (i := 47) rfl)) Via.refl e9 f15 f14 (Or.inl (hw _ (List.mem_of_getElem? (i := 48) rfl))) (hw _ (List.mem_of_getElem? (i := 41) rfl)) (by decide) rfl rfl d9_9 rfl ?_
  intro T19 h20 X21 e22 W23
  have f24 : Exa Z h20 a "com/example/vellum_channels/vellumchannels/frame/HeaderLine" := Exa.wr W23 f14
  have f25 : Fld Z h20 a "com/example/vellum_channels/vellumchannels/frame/HeaderLine" "length" "I" (.int 0) := Fld.other W23 f16 (Or.inr (slot_ne (t := .int) (t' := (.array .byte)) (Or.inl (hw _ (List.mem_of_getElem? (i := 59) rfl))) (Or.inl (hw _ (List.mem_of_getElem? (i := 48) rfl))) (by decide) (by decide) (by decide)))
  have f26 : Ar Z h20 b4 .byte 62 (fun _ => (.int 0)) := f18.other W23 (Ne.symm n12)
  have z27 : n0 ≤ h20.size := by rw [Wr.size W23]; exact z17
  have f28 : Fld Z h20 a "com/example/vellum_channels/vellumchannels/frame/HeaderLine" "octets" "[B" (.ref b4) := Fld.same W23 f15
  have N29 : Fr n0 _ := Fr.snoc X21 (Fr.nil _) ga
  show Go p e below _ (T19.setTop (mkF m 12 #[.val (.ref a)] []))
  exact Go.ret0 X21 hx hby hlk hret d9_12 (by decide) (by decide) ⟨b4, rfl, gf, N29, by rw [e22]; exact ((Keep.refl h0 _).ext E10).wr W23 (Or.inl (List.mem_singleton.mpr rfl)), by rw [e22]; exact ⟨f24, f28, f25, f26⟩⟩
theorem d14_0 : decode prog_7_method_7_code 0 = .ok (.aload_n 0, 1) := by decide +kernel
theorem d14_1 : decode prog_7_method_7_code 1 = .ok (.getfield 28, 3) := by decide +kernel
theorem d14_4 : decode prog_7_method_7_code 4 = .ok (.iload_n 1, 1) := by decide +kernel
theorem d14_5 : decode prog_7_method_7_code 5 = .ok (.iadd, 1) := by decide +kernel
theorem d14_6 : decode prog_7_method_7_code 6 = .ok (.aload_n 0, 1) := by decide +kernel
theorem d14_7 : decode prog_7_method_7_code 7 = .ok (.getfield 9, 3) := by decide +kernel
theorem d14_10 : decode prog_7_method_7_code 10 = .ok (.arraylength, 1) := by decide +kernel
theorem d14_11 : decode prog_7_method_7_code 11 = .ok (.if_icmp .le 22, 3) := by decide +kernel
theorem d14_14 : decode prog_7_method_7_code 14 = .ok (.aload_n 0, 1) := by decide +kernel
theorem d14_15 : decode prog_7_method_7_code 15 = .ok (.aload_n 0, 1) := by decide +kernel
theorem d14_16 : decode prog_7_method_7_code 16 = .ok (.getfield 9, 3) := by decide +kernel
theorem d14_19 : decode prog_7_method_7_code 19 = .ok (.iconst 2, 1) := by decide +kernel
theorem d14_20 : decode prog_7_method_7_code 20 = .ok (.aload_n 0, 1) := by decide +kernel
theorem d14_21 : decode prog_7_method_7_code 21 = .ok (.getfield 28, 3) := by decide +kernel
theorem d14_24 : decode prog_7_method_7_code 24 = .ok (.iload_n 1, 1) := by decide +kernel
theorem d14_25 : decode prog_7_method_7_code 25 = .ok (.iadd, 1) := by decide +kernel
theorem d14_26 : decode prog_7_method_7_code 26 = .ok (.imul, 1) := by decide +kernel
theorem d14_27 : decode prog_7_method_7_code 27 = .ok (.invokestatic 49, 3) := by decide +kernel
theorem d14_30 : decode prog_7_method_7_code 30 = .ok (.putfield 9, 3) := by decide +kernel
theorem d14_33 : decode prog_7_method_7_code 33 = .ok (.return_, 1) := by decide +kernel
theorem d11_0 : decode prog_7_method_6_code 0 = .ok (.aload_n 0, 1) := by decide +kernel
theorem d11_1 : decode prog_7_method_6_code 1 = .ok (.getfield 28, 3) := by decide +kernel
theorem d11_4 : decode prog_7_method_6_code 4 = .ok (.ifCond .le 26, 3) := by decide +kernel
theorem d11_7 : decode prog_7_method_6_code 7 = .ok (.aload_n 0, 1) := by decide +kernel
theorem d11_8 : decode prog_7_method_6_code 8 = .ok (.iconst 1, 1) := by decide +kernel
theorem d11_9 : decode prog_7_method_6_code 9 = .ok (.invokevirtual 24, 3) := by decide +kernel
theorem d11_12 : decode prog_7_method_6_code 12 = .ok (.aload_n 0, 1) := by decide +kernel
theorem d11_13 : decode prog_7_method_6_code 13 = .ok (.getfield 9, 3) := by decide +kernel
theorem d11_16 : decode prog_7_method_6_code 16 = .ok (.aload_n 0, 1) := by decide +kernel
theorem d11_17 : decode prog_7_method_6_code 17 = .ok (.dup, 1) := by decide +kernel
theorem d11_18 : decode prog_7_method_6_code 18 = .ok (.getfield 28, 3) := by decide +kernel
theorem d11_21 : decode prog_7_method_6_code 21 = .ok (.dup_x1, 1) := by decide +kernel
theorem d11_22 : decode prog_7_method_6_code 22 = .ok (.iconst 1, 1) := by decide +kernel
theorem d11_23 : decode prog_7_method_6_code 23 = .ok (.iadd, 1) := by decide +kernel
theorem d11_24 : decode prog_7_method_6_code 24 = .ok (.putfield 28, 3) := by decide +kernel
theorem d11_27 : decode prog_7_method_6_code 27 = .ok (.bipush 32, 2) := by decide +kernel
theorem d11_29 : decode prog_7_method_6_code 29 = .ok (.bastore, 1) := by decide +kernel
theorem d11_30 : decode prog_7_method_6_code 30 = .ok (.return_, 1) := by decide +kernel
theorem d10_0 : decode prog_7_method_2_code 0 = .ok (.aload_n 0, 1) := by decide +kernel
theorem d10_1 : decode prog_7_method_2_code 1 = .ok (.invokevirtual 15, 3) := by decide +kernel
theorem d10_4 : decode prog_7_method_2_code 4 = .ok (.aload_n 0, 1) := by decide +kernel
theorem d10_5 : decode prog_7_method_2_code 5 = .ok (.aload_n 1, 1) := by decide +kernel
theorem d10_6 : decode prog_7_method_2_code 6 = .ok (.invokevirtual 18, 3) := by decide +kernel
theorem d10_9 : decode prog_7_method_2_code 9 = .ok (.invokevirtual 24, 3) := by decide +kernel
theorem d10_12 : decode prog_7_method_2_code 12 = .ok (.iconst 0, 1) := by decide +kernel
theorem d10_13 : decode prog_7_method_2_code 13 = .ok (.istore_n 2, 1) := by decide +kernel
theorem d10_14 : decode prog_7_method_2_code 14 = .ok (.iload_n 2, 1) := by decide +kernel
theorem d10_15 : decode prog_7_method_2_code 15 = .ok (.aload_n 1, 1) := by decide +kernel
theorem d10_16 : decode prog_7_method_2_code 16 = .ok (.invokevirtual 18, 3) := by decide +kernel
theorem d10_19 : decode prog_7_method_2_code 19 = .ok (.if_icmp .ge 31, 3) := by decide +kernel
theorem d10_22 : decode prog_7_method_2_code 22 = .ok (.aload_n 0, 1) := by decide +kernel
theorem d10_23 : decode prog_7_method_2_code 23 = .ok (.getfield 9, 3) := by decide +kernel
theorem d10_26 : decode prog_7_method_2_code 26 = .ok (.aload_n 0, 1) := by decide +kernel
theorem d10_27 : decode prog_7_method_2_code 27 = .ok (.dup, 1) := by decide +kernel
theorem d10_28 : decode prog_7_method_2_code 28 = .ok (.getfield 28, 3) := by decide +kernel
theorem d10_31 : decode prog_7_method_2_code 31 = .ok (.dup_x1, 1) := by decide +kernel
theorem d10_32 : decode prog_7_method_2_code 32 = .ok (.iconst 1, 1) := by decide +kernel
theorem d10_33 : decode prog_7_method_2_code 33 = .ok (.iadd, 1) := by decide +kernel
theorem d10_34 : decode prog_7_method_2_code 34 = .ok (.putfield 28, 3) := by decide +kernel
theorem d10_37 : decode prog_7_method_2_code 37 = .ok (.aload_n 1, 1) := by decide +kernel
theorem d10_38 : decode prog_7_method_2_code 38 = .ok (.iload_n 2, 1) := by decide +kernel
theorem d10_39 : decode prog_7_method_2_code 39 = .ok (.invokevirtual 31, 3) := by decide +kernel
theorem d10_42 : decode prog_7_method_2_code 42 = .ok (.i2b, 1) := by decide +kernel
theorem d10_43 : decode prog_7_method_2_code 43 = .ok (.bastore, 1) := by decide +kernel
theorem d10_44 : decode prog_7_method_2_code 44 = .ok (.iinc 2 1, 3) := by decide +kernel
theorem d10_47 : decode prog_7_method_2_code 47 = .ok (.goto (-33), 3) := by decide +kernel
theorem d10_50 : decode prog_7_method_2_code 50 = .ok (.aload_n 0, 1) := by decide +kernel
theorem d10_51 : decode prog_7_method_2_code 51 = .ok (.areturn, 1) := by decide +kernel
theorem d20_0 : decode prog_7_method_4_code 0 = .ok (.aload_n 0, 1) := by decide +kernel
theorem d20_1 : decode prog_7_method_4_code 1 = .ok (.getfield 9, 3) := by decide +kernel
theorem d20_4 : decode prog_7_method_4_code 4 = .ok (.aload_n 0, 1) := by decide +kernel
theorem d20_5 : decode prog_7_method_4_code 5 = .ok (.getfield 28, 3) := by decide +kernel
theorem d20_8 : decode prog_7_method_4_code 8 = .ok (.iconst 2, 1) := by decide +kernel
theorem d20_9 : decode prog_7_method_4_code 9 = .ok (.iadd, 1) := by decide +kernel
theorem d20_10 : decode prog_7_method_4_code 10 = .ok (.invokestatic 49, 3) := by decide +kernel
theorem d20_13 : decode prog_7_method_4_code 13 = .ok (.astore_n 1, 1) := by decide +kernel
theorem d20_14 : decode prog_7_method_4_code 14 = .ok (.aload_n 1, 1) := by decide +kernel
theorem d20_15 : decode prog_7_method_4_code 15 = .ok (.aload_n 0, 1) := by decide +kernel
theorem d20_16 : decode prog_7_method_4_code 16 = .ok (.getfield 28, 3) := by decide +kernel
theorem d20_19 : decode prog_7_method_4_code 19 = .ok (.bipush 13, 2) := by decide +kernel
theorem d20_21 : decode prog_7_method_4_code 21 = .ok (.bastore, 1) := by decide +kernel
theorem d20_22 : decode prog_7_method_4_code 22 = .ok (.aload_n 1, 1) := by decide +kernel
theorem d20_23 : decode prog_7_method_4_code 23 = .ok (.aload_n 0, 1) := by decide +kernel
theorem d20_24 : decode prog_7_method_4_code 24 = .ok (.getfield 28, 3) := by decide +kernel
theorem d20_27 : decode prog_7_method_4_code 27 = .ok (.iconst 1, 1) := by decide +kernel
theorem d20_28 : decode prog_7_method_4_code 28 = .ok (.iadd, 1) := by decide +kernel
theorem d20_29 : decode prog_7_method_4_code 29 = .ok (.bipush 10, 2) := by decide +kernel
theorem d20_31 : decode prog_7_method_4_code 31 = .ok (.bastore, 1) := by decide +kernel
theorem d20_32 : decode prog_7_method_4_code 32 = .ok (.aload_n 1, 1) := by decide +kernel
theorem d20_33 : decode prog_7_method_4_code 33 = .ok (.areturn, 1) := by decide +kernel
theorem d23_0 : decode method_4_code 0 = .ok (.iload 4, 2) := by decide +kernel
theorem d23_2 : decode method_4_code 2 = .ok (.iload_n 3, 1) := by decide +kernel
theorem d23_3 : decode method_4_code 3 = .ok (.if_icmp .ge 17, 3) := by decide +kernel
theorem d23_6 : decode method_4_code 6 = .ok (.aload_n 0, 1) := by decide +kernel
theorem d23_7 : decode method_4_code 7 = .ok (.iload_n 1, 1) := by decide +kernel
theorem d23_8 : decode method_4_code 8 = .ok (.iload 4, 2) := by decide +kernel
theorem d23_10 : decode method_4_code 10 = .ok (.iadd, 1) := by decide +kernel
theorem d23_11 : decode method_4_code 11 = .ok (.baload, 1) := by decide +kernel
theorem d23_12 : decode method_4_code 12 = .ok (.aload_n 2, 1) := by decide +kernel
theorem d23_13 : decode method_4_code 13 = .ok (.iload 4, 2) := by decide +kernel
theorem d23_15 : decode method_4_code 15 = .ok (.caload, 1) := by decide +kernel
theorem d23_16 : decode method_4_code 16 = .ok (.i2b, 1) := by decide +kernel
theorem d23_17 : decode method_4_code 17 = .ok (.if_icmp .ne 7, 3) := by decide +kernel
theorem d23_20 : decode method_4_code 20 = .ok (.iconst 1, 1) := by decide +kernel
theorem d23_21 : decode method_4_code 21 = .ok (.goto 4, 3) := by decide +kernel
theorem d23_24 : decode method_4_code 24 = .ok (.iconst 0, 1) := by decide +kernel
theorem d23_25 : decode method_4_code 25 = .ok (.ireturn, 1) := by decide +kernel
theorem ef_14 (m : MethodId) (x0 : Addr) (x1 : Int32) : entryFrame m #[(.ref x0), (.int x1)] 2 = mkF m 0 #[.val (.ref x0), .val (.int x1)] [] := by first | (simp [entryFrame, mkF, argsToLocals, Value.category]; done) | rfl
set_option maxRecDepth 65536 in
set_option maxHeartbeats 40000000 in
theorem rmRO (l : Launch) (Z : State) (a0 : Array Value) (hw : ∀ d ∈ tables_1, d.before a0 Z = true) (a : Addr) (x1 : Int32) (h0 : Heap) (n0 : Nat) (len cz : Int32) (Cc : Int → Int32) (ob : Addr) (Z0 : n0 ≤ h0.size) (ga : n0 ≤ a) (go : n0 ≤ ob) (E1 : Exa Z h0 a "com/example/vellum_channels/vellumchannels/frame/HeaderLine") (F1 : Fld Z h0 a "com/example/vellum_channels/vellumchannels/frame/HeaderLine" "octets" "[B" (.ref ob)) (F2 : Fld Z h0 a "com/example/vellum_channels/vellumchannels/frame/HeaderLine" "length" "I" (.int len)) (A1 : Ar Z h0 ob .byte cz.toInt (fun q => .int (Cc q))) (y1 : ∀ q, nar .byte (Cc q) = Cc q) (l0 : 0 ≤ len.toInt) (l1 : len.toInt ≤ 69) (k0 : len.toInt ≤ cz.toInt) (k1 : cz.toInt ≤ 140) (i0 : 0 ≤ x1.toInt) (i1 : x1.toInt ≤ 61) (k2 : 2 * (len.toInt + x1.toInt) ≤ 140 ∨ len.toInt + x1.toInt ≤ cz.toInt) :
    Con l Z (⟨"com/example/vellum_channels/vellumchannels/frame/HeaderLine", "room", "(I)V"⟩ : MethodName) prog_7_method_7_code 2 none [] ({ frames := 2, cells := 1, slots := 140, locals := 55 } : Room) #[(.ref a), (.int x1)] h0 (fun v h L => ∃ o1, ∃ z1 : Int32, ∃ C1 : Int → Int32, v = none ∧ Fr n0 L ∧ Keep h0 h [a] ∧ (o1 = ob ∨ h0.size ≤ o1) ∧ z1.toInt = own_rm len.toInt x1.toInt cz.toInt ∧ (∀ q, q < cz.toInt → C1 q = Cc q) ∧ n0 ≤ o1 ∧ Exa Z h a "com/example/vellum_channels/vellumchannels/frame/HeaderLine" ∧ Fld Z h a "com/example/vellum_channels/vellumchannels/frame/HeaderLine" "octets" "[B" (.ref o1) ∧ Fld Z h a "com/example/vellum_channels/vellumchannels/frame/HeaderLine" "length" "I" (.int len) ∧ Ar Z h o1 .byte z1.toInt (fun q => .int (C1 q)) ∧ (∀ q, nar .byte (C1 q) = C1 q)) := by
  refine Con.of (plainFor_of_name pn_HeaderLine) ?_
  intro p e s m below meth c s₁ hx hby hml hown hnm hret hlk hZ X0 e0
  refine Go.cast (ef_14 m a x1) ?_
  replace hown : s.vm.findClass "com/example/vellum_channels/vellumchannels/frame/HeaderLine" = some m.cls := hown
  have n1 : a ≠ ob := Ar.neExa E1 (hw _ (List.mem_of_getElem? (i := 41) rfl)) A1
  have ea := own_add len x1 l0 (by omega) i0 (by omega)
  refine Go.aloadN (pc' := 1) X0 hx hby d14_0 rfl rfl rfl ?_
  refine Go.getF (pc' := 4) X0 hx hby hZ hown (hw _ (List.mem_of_getElem? (i := 58) rfl)) Via.refl e0 F2 d14_1 rfl ?_
  intro T2 X3 e4
  refine Go.iloadN (pc' := 5) X3 hx hby d14_4 rfl rfl ?_
  refine Go.iadd (pc' := 6) X3 hx hby d14_5 rfl ?_
  refine Go.aloadN (pc' := 7) X3 hx hby d14_6 rfl rfl rfl ?_
  refine Go.getF (pc' := 10) X3 hx hby hZ hown (hw _ (List.mem_of_getElem? (i := 47) rfl)) Via.refl e4 F1 d14_7 rfl ?_
  intro T5 X6 e7
  refine Go.alen (pc' := 11) (zv := cz) X6 hx hby hZ e7 A1 d14_10 rfl rfl ?_
  refine Go.icmp (pc' := 33) (pn := 14) X6 hx hby d14_11 (by decide) (by decide) rfl (fun (tq : (len + x1) ≤ cz) => ?_) (fun (tq : ¬ ((len + x1) ≤ cz)) => ?_)
  ·
    rw [Int32.le_iff_toInt_le, ea] at tq
    exact Go.ret0 X6 hx hby hlk hret d14_33 (by decide) (by decide) ⟨ob, cz, Cc, rfl, (Fr.nil _), by rw [e7]; exact Keep.refl h0 _, Or.inl rfl, by unfold own_rm; rw [if_pos tq], fun q _ => rfl, go, by rw [e7]; exact ⟨E1, F1, F2, A1, y1⟩⟩
  ·
    rw [Int32.le_iff_toInt_le, ea] at tq
    have ed := own_dbl (len + x1) (by omega) (by omega)
    rw [ea] at ed
    refine Go.aloadN (pc' := 15) X6 hx hby d14_14 rfl rfl rfl ?_
    refine Go.aloadN (pc' := 16) X6 hx hby d14_15 rfl rfl rfl ?_
    refine Go.getF (pc' := 19) X6 hx hby hZ hown (hw _ (List.mem_of_getElem? (i := 47) rfl)) Via.refl e7 F1 d14_16 rfl ?_
    intro T8 X9 e10
    refine Go.iconst (pc' := 20) X9 hx hby d14_19 rfl (v := (2 : Int32)) (by decide) ?_
    refine Go.aloadN (pc' := 21) X9 hx hby d14_20 rfl rfl rfl ?_
    refine Go.getF (pc' := 24) X9 hx hby hZ hown (hw _ (List.mem_of_getElem? (i := 58) rfl)) Via.refl e10 F2 d14_21 rfl ?_
    intro T11 X12 e13
    refine Go.iloadN (pc' := 25) X12 hx hby d14_24 rfl rfl ?_
    refine Go.iadd (pc' := 26) X12 hx hby d14_25 rfl ?_
    refine Go.imul (pc' := 27) X12 hx hby d14_26 rfl ?_
    refine Go.callS (pc' := 30) (W := 1) (argsL := [(.ref ob), (.int ((2 : Int32) * (len + x1)))]) (rest := [(.ref a)]) X12 hx hby hZ hown (hw _ (List.mem_of_getElem? (i := 101) rfl)) (hw _ (List.mem_of_getElem? (i := 102) rfl)) (hw _ (List.mem_of_getElem? (i := 103) rfl)) (hw _ (List.mem_of_getElem? (i := 104) rfl)) (by decide) (rmCP l Z a0 hw ob ((2 : Int32) * (len + x1)) h0 n0 cz Cc Z0 A1 y1 (by omega) (by omega) (by omega)) e13 (by decide) (by decide) (by rw [hml]; rfl) pd_19 rfl rfl rfl (Nat.le_of_eq rfl) d14_27 rfl (by decide) (by decide) ?_
    rintro r14 T15 L16 X17 ⟨nb, Cn, rfl, gf, N1, K1, A2, y2, c2⟩
    have go2 : n0 ≤ nb := Nat.le_trans Z0 gf
    have nn : a ≠ nb := Nat.ne_of_lt (Nat.lt_of_lt_of_le E1.lt gf)
    have f18 : Exa Z T15.heap a "com/example/vellum_channels/vellumchannels/frame/HeaderLine" := E1.keep K1
    have f19 : Fld Z T15.heap a "com/example/vellum_channels/vellumchannels/frame/HeaderLine" "octets" "[B" (.ref ob) := F1.keep K1 nin0
    have f20 : Fld Z T15.heap a "com/example/vellum_channels/vellumchannels/frame/HeaderLine" "length" "I" (.int len) := F2.keep K1 nin0
    have f21 : Ar Z T15.heap ob .byte cz.toInt (fun q => .int (Cc q)) := A1.keep K1 nin0
    have z22 : n0 ≤ T15.heap.size := Nat.le_trans Z0 K1.1
    show Go p e below _ (T15.setTop (mkF m 30 #[.val (.ref a), .val (.int x1)] [(.ref nb), (.ref a)]))
    refine Go.putF (pc' := 33) (ty := (.array .byte)) X17 hx hby hZ hown (hw _ (List.mem_of_getElem? (i := 47) rfl)) Via.refl rfl f19 f18 (Or.inl (hw _ (List.mem_of_getElem? (i := 48) rfl))) (hw _ (List.mem_of_getElem? (i := 41) rfl)) (by decide) rfl rfl d14_30 rfl ?_
    intro T23 h24 X25 e26 W27
    have f28 : Exa Z h24 a "com/example/vellum_channels/vellumchannels/frame/HeaderLine" := Exa.wr W27 f18
    have f29 : Fld Z h24 a "com/example/vellum_channels/vellumchannels/frame/HeaderLine" "length" "I" (.int len) := Fld.other W27 f20 (Or.inr (slot_ne (t := .int) (t' := (.array .byte)) (Or.inl (hw _ (List.mem_of_getElem? (i := 59) rfl))) (Or.inl (hw _ (List.mem_of_getElem? (i := 48) rfl))) (by decide) (by decide) (by decide)))
    have f30 : Ar Z h24 nb .byte ((2 : Int32) * (len + x1)).toInt (fun q => .int (Cn q)) := A2.other W27 (Ne.symm nn)
    have z31 : n0 ≤ h24.size := by rw [Wr.size W27]; exact z22
    have f32 : Fld Z h24 a "com/example/vellum_channels/vellumchannels/frame/HeaderLine" "octets" "[B" (.ref nb) := Fld.same W27 f19
    have N33 : Fr n0 _ := Fr.snoc X25 (Fr.app (Fr.nil _) N1) ga
    show Go p e below _ (T23.setTop (mkF m 33 #[.val (.ref a), .val (.int x1)] []))
    exact Go.ret0 X25 hx hby hlk hret d14_33 (by decide) (by decide) ⟨nb, _, Cn, rfl, N33, by rw [e26]; exact ((Keep.refl h0 [a]).trans K1 all0).wr W27 (Or.inl (List.mem_singleton.mpr rfl)), Or.inr gf, by unfold own_rm; rw [if_neg tq, ed], fun q h1 => c2 q h1 (by omega), go2, by rw [e26]; exact ⟨f28, f32, f29, f30, y2⟩⟩
theorem ef_11 (m : MethodId) (x0 : Addr) : entryFrame m #[(.ref x0)] 1 = mkF m 0 #[.val (.ref x0)] [] := by first | (simp [entryFrame, mkF, argsToLocals, Value.category]; done) | rfl
set_option maxRecDepth 65536 in
set_option maxHeartbeats 40000000 in
theorem rmSP (l : Launch) (Z : State) (a0 : Array Value) (hw : ∀ d ∈ tables_1, d.before a0 Z = true) (a : Addr) (h0 : Heap) (n0 : Nat) (len cz : Int32) (Cc : Int → Int32) (ob : Addr) (Z0 : n0 ≤ h0.size) (ga : n0 ≤ a) (go : n0 ≤ ob) (E1 : Exa Z h0 a "com/example/vellum_channels/vellumchannels/frame/HeaderLine") (F1 : Fld Z h0 a "com/example/vellum_channels/vellumchannels/frame/HeaderLine" "octets" "[B" (.ref ob)) (F2 : Fld Z h0 a "com/example/vellum_channels/vellumchannels/frame/HeaderLine" "length" "I" (.int len)) (A1 : Ar Z h0 ob .byte cz.toInt (fun q => .int (Cc q))) (y1 : ∀ q, nar .byte (Cc q) = Cc q) (l0 : 0 ≤ len.toInt) (l1 : len.toInt ≤ 69) (k0 : len.toInt ≤ cz.toInt) (k1 : cz.toInt ≤ 140) :
    Con l Z (⟨"com/example/vellum_channels/vellumchannels/frame/HeaderLine", "space", "()V"⟩ : MethodName) prog_7_method_6_code 1 none [] ({ frames := 3, cells := 1, slots := 140, locals := 68 } : Room) #[(.ref a)] h0 (fun v h L => ∃ o1, ∃ z1 : Int32, ∃ C1 : Int → Int32, ∃ len1 : Int32, v = none ∧ Fr n0 L ∧ Keep h0 h [a, ob] ∧ (o1 = ob ∨ h0.size ≤ o1) ∧ len1.toInt = len.toInt + own_sp len.toInt ∧ z1.toInt = (if 0 < len.toInt then own_rm len.toInt 1 cz.toInt else cz.toInt) ∧ (∀ q, q < len.toInt → C1 q = Cc q) ∧ (∀ q, len.toInt ≤ q → q < len1.toInt → C1 q = 32) ∧ n0 ≤ o1 ∧ Exa Z h a "com/example/vellum_channels/vellumchannels/frame/HeaderLine" ∧ Fld Z h a "com/example/vellum_channels/vellumchannels/frame/HeaderLine" "octets" "[B" (.ref o1) ∧ Fld Z h a "com/example/vellum_channels/vellumchannels/frame/HeaderLine" "length" "I" (.int len1) ∧ Ar Z h o1 .byte z1.toInt (fun q => .int (C1 q)) ∧ (∀ q, nar .byte (C1 q) = C1 q)) := by
  refine Con.of (plainFor_of_name pn_HeaderLine) ?_
  intro p e s m below meth c s₁ hx hby hml hown hnm hret hlk hZ X0 e0
  refine Go.cast (ef_11 m a) ?_
  replace hown : s.vm.findClass "com/example/vellum_channels/vellumchannels/frame/HeaderLine" = some m.cls := hown
  have n1 : a ≠ ob := Ar.neExa E1 (hw _ (List.mem_of_getElem? (i := 41) rfl)) A1
  refine Go.aloadN (pc' := 1) X0 hx hby d11_0 rfl rfl rfl ?_
  refine Go.getF (pc' := 4) X0 hx hby hZ hown (hw _ (List.mem_of_getElem? (i := 58) rfl)) Via.refl e0 F2 d11_1 rfl ?_
  intro T2 X3 e4
  refine Go.if_ (pc' := 30) (pn := 7) X3 hx hby d11_4 (by decide) (by decide) rfl (fun (tq : len ≤ 0) => ?_) (fun (tq : ¬ (len ≤ 0)) => ?_)
  ·
    rw [Int32.le_iff_toInt_le, own_0] at tq
    exact Go.ret0 X3 hx hby hlk hret d11_30 (by decide) (by decide) ⟨ob, cz, Cc, len, rfl, (Fr.nil _), by rw [e4]; exact Keep.refl h0 _, Or.inl rfl, by unfold own_sp; rw [if_neg (by omega)]; omega, by rw [if_neg (by omega)], fun q _ => rfl, fun q h1 h2 => absurd h1 (by omega), go, by rw [e4]; exact ⟨E1, F1, F2, A1, y1⟩⟩
  ·
    rw [Int32.le_iff_toInt_le, own_0] at tq
    refine Go.aloadN (pc' := 8) X3 hx hby d11_7 rfl rfl rfl ?_
    refine Go.iconst (pc' := 9) X3 hx hby d11_8 rfl (v := (1 : Int32)) (by decide) ?_
    refine Go.callP (C := "com/example/vellum_channels/vellumchannels/frame/HeaderLine") (pc' := 12) (a := a) (W := 0) (argsL := [(.int (1 : Int32))]) (rest := []) X3 hx hby hZ hown (hw _ (List.mem_of_getElem? (i := 70) rfl)) (hw _ (List.mem_of_getElem? (i := 71) rfl)) (own_sel (w := (⟨"com/example/vellum_channels/vellumchannels/frame/HeaderLine", "word", "(Ljava/lang/String;)Lcom/example/vellum_channels/vellumchannels/frame/HeaderLine;"⟩ : MethodName)) (y := (⟨"com/example/vellum_channels/vellumchannels/frame/HeaderLine", "room", "(I)V"⟩ : MethodName)) (hw _ (List.mem_of_getElem? (i := 52) rfl)) rfl (hw _ (List.mem_of_getElem? (i := 72) rfl)) (hw _ (List.mem_of_getElem? (i := 71) rfl)) (by decide)) (hw _ (List.mem_of_getElem? (i := 72) rfl)) (hw _ (List.mem_of_getElem? (i := 42) rfl)) (hw _ (List.mem_of_getElem? (i := 73) rfl)) (by decide) (rmRO l Z a0 hw a 1 h0 n0 len cz Cc ob Z0 ga go E1 F1 F2 A1 y1 l0 l1 k0 k1 (by decide) (by decide) (by rw [own_1]; omega)) e4 E1 (by decide) (by decide) (by rw [hml]; rfl) pd_9 rfl rfl rfl (Nat.le_of_eq rfl) d11_9 rfl (by decide) (by decide) ?_
    rintro r5 T6 L7 X8 ⟨o1, z1, C1, rfl, N1, K1, q1, zq, cq, go1, Ea, Fa, Fb, Aa, ya⟩
    rw [own_1] at zq
    have zl : len.toInt + 1 ≤ z1.toInt := by rw [zq]; unfold own_rm; split <;> omega
    have ea : (len + 1).toInt = len.toInt + 1 := by rw [own_add len 1 l0 (by omega) (by decide) (by decide), own_1]
    have Z1 : n0 ≤ T6.heap.size := Nat.le_trans Z0 K1.1
    have n9 : a ≠ o1 := Ar.neExa Ea (hw _ (List.mem_of_getElem? (i := 41) rfl)) Aa
    show Go p e below _ (T6.setTop (mkF m 12 #[.val (.ref a)] []))
    refine Go.aloadN (pc' := 13) X8 hx hby d11_12 rfl rfl rfl ?_
    refine Go.getF (pc' := 16) X8 hx hby hZ hown (hw _ (List.mem_of_getElem? (i := 47) rfl)) Via.refl rfl Fa d11_13 rfl ?_
    intro T10 X11 e12
    refine Go.aloadN (pc' := 17) X11 hx hby d11_16 rfl rfl rfl ?_
    refine Go.dup (pc' := 18) X11 hx hby d11_17 rfl rfl ?_
    refine Go.getF (pc' := 21) X11 hx hby hZ hown (hw _ (List.mem_of_getElem? (i := 58) rfl)) Via.refl e12 Fb d11_18 rfl ?_
    intro T13 X14 e15
    refine Go.dupX1 (pc' := 22) X14 hx hby d11_21 rfl rfl rfl ?_
    refine Go.iconst (pc' := 23) X14 hx hby d11_22 rfl (v := (1 : Int32)) (by decide) ?_
    refine Go.iadd (pc' := 24) X14 hx hby d11_23 rfl ?_
    refine Go.putF (pc' := 27) (ty := .int) X14 hx hby hZ hown (hw _ (List.mem_of_getElem? (i := 58) rfl)) Via.refl e15 Fb Ea (Or.inl (hw _ (List.mem_of_getElem? (i := 59) rfl))) (hw _ (List.mem_of_getElem? (i := 41) rfl)) (by decide) rfl rfl d11_24 rfl ?_
    intro T16 h17 X18 e19 W20
    have f21 : Exa Z h17 a "com/example/vellum_channels/vellumchannels/frame/HeaderLine" := Exa.wr W20 Ea
    have f22 : Fld Z h17 a "com/example/vellum_channels/vellumchannels/frame/HeaderLine" "octets" "[B" (.ref o1) := Fld.other W20 Fa (Or.inr (slot_ne (t := (.array .byte)) (t' := .int) (Or.inl (hw _ (List.mem_of_getElem? (i := 48) rfl))) (Or.inl (hw _ (List.mem_of_getElem? (i := 59) rfl))) (by decide) (by decide) (by decide)))
    have f23 : Ar Z h17 o1 .byte z1.toInt (fun q => .int (C1 q)) := Aa.other W20 (Ne.symm n9)
    have z24 : n0 ≤ h17.size := by rw [Wr.size W20]; exact Z1
    have f25 : Fld Z h17 a "com/example/vellum_channels/vellumchannels/frame/HeaderLine" "length" "I" (.int (len + (1 : Int32))) := Fld.same W20 Fb
    have N26 : Fr n0 _ := Fr.snoc X18 (Fr.app (Fr.nil _) N1) ga
    show Go p e below _ (T16.setTop (mkF m 27 #[.val (.ref a)] [(.int len), (.ref o1)]))
    refine Go.bipush (pc' := 29) X18 hx hby d11_27 rfl (v := (32 : Int32)) (by decide) ?_
    refine Go.bastore (pc' := 30) (i := len.toInt) X18 hx hby hZ e19 f23 d11_29 rfl rfl l0 (by omega) ?_
    intro T27 h28 X29 e30 W31 A32
    have f33 : Exa Z h28 a "com/example/vellum_channels/vellumchannels/frame/HeaderLine" := Exa.wr W31 f21
    have f34 : Fld Z h28 a "com/example/vellum_channels/vellumchannels/frame/HeaderLine" "octets" "[B" (.ref o1) := Fld.other W31 f22 (Or.inl n9)
    have f35 : Fld Z h28 a "com/example/vellum_channels/vellumchannels/frame/HeaderLine" "length" "I" (.int (len + (1 : Int32))) := Fld.other W31 f25 (Or.inl n9)
    have z36 : n0 ≤ h28.size := by rw [Wr.size W31]; exact z24
    have f37 : Ar Z h28 o1 .byte z1.toInt (fun q => if q = len.toInt then (.int (nar .byte (32 : Int32))) else .int (C1 q)) := A32
    have N38 : Fr n0 _ := Fr.snoc X29 N26 go1
    show Go p e below _ (T27.setTop (mkF m 30 #[.val (.ref a)] []))
    have f39 : Ar Z h28 o1 .byte z1.toInt (fun q => .int ((fun q => if q = len.toInt then 32 else C1 q) q)) := f37.congr (fun i h1 h2 => by dsimp only; split <;> rfl)
    exact Go.ret0 X29 hx hby hlk hret d11_30 (by decide) (by decide) ⟨o1, z1, (fun q => if q = len.toInt then 32 else C1 q), len + 1, rfl, N38, by rw [e30]; exact (((Keep.refl h0 [a, ob]).trans K1 (allS (Or.inl (List.mem_cons_self ..)) all0)).wr W20 (Or.inl (List.mem_cons_self ..))).wr W31 (q1.imp (fun e => by rw [e]; simp) id), q1, by rw [ea]; unfold own_sp; rw [if_pos (by omega)], by rw [zq, if_pos (by omega)], fun q h1 => by (try dsimp only); rw [if_neg (by omega)]; exact cq q (by omega), fun q h1 h2 => by (try dsimp only); rw [if_pos (by omega)], go1, by rw [e30]; exact ⟨f33, f34, f35, f39, fun q => by (try dsimp only); split; decide; exact ya q⟩⟩
theorem ef_20 (m : MethodId) (x0 : Addr) : entryFrame m #[(.ref x0)] 2 = mkF m 0 #[.val (.ref x0), .unset] [] := by first | (simp [entryFrame, mkF, argsToLocals, Value.category]; done) | rfl
set_option maxRecDepth 65536 in
set_option maxHeartbeats 40000000 in
theorem rmTO (l : Launch) (Z : State) (a0 : Array Value) (hw : ∀ d ∈ tables_1, d.before a0 Z = true) (a : Addr) (h0 : Heap) (n0 : Nat) (len cz : Int32) (Cc : Int → Int32) (ob : Addr) (Z0 : n0 ≤ h0.size) (ga : n0 ≤ a) (go : n0 ≤ ob) (E1 : Exa Z h0 a "com/example/vellum_channels/vellumchannels/frame/HeaderLine") (F1 : Fld Z h0 a "com/example/vellum_channels/vellumchannels/frame/HeaderLine" "octets" "[B" (.ref ob)) (F2 : Fld Z h0 a "com/example/vellum_channels/vellumchannels/frame/HeaderLine" "length" "I" (.int len)) (A1 : Ar Z h0 ob .byte cz.toInt (fun q => .int (Cc q))) (y1 : ∀ q, nar .byte (Cc q) = Cc q) (l0 : 0 ≤ len.toInt) (l1 : len.toInt ≤ 69) (k0 : len.toInt ≤ cz.toInt) (k1 : cz.toInt ≤ 140) (ne : len.toInt + 2 ≠ cz.toInt) :
    Con l Z (⟨"com/example/vellum_channels/vellumchannels/frame/HeaderLine", "toOctets", "()[B"⟩ : MethodName) prog_7_method_4_code 2 (some (.array .byte)) [] ({ frames := 2, cells := 1, slots := 140, locals := 55 } : Room) #[(.ref a)] h0 (fun v h L => ∃ ra, ∃ Rr : Int → Int32, v = some (.ref ra) ∧ h0.size ≤ ra ∧ Fr n0 L ∧ Keep h0 h [] ∧ Ar Z h ra .byte (len.toInt + 2) (fun q => .int (Rr q)) ∧ (∀ q, q < len.toInt → Rr q = Cc q) ∧ Rr len.toInt = 13 ∧ Rr (len.toInt + 1) = 10) := by
  refine Con.of (plainFor_of_name pn_HeaderLine) ?_
  intro p e s m below meth c s₁ hx hby hml hown hnm hret hlk hZ X0 e0
  refine Go.cast (ef_20 m a) ?_
  replace hown : s.vm.findClass "com/example/vellum_channels/vellumchannels/frame/HeaderLine" = some m.cls := hown
  have n1 : a ≠ ob := Ar.neExa E1 (hw _ (List.mem_of_getElem? (i := 41) rfl)) A1
  have ea : (len + 2).toInt = len.toInt + 2 := by rw [own_add len 2 l0 (by omega) (by decide) (by decide), own_2]
  have eb : (len + 1).toInt = len.toInt + 1 := by rw [own_add len 1 l0 (by omega) (by decide) (by decide), own_1]
  refine Go.aloadN (pc' := 1) X0 hx hby d20_0 rfl rfl rfl ?_
  refine Go.getF (pc' := 4) X0 hx hby hZ hown (hw _ (List.mem_of_getElem? (i := 47) rfl)) Via.refl e0 F1 d20_1 rfl ?_
  intro T2 X3 e4
  refine Go.aloadN (pc' := 5) X3 hx hby d20_4 rfl rfl rfl ?_
  refine Go.getF (pc' := 8) X3 hx hby hZ hown (hw _ (List.mem_of_getElem? (i := 58) rfl)) Via.refl e4 F2 d20_5 rfl ?_
  intro T5 X6 e7
  refine Go.iconst (pc' := 9) X6 hx hby d20_8 rfl (v := (2 : Int32)) (by decide) ?_
  refine Go.iadd (pc' := 10) X6 hx hby d20_9 rfl ?_
  refine Go.callS (pc' := 13) (W := 0) (argsL := [(.ref ob), (.int (len + (2 : Int32)))]) (rest := []) X6 hx hby hZ hown (hw _ (List.mem_of_getElem? (i := 101) rfl)) (hw _ (List.mem_of_getElem? (i := 102) rfl)) (hw _ (List.mem_of_getElem? (i := 103) rfl)) (hw _ (List.mem_of_getElem? (i := 104) rfl)) (by decide) (rmCP l Z a0 hw ob (len + 2) h0 n0 cz Cc Z0 A1 y1 (by omega) (by omega) (by omega)) e7 (by decide) (by decide) (by rw [hml]; rfl) pd_19 rfl rfl rfl (Nat.le_of_eq rfl) d20_10 rfl (by decide) (by decide) ?_
  rintro r8 T9 L10 X11 ⟨nb, Cn, rfl, gf, N1, K1, A2, y2, c2⟩
  have go2 : n0 ≤ nb := Nat.le_trans Z0 gf
  have nn : a ≠ nb := Nat.ne_of_lt (Nat.lt_of_lt_of_le E1.lt gf)
  have no : ob ≠ nb := Nat.ne_of_lt (Nat.lt_of_lt_of_le A1.lt gf)
  have f12 : Exa Z T9.heap a "com/example/vellum_channels/vellumchannels/frame/HeaderLine" := E1.keep K1
  have f13 : Fld Z T9.heap a "com/example/vellum_channels/vellumchannels/frame/HeaderLine" "octets" "[B" (.ref ob) := F1.keep K1 nin0
  have f14 : Fld Z T9.heap a "com/example/vellum_channels/vellumchannels/frame/HeaderLine" "length" "I" (.int len) := F2.keep K1 nin0
  have f15 : Ar Z T9.heap ob .byte cz.toInt (fun q => .int (Cc q)) := A1.keep K1 nin0
  have z16 : n0 ≤ T9.heap.size := Nat.le_trans Z0 K1.1
  rw [ea] at A2
  show Go p e below _ (T9.setTop (mkF m 13 #[.val (.ref a), .unset] [(.ref nb)]))
  refine Go.astoreN (Ls' := #[.val (.ref a), .val (.ref nb)]) (pc' := 14) X11 hx hby d20_13 rfl rfl rfl ?_
  refine Go.aloadN (pc' := 15) X11 hx hby d20_14 rfl rfl rfl ?_
  refine Go.aloadN (pc' := 16) X11 hx hby d20_15 rfl rfl rfl ?_
  refine Go.getF (pc' := 19) X11 hx hby hZ hown (hw _ (List.mem_of_getElem? (i := 58) rfl)) Via.refl rfl f14 d20_16 rfl ?_
  intro T17 X18 e19
  refine Go.bipush (pc' := 21) X18 hx hby d20_19 rfl (v := (13 : Int32)) (by decide) ?_
  refine Go.bastore (pc' := 22) (i := len.toInt) X18 hx hby hZ e19 A2 d20_21 rfl rfl l0 (by omega) ?_
  intro T20 h21 X22 e23 W24 A25
  have f26 : Exa Z h21 a "com/example/vellum_channels/vellumchannels/frame/HeaderLine" := Exa.wr W24 f12
  have f27 : Fld Z h21 a "com/example/vellum_channels/vellumchannels/frame/HeaderLine" "octets" "[B" (.ref ob) := Fld.other W24 f13 (Or.inl nn)
  have f28 : Fld Z h21 a "com/example/vellum_channels/vellumchannels/frame/HeaderLine" "length" "I" (.int len) := Fld.other W24 f14 (Or.inl nn)
  have f29 : Ar Z h21 ob .byte cz.toInt (fun q => .int (Cc q)) := f15.other W24 no
  have z30 : n0 ≤ h21.size := by rw [Wr.size W24]; exact z16
  have f31 : Ar Z h21 nb .byte (len.toInt + 2) (fun q => if q = len.toInt then (.int (nar .byte (13 : Int32))) else .int (Cn q)) := A25
  have N32 : Fr n0 _ := Fr.snoc X22 (Fr.app (Fr.nil _) N1) go2
  show Go p e below _ (T20.setTop (mkF m 22 #[.val (.ref a), .val (.ref nb)] []))
  refine Go.aloadN (pc' := 23) X22 hx hby d20_22 rfl rfl rfl ?_
  refine Go.aloadN (pc' := 24) X22 hx hby d20_23 rfl rfl rfl ?_
  refine Go.getF (pc' := 27) X22 hx hby hZ hown (hw _ (List.mem_of_getElem? (i := 58) rfl)) Via.refl e23 f28 d20_24 rfl ?_
  intro T33 X34 e35
  refine Go.iconst (pc' := 28) X34 hx hby d20_27 rfl (v := (1 : Int32)) (by decide) ?_
  refine Go.iadd (pc' := 29) X34 hx hby d20_28 rfl ?_
  refine Go.bipush (pc' := 31) X34 hx hby d20_29 rfl (v := (10 : Int32)) (by decide) ?_
  refine Go.bastore (pc' := 32) (i := (len.toInt + 1)) X34 hx hby hZ e35 f31 d20_31 rfl eb (by omega) (by omega) ?_
  intro T36 h37 X38 e39 W40 A41
  have f42 : Exa Z h37 a "com/example/vellum_channels/vellumchannels/frame/HeaderLine" := Exa.wr W40 f26
  have f43 : Fld Z h37 a "com/example/vellum_channels/vellumchannels/frame/HeaderLine" "octets" "[B" (.ref ob) := Fld.other W40 f27 (Or.inl nn)
  have f44 : Fld Z h37 a "com/example/vellum_channels/vellumchannels/frame/HeaderLine" "length" "I" (.int len) := Fld.other W40 f28 (Or.inl nn)
  have f45 : Ar Z h37 ob .byte cz.toInt (fun q => .int (Cc q)) := f29.other W40 no
  have z46 : n0 ≤ h37.size := by rw [Wr.size W40]; exact z30
  have f47 : Ar Z h37 nb .byte (len.toInt + 2) (fun q => if q = (len.toInt + 1) then (.int (nar .byte (10 : Int32))) else if q = len.toInt then (.int (nar .byte (13 : Int32))) else .int (Cn q)) := A41
  have N48 : Fr n0 _ := Fr.snoc X38 N32 go2
  show Go p e below _ (T36.setTop (mkF m 32 #[.val (.ref a), .val (.ref nb)] []))
  refine Go.aloadN (pc' := 33) X38 hx hby d20_32 rfl rfl rfl ?_
  have f49 : Ar Z h37 nb .byte (len.toInt + 2) (fun q => .int ((fun q => if q = len.toInt + 1 then 10 else if q = len.toInt then 13 else Cn q) q)) := f47.congr (fun i h1 h2 => by dsimp only; split; rfl; split <;> rfl)
  exact Go.retA X38 hx hby hlk hret rfl rfl rfl d20_33 (by decide) (by decide) ⟨nb, (fun q => if q = len.toInt + 1 then 10 else if q = len.toInt then 13 else Cn q), rfl, gf, N48, by rw [e39]; exact (K1.wr W24 (Or.inr gf)).wr W40 (Or.inr gf), by rw [e39]; exact f49, fun q h1 => by (try dsimp only); rw [if_neg (by omega), if_neg (by omega)]; exact c2 q (by omega) (by omega), by (try dsimp only); rw [if_neg (by omega), if_pos rfl], by (try dsimp only); rw [if_pos rfl]⟩
theorem ef_23 (m : MethodId) (x0 : Addr) (x1 : Int32) (x2 : Addr) (x3 : Int32) (x4 : Int32) : entryFrame m #[(.ref x0), (.int x1), (.ref x2), (.int x3), (.int x4)] 5 = mkF m 0 #[.val (.ref x0), .val (.int x1), .val (.ref x2), .val (.int x3), .val (.int x4)] [] := by first | (simp [entryFrame, mkF, argsToLocals, Value.category]; done) | rfl
set_option maxRecDepth 65536 in
set_option maxHeartbeats 40000000 in
theorem rmSA (l : Launch) (Z : State) (a0 : Array Value) (hw : ∀ d ∈ tables_1, d.before a0 Z = true) (ra : Addr) (off : Int32) (ta : Addr) (tl : Int32) (x4 : Int32) (h0 : Heap) (zr zt : Int) (Rr Tt : Int → Int32) (A0 : Ar Z h0 ra .byte zr (fun q => .int (Rr q))) (A1 : Ar Z h0 ta .char zt (fun q => .int (Tt q))) (i0 : 0 ≤ x4.toInt) (i1 : x4.toInt ≤ 100) (o0 : 0 ≤ off.toInt) (o1 : off.toInt ≤ 100) (b0 : off.toInt + tl.toInt ≤ zr) (b1 : tl.toInt ≤ zt) (qq : x4.toInt < tl.toInt → Rr (off.toInt + x4.toInt) = Tt x4.toInt ∧ Own7 (Tt x4.toInt)) :
    Con l Z (⟨"com/example/vellum_channels/vellumchannels/frame/HeaderLineToOctetsPinLaw", "same", "([BI[CII)Z"⟩ : MethodName) method_4_code 5 (some .boolean) [] ({ frames := 0, cells := 0, slots := 0, locals := 0 } : Room) #[(.ref ra), (.int off), (.ref ta), (.int tl), (.int x4)] h0 (PQ (some (.int 1)) h0) := by
  refine Con.of (plainFor_of_name pn_HeaderLineToOctetsPinLaw) ?_
  intro p e s m below meth c s₁ hx hby hml hown hnm hret hlk hZ X0 e0
  refine Go.cast (ef_23 m ra off ta tl x4) ?_
  replace hown : s.vm.findClass "com/example/vellum_channels/vellumchannels/frame/HeaderLineToOctetsPinLaw" = some m.cls := hown
  have ea := own_add off x4 o0 (by omega) i0 (by omega)
  refine Go.iload (pc' := 2) X0 hx hby d23_0 rfl rfl ?_
  refine Go.iloadN (pc' := 3) X0 hx hby d23_2 rfl rfl ?_
  refine Go.icmp (pc' := 20) (pn := 6) X0 hx hby d23_3 (by decide) (by decide) rfl (fun (tq : tl ≤ x4) => ?_) (fun (tq : ¬ (tl ≤ x4)) => ?_)
  ·
    refine Go.iconst (pc' := 21) X0 hx hby d23_20 rfl (v := (1 : Int32)) (by decide) ?_
    refine Go.goto (pc' := 25) X0 hx hby d23_21 (by decide) (by decide) ?_
    exact Go.retZ X0 hx hby hlk hret (by simp) d23_25 (by decide) (by decide) ⟨rfl, rfl, e0⟩
  ·
    rw [Int32.le_iff_toInt_le] at tq
    obtain ⟨qa, qb⟩ := qq (by omega)
    refine Go.aloadN (pc' := 7) X0 hx hby d23_6 rfl rfl rfl ?_
    refine Go.iloadN (pc' := 8) X0 hx hby d23_7 rfl rfl ?_
    refine Go.iload (pc' := 10) X0 hx hby d23_8 rfl rfl ?_
    refine Go.iadd (pc' := 11) X0 hx hby d23_10 rfl ?_
    refine Go.baload (pc' := 12) (i := (off.toInt + x4.toInt)) (v := (.int (Rr (off.toInt + x4.toInt)))) X0 hx hby hZ e0 A0 d23_11 rfl ea (by omega) (by omega) rfl ?_
    refine Go.aloadN (pc' := 13) X0 hx hby d23_12 rfl rfl rfl ?_
    refine Go.iload (pc' := 15) X0 hx hby d23_13 rfl rfl ?_
    refine Go.caload (pc' := 16) (i := x4.toInt) (v := (.int (Tt x4.toInt))) X0 hx hby hZ e0 A1 d23_15 rfl rfl i0 (by omega) rfl ?_
    refine Go.i2b (pc' := 17) X0 hx hby d23_16 rfl ?_
    refine Go.icmpN (pc' := 20) X0 hx hby d23_17 rfl (show ¬ ((Rr (off.toInt + x4.toInt)) ≠ ((Tt x4.toInt).toInt8.toInt32)) from fun z => z (by rw [qa, own_b7 qb])) ?_
    refine Go.iconst (pc' := 21) X0 hx hby d23_20 rfl (v := (1 : Int32)) (by decide) ?_
    refine Go.goto (pc' := 25) X0 hx hby d23_21 (by decide) (by decide) ?_
    exact Go.retZ X0 hx hby hlk hret (by simp) d23_25 (by decide) (by decide) ⟨rfl, rfl, e0⟩
theorem own_sx.keep {Z : State} {h h' : Heap} {su b : Addr} {n : Int} {cf : Int → Int32} {ws : List Addr} (S : own_sx Z h su b n cf) (K : Keep h h' ws) (h1 : su ∉ ws) (h2 : b ∉ ws) : own_sx Z h' su b n cf := ⟨S.1.keep K, S.2.1.keep K h1, S.2.2.1.keep K h1, S.2.2.2.keep K h2⟩
theorem own_sx.ext {Z : State} {h h' : Heap} {su b : Addr} {n : Int} {cf : Int → Int32} (S : own_sx Z h su b n cf) (E : Ext h h') : own_sx Z h' su b n cf := ⟨Exa.ext E S.1, Fld.ext E S.2.1, Fld.ext E S.2.2.1, S.2.2.2.ext E⟩
theorem own_sx.word {Z : State} {a0 : Array Value} {h h' : Heap} {su b a ob o1 : Addr} {n z : Int} {cf : Int → Int32} {f : Int → Value} (hw : ∀ d ∈ tables_1, d.before a0 Z = true) (S : own_sx Z h su b n cf) (K : Keep h h' [a, ob]) (E : Exa Z h a "com/example/vellum_channels/vellumchannels/frame/HeaderLine") (A : Ar Z h ob .byte z f) (nb : b ≠ ob) (q : o1 = ob ∨ h.size ≤ o1) : own_sx Z h' su b n cf ∧ b ≠ o1 := by
  have n1 : su ≠ a := Exa.ne S.1 E (by decide)
  have n2 : su ≠ ob := Ar.neExa S.1 (hw _ (List.mem_of_getElem? (i := 5) rfl)) A
  have n3 : b ≠ a := Ne.symm (Ar.neExa E (hw _ (List.mem_of_getElem? (i := 41) rfl)) S.2.2.2)
  refine ⟨S.keep K (ninS n1 (ninS n2 nin0)) (ninS n3 (ninS nb nin0)), ?_⟩
  rcases q with rfl | q
  · exact nb
  · exact Nat.ne_of_lt (Nat.lt_of_lt_of_le S.2.2.2.lt q)
theorem ef_10 (m : MethodId) (x0 : Addr) (x1 : Addr) : entryFrame m #[(.ref x0), (.ref x1)] 3 = mkF m 0 #[.val (.ref x0), .val (.ref x1), .unset] [] := by first | (simp [entryFrame, mkF, argsToLocals, Value.category]; done) | rfl
set_option maxRecDepth 65536 in
set_option maxHeartbeats 40000000 in
theorem rmWO (l : Launch) (Z : State) (a0 : Array Value) (hw : ∀ d ∈ tables_1, d.before a0 Z = true) (a : Addr) (su : Addr) (h0 : Heap) (n0 : Nat) (kk : Int32) (sf : Value) (len cz : Int32) (Cc : Int → Int32) (ob : Addr) (sb : Addr) (nz : Int32) (cf : Int → Int32) (O0 : Old Z n0 h0) (SS : own_S Z kk sf) (Z0 : n0 ≤ h0.size) (ga : n0 ≤ a) (go : n0 ≤ ob) (E1 : Exa Z h0 a "com/example/vellum_channels/vellumchannels/frame/HeaderLine") (F1 : Fld Z h0 a "com/example/vellum_channels/vellumchannels/frame/HeaderLine" "octets" "[B" (.ref ob)) (F2 : Fld Z h0 a "com/example/vellum_channels/vellumchannels/frame/HeaderLine" "length" "I" (.int len)) (A1 : Ar Z h0 ob .byte cz.toInt (fun q => .int (Cc q))) (y1 : ∀ q, nar .byte (Cc q) = Cc q) (l0 : 0 ≤ len.toInt) (l1 : len.toInt ≤ 69) (k0 : len.toInt ≤ cz.toInt) (k1 : cz.toInt ≤ 140) (S0 : own_sx Z h0 su sb nz.toInt cf) (r7 : ∀ q, 0 ≤ q → q < nz.toInt → Own7 (cf q)) (nb : sb ≠ ob) (m0 : 0 ≤ nz.toInt) (m1 : nz.toInt ≤ 61) (l2 : len.toInt ≤ 68) (k2 : 2 * (len.toInt + own_sp len.toInt + nz.toInt) ≤ 140 ∨ len.toInt + own_sp len.toInt + nz.toInt ≤ cz.toInt) :
    Con l Z (⟨"com/example/vellum_channels/vellumchannels/frame/HeaderLine", "word", "(Ljava/lang/String;)Lcom/example/vellum_channels/vellumchannels/frame/HeaderLine;"⟩ : MethodName) prog_7_method_2_code 3 (some (.object "com/example/vellum_channels/vellumchannels/frame/HeaderLine")) [] ({ frames := 4, cells := 2, slots := 280, locals := 80 } : Room) #[(.ref a), (.ref su)] h0 (fun v h L => ∃ o1, ∃ z1 : Int32, ∃ C1 : Int → Int32, ∃ len1 : Int32, v = some (.ref a) ∧ Fr n0 L ∧ Keep h0 h [a, ob] ∧ (o1 = ob ∨ h0.size ≤ o1) ∧ len1.toInt = len.toInt + own_sp len.toInt + nz.toInt ∧ z1.toInt = own_cap len.toInt nz.toInt cz.toInt ∧ (∀ q, 0 ≤ q → q < len1.toInt → C1 q = own_w len.toInt Cc cf q) ∧ n0 ≤ o1 ∧ Exa Z h a "com/example/vellum_channels/vellumchannels/frame/HeaderLine" ∧ Fld Z h a "com/example/vellum_channels/vellumchannels/frame/HeaderLine" "octets" "[B" (.ref o1) ∧ Fld Z h a "com/example/vellum_channels/vellumchannels/frame/HeaderLine" "length" "I" (.int len1) ∧ Ar Z h o1 .byte z1.toInt (fun q => .int (C1 q)) ∧ (∀ q, nar .byte (C1 q) = C1 q)) := by
  refine Con.of (plainFor_of_name pn_HeaderLine) ?_
  intro p e s m below meth c s₁ hx hby hml hown hnm hret hlk hZ X0 e0
  refine Go.cast (ef_10 m a su) ?_
  replace hown : s.vm.findClass "com/example/vellum_channels/vellumchannels/frame/HeaderLine" = some m.cls := hown
  have n1 : a ≠ ob := Ar.neExa E1 (hw _ (List.mem_of_getElem? (i := 41) rfl)) A1
  refine Go.aloadN (pc' := 1) X0 hx hby d10_0 rfl rfl rfl ?_
  refine Go.callP (C := "com/example/vellum_channels/vellumchannels/frame/HeaderLine") (pc' := 4) (a := a) (W := 0) (argsL := []) (rest := []) X0 hx hby hZ hown (hw _ (List.mem_of_getElem? (i := 54) rfl)) (hw _ (List.mem_of_getElem? (i := 55) rfl)) (own_sel (w := (⟨"com/example/vellum_channels/vellumchannels/frame/HeaderLine", "word", "(Ljava/lang/String;)Lcom/example/vellum_channels/vellumchannels/frame/HeaderLine;"⟩ : MethodName)) (y := (⟨"com/example/vellum_channels/vellumchannels/frame/HeaderLine", "space", "()V"⟩ : MethodName)) (hw _ (List.mem_of_getElem? (i := 52) rfl)) rfl (hw _ (List.mem_of_getElem? (i := 56) rfl)) (hw _ (List.mem_of_getElem? (i := 55) rfl)) (by decide)) (hw _ (List.mem_of_getElem? (i := 56) rfl)) (hw _ (List.mem_of_getElem? (i := 42) rfl)) (hw _ (List.mem_of_getElem? (i := 57) rfl)) (by decide) (rmSP l Z a0 hw a h0 n0 len cz Cc ob Z0 ga go E1 F1 F2 A1 y1 l0 l1 k0 k1) e0 E1 (by decide) (by decide) (by rw [hml]; rfl) pd_2 rfl rfl rfl (Nat.le_of_eq rfl) d10_1 rfl (by decide) (by decide) ?_
  rintro r2 T3 L4 X5 ⟨o1, z1, C1, len1, rfl, N1, K1, q1, lq, zq, cq, dq, go1, Ea, Fa, Fb, Aa, ya⟩
  obtain ⟨S1, nb1⟩ := own_sx.word hw S0 K1 E1 A1 nb q1
  have O1 := O0.keep K1 (allS ga (allS go all0))
  have Z1 : n0 ≤ T3.heap.size := Nat.le_trans Z0 K1.1
  have sp0 : 0 ≤ own_sp len.toInt ∧ own_sp len.toInt ≤ 1 ∧ (own_sp len.toInt = 1 ↔ 0 < len.toInt) := by unfold own_sp; split <;> omega
  have zc : cz.toInt ≤ z1.toInt ∧ len1.toInt ≤ z1.toInt ∧ z1.toInt ≤ 140 := by rw [zq, lq]; unfold own_rm; (repeat' split) <;> omega
  show Go p e below _ (T3.setTop (mkF m 4 #[.val (.ref a), .val (.ref su), .unset] []))
  refine Go.aloadN (pc' := 5) X5 hx hby d10_4 rfl rfl rfl ?_
  refine Go.aloadN (pc' := 6) X5 hx hby d10_5 rfl rfl rfl ?_
  refine Go.callV (C := "java/lang/String") (pc' := 9) (a := su) (W := 1) (argsL := []) (rest := [(.ref a)]) X5 hx hby hZ hown (hw _ (List.mem_of_getElem? (i := 60) rfl)) (hw _ (List.mem_of_getElem? (i := 61) rfl)) (notFace_of_selects (args := #[]) (mvT hZ (hw _ (List.mem_of_getElem? (i := 63) rfl)))) (hw _ (List.mem_of_getElem? (i := 63) rfl)) (hw _ (List.mem_of_getElem? (i := 62) rfl)) (hw _ (List.mem_of_getElem? (i := 6) rfl)) (hw _ (List.mem_of_getElem? (i := 64) rfl)) (by decide) (rmLE l Z a0 hw su T3.heap n0 kk sf sb nz cf O1 SS S1) rfl S1.1 (by decide) (by decide) (by rw [hml]; rfl) pd_1 rfl rfl rfl (Nat.le_of_eq rfl) d10_6 rfl (by decide) (by decide) ?_
  rintro r7 T8 L9 X10 ⟨rfl, rfl, e6⟩
  rw [List.append_nil] at X10
  show Go p e below _ (T8.setTop (mkF m 9 #[.val (.ref a), .val (.ref su), .unset] [(.int nz), (.ref a)]))
  refine Go.callP (C := "com/example/vellum_channels/vellumchannels/frame/HeaderLine") (pc' := 12) (a := a) (W := 0) (argsL := [(.int nz)]) (rest := []) X10 hx hby hZ hown (hw _ (List.mem_of_getElem? (i := 70) rfl)) (hw _ (List.mem_of_getElem? (i := 71) rfl)) (own_sel (w := (⟨"com/example/vellum_channels/vellumchannels/frame/HeaderLine", "word", "(Ljava/lang/String;)Lcom/example/vellum_channels/vellumchannels/frame/HeaderLine;"⟩ : MethodName)) (y := (⟨"com/example/vellum_channels/vellumchannels/frame/HeaderLine", "room", "(I)V"⟩ : MethodName)) (hw _ (List.mem_of_getElem? (i := 52) rfl)) rfl (hw _ (List.mem_of_getElem? (i := 72) rfl)) (hw _ (List.mem_of_getElem? (i := 71) rfl)) (by decide)) (hw _ (List.mem_of_getElem? (i := 72) rfl)) (hw _ (List.mem_of_getElem? (i := 42) rfl)) (hw _ (List.mem_of_getElem? (i := 73) rfl)) (by decide) (rmRO l Z a0 hw a nz T3.heap n0 len1 z1 C1 o1 Z1 ga go1 Ea Fa Fb Aa ya (by omega) (by omega) (by omega) (by omega) m0 m1 (by omega)) e6 Ea (by decide) (by decide) (by rw [hml]; rfl) pd_9 rfl rfl rfl (Nat.le_of_eq rfl) d10_9 rfl (by decide) (by decide) ?_
  rintro r11 T12 L13 X14 ⟨o2, z2, C2, rfl, N2, K2, q2, zq2, cq2, go2, Eb, Fc, Fd, Ab, yb⟩
  have n1a : su ≠ a := Exa.ne S1.1 Ea (by decide)
  have n1b : sb ≠ a := Ne.symm (Ar.neExa Ea (hw _ (List.mem_of_getElem? (i := 41) rfl)) S1.2.2.2)
  have S2 := S1.keep K2 (ninS n1a nin0) (ninS n1b nin0)
  have nb2 : sb ≠ o2 := by rcases q2 with rfl | q2; exact nb1; exact Nat.ne_of_lt (Nat.lt_of_lt_of_le S1.2.2.2.lt q2)
  have n1c : su ≠ o2 := Ar.neExa S2.1 (hw _ (List.mem_of_getElem? (i := 5) rfl)) Ab
  have n1d : a ≠ o2 := Ar.neExa Eb (hw _ (List.mem_of_getElem? (i := 41) rfl)) Ab
  have O2 := O1.keep K2 (allS ga all0)
  have Z2 : n0 ≤ T12.heap.size := Nat.le_trans Z1 K2.1
  have qo : o2 = ob ∨ h0.size ≤ o2 := by rcases q2 with rfl | q2; exact q1; exact Or.inr (Nat.le_trans K1.1 q2)
  have zl : len1.toInt + nz.toInt ≤ z2.toInt ∧ z1.toInt ≤ z2.toInt := by rw [zq2]; unfold own_rm; split <;> omega
  show Go p e below _ (T12.setTop (mkF m 12 #[.val (.ref a), .val (.ref su), .unset] []))
  refine Go.iconst (pc' := 13) X14 hx hby d10_12 rfl (v := (0 : Int32)) (by decide) ?_
  refine Go.istoreN (Ls' := #[.val (.ref a), .val (.ref su), .val (.int (0 : Int32))]) (pc' := 14) X14 hx hby d10_13 rfl rfl ?_
  refine Go.loop (α := State × Heap × List Loc × Int32 × Int32 × (Int → Int32)) (F := fun y => y.1.setTop (mkF m 14 #[.val (.ref a), .val (.ref su), .val (.int y.2.2.2.1)] [])) (I := fun y => (Stand p l e ({ frames := 4, cells := 2, slots := 280, locals := 80 } : Room) s m #[(.ref a), (.ref su)] below meth c y.1 y.2.2.1 2 280) ∧ (y.1.heap = y.2.1) ∧ (Fr n0 y.2.2.1) ∧ (0 ≤ y.2.2.2.1.toInt ∧ y.2.2.2.1.toInt ≤ nz.toInt) ∧ (y.2.2.2.2.1.toInt = len1.toInt + y.2.2.2.1.toInt) ∧ (Keep T12.heap y.2.1 [a, o2]) ∧ (Exa Z y.2.1 a "com/example/vellum_channels/vellumchannels/frame/HeaderLine") ∧ (Fld Z y.2.1 a "com/example/vellum_channels/vellumchannels/frame/HeaderLine" "octets" "[B" (.ref o2)) ∧ (Fld Z y.2.1 a "com/example/vellum_channels/vellumchannels/frame/HeaderLine" "length" "I" (.int y.2.2.2.2.1)) ∧ (Ar Z y.2.1 o2 .byte z2.toInt (fun q => .int (y.2.2.2.2.2 q))) ∧ (∀ q, nar .byte (y.2.2.2.2.2 q) = y.2.2.2.2.2 q) ∧ (own_sx Z y.2.1 su sb nz.toInt cf) ∧ (Old Z n0 y.2.1) ∧ (n0 ≤ y.2.1.size) ∧ (∀ q, q < len1.toInt → y.2.2.2.2.2 q = C2 q) ∧ (∀ q, 0 ≤ q → q < y.2.2.2.1.toInt → y.2.2.2.2.2 (len1.toInt + q) = cf q)) (μ := fun y => (nz.toInt - y.2.2.2.1.toInt).toNat) ?_ (T12, T12.heap, _, 0, len1, C2) ⟨X14, rfl, (Fr.app (Fr.app (Fr.nil _) N1) N2), by (try dsimp only); rw [own_0]; omega, by (try dsimp only); rw [own_0]; omega, Keep.refl _ _, Eb, Fc, Fd, Ab, yb, S2, O2, Z2, fun q _ => rfl, fun q h1 h2 => absurd h2 (by (try dsimp only); rw [own_0]; omega)⟩
  rintro ⟨T15, h16, L17, i, ln, Ci⟩ ⟨X18, e19, N20, hi, hq, Ki, Ei, Fi, Gi, Ai, yi, Si, Oi, Zi, ci, di⟩ ih
  dsimp only at X18 e19 N20 hi hq Ki Ei Fi Gi Ai yi Si Oi Zi ci di
  show Go p e below _ (T15.setTop (mkF m 14 #[.val (.ref a), .val (.ref su), .val (.int i)] []))
  refine Go.iloadN (pc' := 15) X18 hx hby d10_14 rfl rfl ?_
  refine Go.aloadN (pc' := 16) X18 hx hby d10_15 rfl rfl rfl ?_
  refine Go.callV (C := "java/lang/String") (pc' := 19) (a := su) (W := 1) (argsL := []) (rest := [(.int i)]) X18 hx hby hZ hown (hw _ (List.mem_of_getElem? (i := 60) rfl)) (hw _ (List.mem_of_getElem? (i := 61) rfl)) (notFace_of_selects (args := #[]) (mvT hZ (hw _ (List.mem_of_getElem? (i := 63) rfl)))) (hw _ (List.mem_of_getElem? (i := 63) rfl)) (hw _ (List.mem_of_getElem? (i := 62) rfl)) (hw _ (List.mem_of_getElem? (i := 6) rfl)) (hw _ (List.mem_of_getElem? (i := 64) rfl)) (by decide) (rmLE l Z a0 hw su h16 n0 kk sf sb nz cf Oi SS Si) e19 Si.1 (by decide) (by decide) (by rw [hml]; rfl) pd_1 rfl rfl rfl (Nat.le_of_eq rfl) d10_16 rfl (by decide) (by decide) ?_
  rintro r22 T23 L24 X25 ⟨rfl, rfl, e21⟩
  rw [List.append_nil] at X25
  show Go p e below _ (T23.setTop (mkF m 19 #[.val (.ref a), .val (.ref su), .val (.int i)] [(.int nz), (.int i)]))
  refine Go.icmp (pc' := 50) (pn := 22) X25 hx hby d10_19 (by decide) (by decide) rfl (fun (tq : nz ≤ i) => ?_) (fun (tq : ¬ (nz ≤ i)) => ?_)
  ·
    rw [Int32.le_iff_toInt_le] at tq
    refine Go.aloadN (pc' := 51) X25 hx hby d10_50 rfl rfl rfl ?_
    exact Go.retA X25 hx hby hlk hret rfl rfl rfl d10_51 (by decide) (by decide) ⟨o2, z2, Ci, ln, rfl, N20, by rw [e21]; exact (K1.trans K2 (allS (Or.inl (List.mem_cons_self ..)) all0)).trans Ki (allS (Or.inl (List.mem_cons_self ..)) (allS (qo.imp (fun e => by rw [e]; simp) id) all0)), qo, by omega, by rw [zq2, lq, zq]; rfl, fun q h1 h2 => by
        unfold own_w
        by_cases g1 : q < len.toInt
        · rw [if_pos g1, ci q (by omega), cq2 q (by omega), cq q g1]
        · rw [if_neg g1]
          by_cases g2 : q < len.toInt + own_sp len.toInt
          · rw [if_pos g2, ci q (by omega), cq2 q (by omega), dq q (by omega) (by omega)]
          · rw [if_neg g2, ← di (q - len.toInt - own_sp len.toInt) (by omega) (by omega)]
            congr 1; omega, go2, by rw [e21]; exact ⟨Ei, Fi, Gi, Ai, yi⟩⟩
  ·
    rw [Int32.le_iff_toInt_le] at tq
    have e7 := r7 i.toInt hi.1 (by omega)
    have e1 : (i + 1).toInt = i.toInt + 1 := by rw [own_add i 1 hi.1 (by omega) (by decide) (by decide), own_1]
    have e2 : (ln + 1).toInt = ln.toInt + 1 := by rw [own_add ln 1 (by omega) (by omega) (by decide) (by decide), own_1]
    refine Go.aloadN (pc' := 23) X25 hx hby d10_22 rfl rfl rfl ?_
    refine Go.getF (pc' := 26) X25 hx hby hZ hown (hw _ (List.mem_of_getElem? (i := 47) rfl)) Via.refl e21 Fi d10_23 rfl ?_
    intro T26 X27 e28
    refine Go.aloadN (pc' := 27) X27 hx hby d10_26 rfl rfl rfl ?_
    refine Go.dup (pc' := 28) X27 hx hby d10_27 rfl rfl ?_
    refine Go.getF (pc' := 31) X27 hx hby hZ hown (hw _ (List.mem_of_getElem? (i := 58) rfl)) Via.refl e28 Gi d10_28 rfl ?_
    intro T29 X30 e31
    refine Go.dupX1 (pc' := 32) X30 hx hby d10_31 rfl rfl rfl ?_
    refine Go.iconst (pc' := 33) X30 hx hby d10_32 rfl (v := (1 : Int32)) (by decide) ?_
    refine Go.iadd (pc' := 34) X30 hx hby d10_33 rfl ?_
    refine Go.putF (pc' := 37) (ty := .int) X30 hx hby hZ hown (hw _ (List.mem_of_getElem? (i := 58) rfl)) Via.refl e31 Gi Ei (Or.inl (hw _ (List.mem_of_getElem? (i := 59) rfl))) (hw _ (List.mem_of_getElem? (i := 41) rfl)) (by decide) rfl rfl d10_34 rfl ?_
    intro T32 h33 X34 e35 W36
    have f37 : Old Z n0 h33 := Oi.wr W36 ga
    have f38 : Exa Z h33 a "com/example/vellum_channels/vellumchannels/frame/HeaderLine" := Exa.wr W36 Ei
    have f39 : Fld Z h33 a "com/example/vellum_channels/vellumchannels/frame/HeaderLine" "octets" "[B" (.ref o2) := Fld.other W36 Fi (Or.inr (slot_ne (t := (.array .byte)) (t' := .int) (Or.inl (hw _ (List.mem_of_getElem? (i := 48) rfl))) (Or.inl (hw _ (List.mem_of_getElem? (i := 59) rfl))) (by decide) (by decide) (by decide)))
    have f40 : Ar Z h33 o2 .byte z2.toInt (fun q => .int (Ci q)) := Ai.other W36 (Ne.symm n1d)
    have f41 : Exa Z h33 su "java/lang/String" := Exa.wr W36 Si.1
    have f42 : Fld Z h33 su "java/lang/String" "value" "[B" (.ref sb) := Fld.other W36 Si.2.1 (Or.inl n1a)
    have f43 : Fld Z h33 su "java/lang/String" "coder" "B" (.int 0) := Fld.other W36 Si.2.2.1 (Or.inl n1a)
    have f44 : Ar Z h33 sb .byte nz.toInt (fun q => .int (cf q)) := Si.2.2.2.other W36 n1b
    have z45 : n0 ≤ h33.size := by rw [Wr.size W36]; exact Zi
    have f46 : Fld Z h33 a "com/example/vellum_channels/vellumchannels/frame/HeaderLine" "length" "I" (.int (ln + (1 : Int32))) := Fld.same W36 Gi
    have N47 : Fr n0 _ := Fr.snoc X34 N20 ga
    show Go p e below _ (T32.setTop (mkF m 37 #[.val (.ref a), .val (.ref su), .val (.int i)] [(.int ln), (.ref o2)]))
    refine Go.aloadN (pc' := 38) X34 hx hby d10_37 rfl rfl rfl ?_
    refine Go.iloadN (pc' := 39) X34 hx hby d10_38 rfl rfl ?_
    refine Go.callV (C := "java/lang/String") (pc' := 42) (a := su) (W := 2) (argsL := [(.int i)]) (rest := [(.int ln), (.ref o2)]) X34 hx hby hZ hown (hw _ (List.mem_of_getElem? (i := 74) rfl)) (hw _ (List.mem_of_getElem? (i := 75) rfl)) (notFace_of_selects (args := #[]) (mvT hZ (hw _ (List.mem_of_getElem? (i := 77) rfl)))) (hw _ (List.mem_of_getElem? (i := 77) rfl)) (hw _ (List.mem_of_getElem? (i := 76) rfl)) (hw _ (List.mem_of_getElem? (i := 6) rfl)) (hw _ (List.mem_of_getElem? (i := 78) rfl)) (by decide) (rmCA l Z a0 hw su i h33 n0 kk sf sb nz cf f37 SS hi.1 (by omega) ⟨f41, f42, f43, f44⟩ e7) e35 f41 (by decide) (by decide) (by rw [hml]; rfl) pd_8 rfl rfl rfl (Nat.le_of_eq rfl) d10_39 rfl (by decide) (by decide) ?_
    rintro r49 T50 L51 X52 ⟨rfl, rfl, e48⟩
    rw [List.append_nil] at X52
    show Go p e below _ (T50.setTop (mkF m 42 #[.val (.ref a), .val (.ref su), .val (.int i)] [(.int (cf i.toInt)), (.int ln), (.ref o2)]))
    refine Go.i2b (pc' := 43) X52 hx hby d10_42 rfl ?_
    refine Go.bastore (pc' := 44) (i := ln.toInt) X52 hx hby hZ e48 f40 d10_43 rfl rfl (by omega) (by omega) ?_
    intro T53 h54 X55 e56 W57 A58
    have f59 : Old Z n0 h54 := f37.wr W57 go2
    have f60 : Exa Z h54 a "com/example/vellum_channels/vellumchannels/frame/HeaderLine" := Exa.wr W57 f38
    have f61 : Fld Z h54 a "com/example/vellum_channels/vellumchannels/frame/HeaderLine" "octets" "[B" (.ref o2) := Fld.other W57 f39 (Or.inl n1d)
    have f62 : Fld Z h54 a "com/example/vellum_channels/vellumchannels/frame/HeaderLine" "length" "I" (.int (ln + (1 : Int32))) := Fld.other W57 f46 (Or.inl n1d)
    have f63 : Exa Z h54 su "java/lang/String" := Exa.wr W57 f41
    have f64 : Fld Z h54 su "java/lang/String" "value" "[B" (.ref sb) := Fld.other W57 f42 (Or.inl n1c)
    have f65 : Fld Z h54 su "java/lang/String" "coder" "B" (.int 0) := Fld.other W57 f43 (Or.inl n1c)
    have f66 : Ar Z h54 sb .byte nz.toInt (fun q => .int (cf q)) := f44.other W57 nb2
    have z67 : n0 ≤ h54.size := by rw [Wr.size W57]; exact z45
    have f68 : Ar Z h54 o2 .byte z2.toInt (fun q => if q = ln.toInt then (.int (nar .byte ((cf i.toInt).toInt8.toInt32))) else .int (Ci q)) := A58
    have N69 : Fr n0 _ := Fr.snoc X55 N47 go2
    show Go p e below _ (T53.setTop (mkF m 44 #[.val (.ref a), .val (.ref su), .val (.int i)] []))
    have f70 : Ar Z h54 o2 .byte z2.toInt (fun q => .int ((fun q => if q = ln.toInt then cf i.toInt else Ci q) q)) := f68.congr (fun j h1 h2 => by dsimp only; split; rw [own_b7 e7, own_n7 e7]; rfl)
    refine Go.iinc (w := i + (1 : Int32)) (Ls' := #[.val (.ref a), .val (.ref su), .val (.int (i + (1 : Int32)))]) (pc' := 47) X55 hx hby d10_44 rfl rfl rfl rfl ?_
    refine Go.goto (pc' := 14) X55 hx hby d10_47 (by decide) (by decide) ?_
    exact ih (T53, h54, _, i + 1, ln + 1, (fun q => if q = ln.toInt then cf i.toInt else Ci q)) ⟨X55, e56, N69, by (try dsimp only); omega, by (try dsimp only); omega, (Ki.wr W36 (Or.inl (List.mem_cons_self ..))).wr W57 (Or.inl (by simp)), f60, f61, f62, f70, fun q => by (try dsimp only); split; exact own_n7 e7; exact yi q, ⟨f63, f64, f65, f66⟩, f59, z67, fun q h1 => by (try dsimp only); rw [if_neg (by omega)]; exact ci q h1, fun q h1 h2 => by
        (try dsimp only at h2 ⊢)
        by_cases g : q = i.toInt
        · rw [if_pos (by omega), g]
        · rw [if_neg (by omega)]; exact di q h1 (by omega)⟩ (by (try dsimp only); omega)
def own_pl : List Int32 := "ABCDEFGHIJKLMNOPQRSTUVWXYZabcdefghijklmnopqrstuvwxyz012345678".toList.map (fun c => Jvm.Lit.byteI c.toNat.toUInt16)
def own_pc (q : Int) : Int32 := own_pl.getD q.toNat 0
theorem own_pt : "ABCDEFGHIJKLMNOPQRSTUVWXYZabcdefghijklmnopqrstuvwxyz012345678".toList.map (fun c => Value.int (Jvm.Lit.byteI c.toNat.toUInt16)) = own_pl.map Value.int := by unfold own_pl; rw [List.map_map]; rfl
theorem own_pz : (61 : Int32).toNatClampNeg = (own_pl.map Value.int).length := by rw [List.length_map]; decide +kernel
theorem own_pa : ∀ c ∈ "ABCDEFGHIJKLMNOPQRSTUVWXYZabcdefghijklmnopqrstuvwxyz012345678".toList, c.toNat < 256 := by decide +kernel
theorem own_pn : 4 * ("ABCDEFGHIJKLMNOPQRSTUVWXYZabcdefghijklmnopqrstuvwxyz012345678".toList.length) ≤ 244 := by decide +kernel
theorem own_pv (q : Int) : (own_pl.map Value.int).getD q.toNat (.int 0) = .int (own_pc q) := by
  unfold own_pc
  rw [List.getD_eq_getElem?_getD, List.getD_eq_getElem?_getD, List.getElem?_map]
  cases own_pl[q.toNat]? <;> rfl
theorem own_p7 (q : Int) (h0 : 0 ≤ q) (h1 : q < (61 : Int32).toInt) : Own7 (own_pc q) := by
  have key : ∀ n < 61, Own7 (own_pl.getD n 0) := by decide +kernel
  have z : (61 : Int32).toInt = 61 := by decide
  exact key q.toNat (by omega)
def own_t0 (x : Int32) (q : Int) : Int32 := own_cf x q
def own_t1 (x : Int32) (q : Int) : Int32 := if q = 0 then 32 else own_cf x (q - 1)
def own_tb (M SP : Int) (t1 : Int → Int32) (x : Int32) (q : Int) : Int32 := if q < M then t1 q else if q < M + SP then 32 else own_cf x (q - M - SP)
theorem own_t07 (x : Int32) (q : Int) : Own7 (own_t0 x q) := own_cfr _ _
theorem own_t17 (x : Int32) (q : Int) : Own7 (own_t1 x q) := by unfold own_t1; split; decide; exact own_cfr _ _
theorem own_tb7 (M SP : Int) (t1 : Int → Int32) (x : Int32) (h : ∀ q, Own7 (t1 q)) (q : Int) : Own7 (own_tb M SP t1 x q) := by unfold own_tb; (repeat' split); exact h q; decide; exact own_cfr _ _
theorem own_n3 {x : Int32} (h : x = 0 ∨ x = 1 ∨ x = 2 ∨ x = 3) : 0 ≤ x.toInt ∧ x.toInt ≤ 3 := by rcases h with rfl | rfl | rfl | rfl <;> decide
theorem own_nc32 : nar .char (32 : Int32) = 32 := by decide
theorem own_nc13 : nar .char (13 : Int32) = 13 := by decide
theorem own_nc10 : nar .char (10 : Int32) = 10 := by decide
theorem own_eqi {args : Array Value} {first s : State} {o : Option Outcome} {idx : List Nat} {t : Jvm.Term} {n k : Int32} (h : (Jvm.Cond.not (Jvm.Cond.eq t (.int n))).value args first o s idx = some true) (ev : t.eval args first o idx s = some (.int k)) : k ≠ n := by
  have q := not_v h
  simpa [Cond.value, Term.eval, ev] using q
theorem ef_0 (m : MethodId) (x0 : Int32) (x1 : Int32) (x2 : Int32) : entryFrame m #[(.int x0), (.int x1), (.int x2)] maxLocals = mkF m 0 #[.val (.int x0), .val (.int x1), .val (.int x2), .unset, .unset, .unset, .unset, .unset, .unset, .unset, .unset, .unset, .unset, .unset, .unset, .unset] [] := by first | (simp [entryFrame, mkF, argsToLocals, Value.category, maxLocals]; done) | rfl
set_option maxRecDepth 65536 in
set_option maxHeartbeats 40000000 in
theorem rm0 (l : Launch) (Z : State) (a0 : Array Value) (hw : ∀ d ∈ tables_1, d.before a0 Z = true) (x0 : Int32) (x1 : Int32) (x2 : Int32) (h0 : Heap) (kk : Int32) (sf : Value) (O0 : Old Z h0.size h0) (SS : own_S Z kk sf) :
    ConH l Z own_EL x code maxLocals ret tables_1 room_1 #[(.int x0), (.int x1), (.int x2)] h0 (LQ h0.size) := by
  refine ConH.of (plainFor_of_name pn_HeaderLineToOctetsPinLaw) ?_
  intro p e s m below meth c s₁ hx hby hml hown hnm hret hlk hZ hS hC X0 e0
  refine Go.cast (ef_0 m x0 x1 x2) ?_
  change c.maxLocals = 16 at hml
  replace hown : (s.setVm s.vm).vm.findClass "com/example/vellum_channels/vellumchannels/frame/HeaderLineToOctetsPinLaw" = some m.cls := hown
  have v0 : (0 : Int32).toInt = 0 := by decide
  have v1 : (1 : Int32).toInt = 1 := by decide
  have v61 : (61 : Int32).toInt = 61 := by decide
  have v62 : (62 : Int32).toInt = 62 := by decide
  refine Go.iloadN (pc' := 1) X0 hx hby at_0 rfl rfl ?_
  refine Go.iconst (pc' := 2) X0 hx hby at_1 rfl (v := (3 : Int32)) (by decide) ?_
  refine Go.iand (pc' := 3) X0 hx hby at_2 rfl ?_
  refine Go.nmI (fun (n1 : Int32) (hn1 : n1 = x2 &&& (3 : Int32)) => ?_)
  refine Go.istoreN (Ls' := #[.val (.int x0), .val (.int x1), .val (.int x2), .val (.int n1), .unset, .unset, .unset, .unset, .unset, .unset, .unset, .unset, .unset, .unset, .unset, .unset]) (pc' := 4) X0 hx hby at_3 rfl rfl ?_
  refine Go.iloadN (pc' := 5) X0 hx hby at_4 rfl rfl ?_
  refine Go.iconst (pc' := 6) X0 hx hby at_5 rfl (v := (2 : Int32)) (by decide) ?_
  refine Go.iushr (pc' := 7) X0 hx hby at_6 rfl ?_
  refine Go.iconst (pc' := 8) X0 hx hby at_7 rfl (v := (3 : Int32)) (by decide) ?_
  refine Go.iand (pc' := 9) X0 hx hby at_8 rfl ?_
  refine Go.nmI (fun (n2 : Int32) (hn2 : n2 = ((x2.toUInt32 >>> ((2 : Int32) &&& 31).toUInt32).toInt32) &&& (3 : Int32)) => ?_)
  refine Go.istore (Ls' := #[.val (.int x0), .val (.int x1), .val (.int x2), .val (.int n1), .val (.int n2), .unset, .unset, .unset, .unset, .unset, .unset, .unset, .unset, .unset, .unset, .unset]) (pc' := 11) X0 hx hby at_9 rfl rfl ?_
  refine Go.iloadN (pc' := 12) X0 hx hby at_11 rfl rfl ?_
  refine Go.iconst (pc' := 13) X0 hx hby at_12 rfl (v := (4 : Int32)) (by decide) ?_
  refine Go.iushr (pc' := 14) X0 hx hby at_13 rfl ?_
  refine Go.iconst (pc' := 15) X0 hx hby at_14 rfl (v := (1 : Int32)) (by decide) ?_
  refine Go.iand (pc' := 16) X0 hx hby at_15 rfl ?_
  have d1 := own_n4 _ hn1
  have d2 := own_n4 _ hn2
  have b1 := own_n3 d1
  have b2 := own_n3 d2
  clear hn1 hn2
  have sp1 : (0 < n1.toInt ∧ own_sp n1.toInt = 1) ∨ (n1.toInt = 0 ∧ own_sp n1.toInt = 0) := by unfold own_sp; split <;> omega
  refine Go.if_ (pc' := 23) (pn := 19) X0 hx hby at_16 (by decide) (by decide) rfl (fun (tp : (((x2.toUInt32 >>> ((4 : Int32) &&& 31).toUInt32).toInt32) &&& (1 : Int32)) = 0) => ?_) (fun (tp : ¬ ((((x2.toUInt32 >>> ((4 : Int32) &&& 31).toUInt32).toInt32) &&& (1 : Int32)) = 0)) => ?_)
  ·
    refine Go.iconst (pc' := 24) X0 hx hby at_23 rfl (v := (0 : Int32)) (by decide) ?_
    refine Go.istore (Ls' := #[.val (.int x0), .val (.int x1), .val (.int x2), .val (.int n1), .val (.int n2), .val (.int (0 : Int32)), .unset, .unset, .unset, .unset, .unset, .unset, .unset, .unset, .unset, .unset]) (pc' := 26) X0 hx hby at_24 rfl rfl ?_
    refine Go.iloadN (pc' := 27) X0 hx hby at_26 rfl rfl ?_
    refine Go.iconst (pc' := 28) X0 hx hby at_27 rfl (v := (5 : Int32)) (by decide) ?_
    refine Go.iushr (pc' := 29) X0 hx hby at_28 rfl ?_
    refine Go.iconst (pc' := 30) X0 hx hby at_29 rfl (v := (1 : Int32)) (by decide) ?_
    refine Go.iand (pc' := 31) X0 hx hby at_30 rfl ?_
    refine Go.if_ (pc' := 38) (pn := 34) X0 hx hby at_31 (by decide) (by decide) rfl (fun (ts : (((x2.toUInt32 >>> ((5 : Int32) &&& 31).toUInt32).toInt32) &&& (1 : Int32)) = 0) => ?_) (fun (ts : ¬ ((((x2.toUInt32 >>> ((5 : Int32) &&& 31).toUInt32).toInt32) &&& (1 : Int32)) = 0)) => ?_)
    ·
      refine Go.iconst (pc' := 39) X0 hx hby at_38 rfl (v := (0 : Int32)) (by decide) ?_
      refine Go.istore (Ls' := #[.val (.int x0), .val (.int x1), .val (.int x2), .val (.int n1), .val (.int n2), .val (.int (0 : Int32)), .val (.int (0 : Int32)), .unset, .unset, .unset, .unset, .unset, .unset, .unset, .unset, .unset]) (pc' := 41) X0 hx hby at_39 rfl rfl ?_
      refine Go.iloadN (pc' := 42) X0 hx hby at_41 rfl rfl ?_
      refine Go.iloadN (pc' := 43) X0 hx hby at_42 rfl rfl ?_
      refine Go.callSR (pc' := 46) (W := 0) (argsL := [(.int x0), (.int n1)]) (rest := []) X0 hx hby hZ hown (hw _ (List.mem_of_getElem? (i := 0) rfl)) (hw _ (List.mem_of_getElem? (i := 1) rfl)) (hw _ (List.mem_of_getElem? (i := 2) rfl)) (hw _ (List.mem_of_getElem? (i := 3) rfl)) (by decide) (rmMK l Z a0 hw x0 n1 h0 h0.size kk sf O0 SS (Nat.le_refl _) d1) e0 (by decide) (by decide) (by rw [hml]; rfl) pd_12 rfl rfl rfl (Nat.le_of_eq rfl) at_43 rfl (by decide) (by decide) hS (Nat.zero_le _) (own_ew hw) hC (by simp) ?_
      rintro r1 T2 L3 X4 S5 hZ6 hown7 g8 ⟨⟨s1, t1, rfl, N1, K1, S1⟩, R1⟩
      have O1 := O0.keep K1 all0
      show Go p e below _ (T2.setTop (mkF m 46 #[.val (.int x0), .val (.int x1), .val (.int x2), .val (.int n1), .val (.int n2), .val (.int (0 : Int32)), .val (.int (0 : Int32)), .unset, .unset, .unset, .unset, .unset, .unset, .unset, .unset, .unset] [(.ref s1)]))
      refine Go.astore (Ls' := #[.val (.int x0), .val (.int x1), .val (.int x2), .val (.int n1), .val (.int n2), .val (.int (0 : Int32)), .val (.int (0 : Int32)), .val (.ref s1), .unset, .unset, .unset, .unset, .unset, .unset, .unset, .unset]) (pc' := 48) X4 hx hby at_46 rfl rfl rfl ?_
      refine Go.iloadN (pc' := 49) X4 hx hby at_48 rfl rfl ?_
      refine Go.iload (pc' := 51) X4 hx hby at_49 rfl rfl ?_
      refine Go.callSR (pc' := 54) (W := 0) (argsL := [(.int x1), (.int n2)]) (rest := []) X4 hx hby hZ6 hown7 (hw _ (List.mem_of_getElem? (i := 0) rfl)) (hw _ (List.mem_of_getElem? (i := 1) rfl)) (hw _ (List.mem_of_getElem? (i := 2) rfl)) (hw _ (List.mem_of_getElem? (i := 3) rfl)) (by decide) (rmMK l Z a0 hw x1 n2 T2.heap h0.size kk sf O1 SS K1.1 d2) rfl (by decide) (by decide) (by rw [hml]; rfl) pd_12 rfl rfl rfl (Nat.le_of_eq rfl) at_51 rfl (by decide) (by decide) S5 (Nat.le_refl _) (own_ew hw) R1.1 (by simp) ?_
      rintro r9 T10 L11 X12 S13 hZ14 hown15 g16 ⟨⟨s2, t2, rfl, N2, K2, S2⟩, R2⟩
      replace S1 := S1.keep K2 nin0 nin0
      have O2 := O1.keep K2 all0
      have Z2 : h0.size ≤ T10.heap.size := Nat.le_trans K1.1 K2.1
      show Go p e below _ (T10.setTop (mkF m 54 #[.val (.int x0), .val (.int x1), .val (.int x2), .val (.int n1), .val (.int n2), .val (.int (0 : Int32)), .val (.int (0 : Int32)), .val (.ref s1), .unset, .unset, .unset, .unset, .unset, .unset, .unset, .unset] [(.ref s2)]))
      refine Go.astore (Ls' := #[.val (.int x0), .val (.int x1), .val (.int x2), .val (.int n1), .val (.int n2), .val (.int (0 : Int32)), .val (.int (0 : Int32)), .val (.ref s1), .val (.ref s2), .unset, .unset, .unset, .unset, .unset, .unset, .unset]) (pc' := 56) X12 hx hby at_54 rfl rfl rfl ?_
      refine Go.new_ (pc' := 59) X12 hx hby hZ14 hown15 (hw _ (List.mem_of_getElem? (i := 40) rfl)) (hw _ (List.mem_of_getElem? (i := 41) rfl)) (hw _ (List.mem_of_getElem? (i := 42) rfl)) rfl at_56 rfl (by decide) (by decide) ?_
      intro b17 T18 h19 g20 X21 e22 E23 A24 D25
      have g26 : h0.size ≤ b17 := by rw [g20]; exact Z2
      have f27 : Old Z h0.size h19 := O2.ext E23
      have z28 : h0.size ≤ h19.size := Nat.le_trans Z2 E23.1
      have hk29 : T10.heap.size ≤ h19.size := Nat.le_trans (Nat.le_refl _) E23.1
      have f30 : Exa Z h19 b17 "com/example/vellum_channels/vellumchannels/frame/HeaderLine" := A24
      have f31 : Fld Z h19 b17 "com/example/vellum_channels/vellumchannels/frame/HeaderLine" "octets" "[B" .null := D25 (Or.inl (hw _ (List.mem_of_getElem? (i := 48) rfl))) (ty := (.array .byte)) (by decide)
      have f32 : Fld Z h19 b17 "com/example/vellum_channels/vellumchannels/frame/HeaderLine" "length" "I" (.int 0) := D25 (Or.inl (hw _ (List.mem_of_getElem? (i := 59) rfl))) (ty := .int) (by decide)
      show Go p e below _ (T18.setTop (mkF m 59 #[.val (.int x0), .val (.int x1), .val (.int x2), .val (.int n1), .val (.int n2), .val (.int (0 : Int32)), .val (.int (0 : Int32)), .val (.ref s1), .val (.ref s2), .unset, .unset, .unset, .unset, .unset, .unset, .unset] [(.ref b17)]))
      have gA : T10.heap.size ≤ b17 := by rw [g20]; exact Nat.le_refl _
      replace S1 := S1.ext E23
      replace S2 := S2.ext E23
      refine Go.dup (pc' := 60) X21 hx hby at_59 rfl rfl ?_
      refine Go.callI (pc' := 63) (a := b17) (W := 1) (argsL := []) (rest := [(.ref b17)]) X21 hx hby rfl hZ14 hown15 (hw _ (List.mem_of_getElem? (i := 43) rfl)) (hw _ (List.mem_of_getElem? (i := 44) rfl)) (hw _ (List.mem_of_getElem? (i := 42) rfl)) (hw _ (List.mem_of_getElem? (i := 45) rfl)) (by decide) (rmHI l Z a0 hw b17 h19 h0.size z28 g26 f30 f31 f32) e22 (by decide) (by decide) (by rw [hml]; rfl) pd_2 rfl rfl rfl (Nat.le_of_eq rfl) at_60 rfl (by decide) (by decide) ?_
      rintro r33 T34 L35 X36 ⟨ob, rfl, gf, N3, K3, Ew, Fw, Gw, Aw⟩
      have K24 : Keep T10.heap T34.heap [] := ((Keep.refl T10.heap []).ext E23).trans K3 (allS (Or.inr gA) all0)
      have gob : T10.heap.size ≤ ob := Nat.le_trans E23.1 gf
      have nt1 : t1 ≠ ob := Nat.ne_of_lt (Nat.lt_of_lt_of_le S1.2.2.2.lt gf)
      replace S1 := S1.keep K3 (ninS (Exa.ne S1.1 f30 (by decide)) nin0) (ninS (Ne.symm (Ar.neExa f30 (hw _ (List.mem_of_getElem? (i := 41) rfl)) S1.2.2.2)) nin0)
      have nt2 : t2 ≠ ob := Nat.ne_of_lt (Nat.lt_of_lt_of_le S2.2.2.2.lt gf)
      replace S2 := S2.keep K3 (ninS (Exa.ne S2.1 f30 (by decide)) nin0) (ninS (Ne.symm (Ar.neExa f30 (hw _ (List.mem_of_getElem? (i := 41) rfl)) S2.2.2.2)) nin0)
      have Ow := f27.keep K3 (allS g26 all0)
      have Zw : h0.size ≤ T34.heap.size := Nat.le_trans z28 K3.1
      have hkw : T10.heap.size ≤ T34.heap.size := Nat.le_trans hk29 K3.1
      have gow : h0.size ≤ ob := Nat.le_trans Z2 gob
      show Go p e below _ (T34.setTop (mkF m 63 #[.val (.int x0), .val (.int x1), .val (.int x2), .val (.int n1), .val (.int n2), .val (.int (0 : Int32)), .val (.int (0 : Int32)), .val (.ref s1), .val (.ref s2), .unset, .unset, .unset, .unset, .unset, .unset, .unset] [(.ref b17)]))
      refine Go.astore (Ls' := #[.val (.int x0), .val (.int x1), .val (.int x2), .val (.int n1), .val (.int n2), .val (.int (0 : Int32)), .val (.int (0 : Int32)), .val (.ref s1), .val (.ref s2), .val (.ref b17), .unset, .unset, .unset, .unset, .unset, .unset]) (pc' := 65) X36 hx hby at_63 rfl rfl rfl ?_
      refine Go.iload (pc' := 67) X36 hx hby at_65 rfl rfl ?_
      refine Go.ifY (pc' := 78) X36 hx hby at_67 (by decide) (by decide) (show (0 : Int32) = 0 from by decide) ?_
      refine Go.aload (pc' := 80) X36 hx hby at_78 rfl rfl rfl ?_
      refine Go.aload (pc' := 82) X36 hx hby at_80 rfl rfl rfl ?_
      refine Go.callV (C := "com/example/vellum_channels/vellumchannels/frame/HeaderLine") (pc' := 85) (a := b17) (W := 0) (argsL := [(.ref s1)]) (rest := []) X36 hx hby hZ14 hown15 (hw _ (List.mem_of_getElem? (i := 49) rfl)) (hw _ (List.mem_of_getElem? (i := 50) rfl)) (notFace_of_selects (args := #[]) (mvT hZ14 (hw _ (List.mem_of_getElem? (i := 52) rfl)))) (hw _ (List.mem_of_getElem? (i := 52) rfl)) (hw _ (List.mem_of_getElem? (i := 51) rfl)) (hw _ (List.mem_of_getElem? (i := 42) rfl)) (hw _ (List.mem_of_getElem? (i := 53) rfl)) (by decide) (rmWO l Z a0 hw b17 s1 T34.heap h0.size kk sf (0 : Int32) (62 : Int32) (fun _ => (0 : Int32)) ob t1 n1 (own_cf x0) Ow SS Zw g26 gow Ew Fw Gw Aw (fun q => by decide) (by omega) (by omega) (by omega) (by omega) S1 (fun q _ _ => own_cfr x0 q) nt1 (by omega) (by omega) (by omega) (by first | omega | (unfold own_sp; split <;> omega))) rfl Ew (by decide) (by decide) (by rw [hml]; rfl) pd_15 rfl rfl rfl (Nat.le_of_eq rfl) at_82 rfl (by decide) (by decide) ?_
      rintro r37 T38 L39 X40 ⟨o0_, z0_, C0_, ln0_, rfl, Nw0_, Kw0_, qo0_, lq0_, zq0_, cq0_, go0_, Ex0_, Fx0_, Gx0_, Ax0_, yw0_⟩
      obtain ⟨S2', nt2'⟩ := own_sx.word hw S2 Kw0_ Ew Aw nt2 qo0_
      clear S2 nt2
      have S2 := S2'
      have nt2 := nt2'
      clear S2' nt2'
      have lv0_ : ln0_.toInt = n1.toInt := by rw [lq0_]; first | omega | (unfold own_sp; split <;> omega)
      have zv0_ : z0_.toInt = 62 := by rw [zq0_]; unfold own_cap own_rm own_sp; (repeat' split) <;> omega
      replace Ow := Ow.keep Kw0_ (allS g26 (allS gow all0))
      replace Zw : h0.size ≤ T38.heap.size := Nat.le_trans Zw Kw0_.1
      have hkw0_ : T10.heap.size ≤ T38.heap.size := Nat.le_trans hkw Kw0_.1
      clear Ew Fw Gw Aw gow
      have Ew := Ex0_
      have Fw := Fx0_
      have Gw := Gx0_
      have Aw := Ax0_
      have gow := go0_
      show Go p e below _ (T38.setTop (mkF m 85 #[.val (.int x0), .val (.int x1), .val (.int x2), .val (.int n1), .val (.int n2), .val (.int (0 : Int32)), .val (.int (0 : Int32)), .val (.ref s1), .val (.ref s2), .val (.ref b17), .unset, .unset, .unset, .unset, .unset, .unset] [(.ref b17)]))
      refine Go.pop (pc' := 86) X40 hx hby at_85 rfl rfl ?_
      refine Go.iload (pc' := 88) X40 hx hby at_86 rfl rfl ?_
      refine Go.ifY (pc' := 99) X40 hx hby at_88 (by decide) (by decide) (show (0 : Int32) = 0 from by decide) ?_
      refine Go.aload (pc' := 101) X40 hx hby at_99 rfl rfl rfl ?_
      have c1s : ∀ j : Int, 0 ≤ j → j < (0 + n1.toInt) → C0_ (0 + j) = own_t0 x0 j := by
        intro j h1 h2
        rw [cq0_ _ (by omega) (by omega)]
        unfold own_w own_sp own_t0; rw [v0, if_neg (by omega), if_neg (by omega), if_neg (by omega)]; congr 1; omega
      refine Go.callV (C := "com/example/vellum_channels/vellumchannels/frame/HeaderLine") (pc' := 104) (a := b17) (W := 0) (argsL := []) (rest := []) X40 hx hby hZ14 hown15 (hw _ (List.mem_of_getElem? (i := 96) rfl)) (hw _ (List.mem_of_getElem? (i := 97) rfl)) (notFace_of_selects (args := #[]) (mvT hZ14 (hw _ (List.mem_of_getElem? (i := 99) rfl)))) (hw _ (List.mem_of_getElem? (i := 99) rfl)) (hw _ (List.mem_of_getElem? (i := 98) rfl)) (hw _ (List.mem_of_getElem? (i := 42) rfl)) (hw _ (List.mem_of_getElem? (i := 100) rfl)) (by decide) (rmTO l Z a0 hw b17 T38.heap h0.size ln0_ z0_ C0_ o0_ Zw g26 gow Ew Fw Gw Aw yw0_ (by omega) (by omega) (by omega) (by omega) (by omega)) rfl Ew (by decide) (by decide) (by rw [hml]; rfl) pd_4 rfl rfl rfl (Nat.le_of_eq rfl) at_101 rfl (by decide) (by decide) ?_
      rintro r41 T42 L43 X44 ⟨r1, Rr1, rfl, gr1, Nr1, Kr1, Ar1, cr1, rl1, rm1⟩
      replace Ew := Ew.keep Kr1
      replace Fw := Fw.keep Kr1 nin0
      replace Gw := Gw.keep Kr1 nin0
      replace Aw := Aw.keep Kr1 nin0
      replace Zw : h0.size ≤ T42.heap.size := Nat.le_trans Zw Kr1.1
      have hkr1 : T10.heap.size ≤ T42.heap.size := Nat.le_trans hkw0_ Kr1.1
      show Go p e below _ (T42.setTop (mkF m 104 #[.val (.int x0), .val (.int x1), .val (.int x2), .val (.int n1), .val (.int n2), .val (.int (0 : Int32)), .val (.int (0 : Int32)), .val (.ref s1), .val (.ref s2), .val (.ref b17), .unset, .unset, .unset, .unset, .unset, .unset] [(.ref r1)]))
      refine Go.astore (Ls' := #[.val (.int x0), .val (.int x1), .val (.int x2), .val (.int n1), .val (.int n2), .val (.int (0 : Int32)), .val (.int (0 : Int32)), .val (.ref s1), .val (.ref s2), .val (.ref b17), .val (.ref r1), .unset, .unset, .unset, .unset, .unset]) (pc' := 106) X44 hx hby at_104 rfl rfl rfl ?_
      refine Go.aload (pc' := 108) X44 hx hby at_106 rfl rfl rfl ?_
      refine Go.callV (C := "com/example/vellum_channels/vellumchannels/frame/HeaderLine") (pc' := 111) (a := b17) (W := 0) (argsL := []) (rest := []) X44 hx hby hZ14 hown15 (hw _ (List.mem_of_getElem? (i := 96) rfl)) (hw _ (List.mem_of_getElem? (i := 97) rfl)) (notFace_of_selects (args := #[]) (mvT hZ14 (hw _ (List.mem_of_getElem? (i := 99) rfl)))) (hw _ (List.mem_of_getElem? (i := 99) rfl)) (hw _ (List.mem_of_getElem? (i := 98) rfl)) (hw _ (List.mem_of_getElem? (i := 42) rfl)) (hw _ (List.mem_of_getElem? (i := 100) rfl)) (by decide) (rmTO l Z a0 hw b17 T42.heap h0.size ln0_ z0_ C0_ o0_ Zw g26 gow Ew Fw Gw Aw yw0_ (by omega) (by omega) (by omega) (by omega) (by omega)) rfl Ew (by decide) (by decide) (by rw [hml]; rfl) pd_4 rfl rfl rfl (Nat.le_of_eq rfl) at_108 rfl (by decide) (by decide) ?_
      rintro r45 T46 L47 X48 ⟨r2, Rr2, rfl, gr2, Nr2, Kr2, Ar2, cr2, rl2, rm2⟩
      have nr : r1 ≠ r2 := Nat.ne_of_lt (Nat.lt_of_lt_of_le Ar1.lt gr2)
      replace Ar1 := Ar1.keep Kr2 nin0
      replace Zw : h0.size ≤ T46.heap.size := Nat.le_trans Zw Kr2.1
      have hkr2 : T10.heap.size ≤ T46.heap.size := Nat.le_trans hkr1 Kr2.1
      show Go p e below _ (T46.setTop (mkF m 111 #[.val (.int x0), .val (.int x1), .val (.int x2), .val (.int n1), .val (.int n2), .val (.int (0 : Int32)), .val (.int (0 : Int32)), .val (.ref s1), .val (.ref s2), .val (.ref b17), .val (.ref r1), .unset, .unset, .unset, .unset, .unset] [(.ref r2)]))
      refine Go.astore (Ls' := #[.val (.int x0), .val (.int x1), .val (.int x2), .val (.int n1), .val (.int n2), .val (.int (0 : Int32)), .val (.int (0 : Int32)), .val (.ref s1), .val (.ref s2), .val (.ref b17), .val (.ref r1), .val (.ref r2), .unset, .unset, .unset, .unset]) (pc' := 113) X48 hx hby at_111 rfl rfl rfl ?_
      refine Go.bipush (pc' := 115) X48 hx hby at_113 rfl (v := (10 : Int32)) (by decide) ?_
      refine Go.newarr (pc' := 117) (cap := 10) (z := 10) X48 hx hby hZ14 (hw _ (List.mem_of_getElem? (i := 7) rfl)) rfl at_115 rfl (by decide) (by decide) (by decide) (by decide) (by decide) (by decide) ?_
      intro b49 T50 h51 g52 X53 e54 E55 A56
      have n57 : r1 ≠ b49 := Nat.ne_of_lt (by rw [g52]; exact Ar1.lt)
      have n58 : r2 ≠ b49 := Nat.ne_of_lt (by rw [g52]; exact Ar2.lt)
      have g59 : h0.size ≤ b49 := by rw [g52]; exact Zw
      have f60 : Ar Z h51 r1 .byte (ln0_.toInt + 2) (fun q => .int (Rr1 q)) := Ar1.ext E55
      have f61 : Ar Z h51 r2 .byte (ln0_.toInt + 2) (fun q => .int (Rr2 q)) := Ar2.ext E55
      have z62 : h0.size ≤ h51.size := Nat.le_trans Zw E55.1
      have hk63 : T10.heap.size ≤ h51.size := Nat.le_trans hkr2 E55.1
      have f64 : Ar Z h51 b49 .char 10 (fun _ => (.int 0)) := A56
      show Go p e below _ (T50.setTop (mkF m 117 #[.val (.int x0), .val (.int x1), .val (.int x2), .val (.int n1), .val (.int n2), .val (.int (0 : Int32)), .val (.int (0 : Int32)), .val (.ref s1), .val (.ref s2), .val (.ref b17), .val (.ref r1), .val (.ref r2), .unset, .unset, .unset, .unset] [(.ref b49)]))
      refine Go.astore (Ls' := #[.val (.int x0), .val (.int x1), .val (.int x2), .val (.int n1), .val (.int n2), .val (.int (0 : Int32)), .val (.int (0 : Int32)), .val (.ref s1), .val (.ref s2), .val (.ref b17), .val (.ref r1), .val (.ref r2), .val (.ref b49), .unset, .unset, .unset]) (pc' := 119) X53 hx hby at_117 rfl rfl rfl ?_
      refine Go.iconst (pc' := 120) X53 hx hby at_119 rfl (v := (0 : Int32)) (by decide) ?_
      refine Go.istore (Ls' := #[.val (.int x0), .val (.int x1), .val (.int x2), .val (.int n1), .val (.int n2), .val (.int (0 : Int32)), .val (.int (0 : Int32)), .val (.ref s1), .val (.ref s2), .val (.ref b17), .val (.ref r1), .val (.ref r2), .val (.ref b49), .val (.int (0 : Int32)), .unset, .unset]) (pc' := 122) X53 hx hby at_120 rfl rfl ?_
      refine Go.iload (pc' := 124) X53 hx hby at_122 rfl rfl ?_
      refine Go.ifY (pc' := 137) X53 hx hby at_124 (by decide) (by decide) (show (0 : Int32) = 0 from by decide) ?_
      refine Go.cutI (α := State × Heap × List Loc × Int32 × (Int → Int32)) (F := fun y => y.1.setTop (mkF m 190 #[.val (.int x0), .val (.int x1), .val (.int x2), .val (.int n1), .val (.int n2), .val (.int (0 : Int32)), .val (.int (0 : Int32)), .val (.ref s1), .val (.ref s2), .val (.ref b17), .val (.ref r1), .val (.ref r2), .val (.ref b49), .val (.int y.2.2.2.1), .unset, .unset] [])) (I := fun y => (Stand p l e room_1 (s.setVm T10.vm) m #[(.int x0), (.int x1), (.int x2)] below meth c y.1 y.2.2.1 15 654) ∧ (y.1.heap = y.2.1) ∧ (Fr h0.size y.2.2.1) ∧ (h0.size ≤ y.2.1.size) ∧ (T10.heap.size ≤ y.2.1.size) ∧ (y.2.2.2.1.toInt = (0 + n1.toInt)) ∧ (Ar Z y.2.1 b49 .char 10 (fun q => .int (y.2.2.2.2 q))) ∧ (∀ q : Int, 0 ≤ q → q < y.2.2.2.1.toInt → y.2.2.2.2 q = own_t0 x0 q) ∧ (Ar Z y.2.1 r1 .byte (ln0_.toInt + 2) (fun q => .int (Rr1 q))) ∧ (Ar Z y.2.1 r2 .byte (ln0_.toInt + 2) (fun q => .int (Rr2 q)))) ?_ ?_
      ·
        rintro ⟨T65, h66, L67, tl, Tt⟩ ⟨X68, e69, N70, z71, hk72, ht, At, ct, Ra, Rb⟩
        dsimp only at X68 e69 N70 z71 hk72 ht At ct Ra Rb
        show Go p e below _ (T65.setTop (mkF m 190 #[.val (.int x0), .val (.int x1), .val (.int x2), .val (.int n1), .val (.int n2), .val (.int (0 : Int32)), .val (.int (0 : Int32)), .val (.ref s1), .val (.ref s2), .val (.ref b17), .val (.ref r1), .val (.ref r2), .val (.ref b49), .val (.int tl), .unset, .unset] []))
        show Go p e below _ (T65.setTop (mkF m 190 #[.val (.int x0), .val (.int x1), .val (.int x2), .val (.int n1), .val (.int n2), .val (.int (0 : Int32)), .val (.int (0 : Int32)), .val (.ref s1), .val (.ref s2), .val (.ref b17), .val (.ref r1), .val (.ref r2), .val (.ref b49), .val (.int tl), .unset, .unset] []))
        refine Go.iload (pc' := 192) X68 hx hby at_190 rfl rfl ?_
        refine Go.ifY (pc' := 270) X68 hx hby at_192 (by decide) (by decide) (show (0 : Int32) = 0 from by decide) ?_
        show Go p e below _ (T65.setTop (mkF m 270 #[.val (.int x0), .val (.int x1), .val (.int x2), .val (.int n1), .val (.int n2), .val (.int (0 : Int32)), .val (.int (0 : Int32)), .val (.ref s1), .val (.ref s2), .val (.ref b17), .val (.ref r1), .val (.ref r2), .val (.ref b49), .val (.int tl), .unset, .unset] []))
        have tb : 0 ≤ tl.toInt ∧ tl.toInt ≤ 8 := by omega
        have e1_ : (tl + 1).toInt = tl.toInt + 1 := by rw [own_add tl 1 (by omega) (by omega) (by decide) (by decide), own_1]
        have e2_ : (tl + 1 + 1).toInt = tl.toInt + 2 := by rw [own_add _ 1 (by omega) (by omega) (by decide) (by decide), own_1]; omega
        have el : (ln0_ + 2).toInt = ln0_.toInt + 2 := by rw [own_add ln0_ 2 (by omega) (by omega) (by decide) (by decide), own_2]
        refine Go.aload (pc' := 272) X68 hx hby at_270 rfl rfl rfl ?_
        refine Go.iload (pc' := 274) X68 hx hby at_272 rfl rfl ?_
        refine Go.iinc (w := tl + (1 : Int32)) (Ls' := #[.val (.int x0), .val (.int x1), .val (.int x2), .val (.int n1), .val (.int n2), .val (.int (0 : Int32)), .val (.int (0 : Int32)), .val (.ref s1), .val (.ref s2), .val (.ref b17), .val (.ref r1), .val (.ref r2), .val (.ref b49), .val (.int (tl + (1 : Int32))), .unset, .unset]) (pc' := 277) X68 hx hby at_274 rfl rfl rfl rfl ?_
        refine Go.bipush (pc' := 279) X68 hx hby at_277 rfl (v := (13 : Int32)) (by decide) ?_
        refine Go.castore (pc' := 280) (i := tl.toInt) X68 hx hby hZ14 e69 At at_279 rfl rfl (by omega) (by omega) ?_
        intro T73 h74 X75 e76 W77 A78
        have f79 : Ar Z h74 r1 .byte (ln0_.toInt + 2) (fun q => .int (Rr1 q)) := Ra.other W77 n57
        have f80 : Ar Z h74 r2 .byte (ln0_.toInt + 2) (fun q => .int (Rr2 q)) := Rb.other W77 n58
        have z81 : h0.size ≤ h74.size := by rw [Wr.size W77]; exact z71
        have hk82 : T10.heap.size ≤ h74.size := by rw [Wr.size W77]; exact hk72
        have f83 : Ar Z h74 b49 .char 10 (fun q => if q = tl.toInt then (.int (nar .char (13 : Int32))) else .int (Tt q)) := A78
        have N84 : Fr h0.size _ := Fr.snoc X75 N70 g59
        show Go p e below _ (T73.setTop (mkF m 280 #[.val (.int x0), .val (.int x1), .val (.int x2), .val (.int n1), .val (.int n2), .val (.int (0 : Int32)), .val (.int (0 : Int32)), .val (.ref s1), .val (.ref s2), .val (.ref b17), .val (.ref r1), .val (.ref r2), .val (.ref b49), .val (.int (tl + (1 : Int32))), .unset, .unset] []))
        refine Go.aload (pc' := 282) X75 hx hby at_280 rfl rfl rfl ?_
        refine Go.iload (pc' := 284) X75 hx hby at_282 rfl rfl ?_
        refine Go.iinc (w := (tl + (1 : Int32)) + (1 : Int32)) (Ls' := #[.val (.int x0), .val (.int x1), .val (.int x2), .val (.int n1), .val (.int n2), .val (.int (0 : Int32)), .val (.int (0 : Int32)), .val (.ref s1), .val (.ref s2), .val (.ref b17), .val (.ref r1), .val (.ref r2), .val (.ref b49), .val (.int ((tl + (1 : Int32)) + (1 : Int32))), .unset, .unset]) (pc' := 287) X75 hx hby at_284 rfl rfl rfl rfl ?_
        refine Go.bipush (pc' := 289) X75 hx hby at_287 rfl (v := (10 : Int32)) (by decide) ?_
        refine Go.castore (pc' := 290) (i := (tl.toInt + 1)) X75 hx hby hZ14 e76 f83 at_289 rfl e1_ (by omega) (by omega) ?_
        intro T85 h86 X87 e88 W89 A90
        have f91 : Ar Z h86 r1 .byte (ln0_.toInt + 2) (fun q => .int (Rr1 q)) := f79.other W89 n57
        have f92 : Ar Z h86 r2 .byte (ln0_.toInt + 2) (fun q => .int (Rr2 q)) := f80.other W89 n58
        have z93 : h0.size ≤ h86.size := by rw [Wr.size W89]; exact z81
        have hk94 : T10.heap.size ≤ h86.size := by rw [Wr.size W89]; exact hk82
        have f95 : Ar Z h86 b49 .char 10 (fun q => if q = (tl.toInt + 1) then (.int (nar .char (10 : Int32))) else if q = tl.toInt then (.int (nar .char (13 : Int32))) else .int (Tt q)) := A90
        have N96 : Fr h0.size _ := Fr.snoc X87 N84 g59
        show Go p e below _ (T85.setTop (mkF m 290 #[.val (.int x0), .val (.int x1), .val (.int x2), .val (.int n1), .val (.int n2), .val (.int (0 : Int32)), .val (.int (0 : Int32)), .val (.ref s1), .val (.ref s2), .val (.ref b17), .val (.ref r1), .val (.ref r2), .val (.ref b49), .val (.int ((tl + (1 : Int32)) + (1 : Int32))), .unset, .unset] []))
        have f97 : Ar Z h86 b49 .char 10 (fun q => .int ((fun q => if q = tl.toInt + 1 then 10 else if q = tl.toInt then 13 else Tt q) q)) := f95.congr (fun i h1 h2 => by simp only [apply_ite Value.int, own_nc7 (own_ckr x0 _), own_nc7 (own_ckr x1 _), own_nc32, own_nc13, own_nc10])
        refine Go.iload (pc' := 292) X87 hx hby at_290 rfl rfl ?_
        refine Go.ifY (pc' := 300) X87 hx hby at_292 (by decide) (by decide) (show (0 : Int32) = 0 from by decide) ?_
        refine Go.iconst (pc' := 301) X87 hx hby at_300 rfl (v := (0 : Int32)) (by decide) ?_
        refine Go.istore (Ls' := #[.val (.int x0), .val (.int x1), .val (.int x2), .val (.int n1), .val (.int n2), .val (.int (0 : Int32)), .val (.int (0 : Int32)), .val (.ref s1), .val (.ref s2), .val (.ref b17), .val (.ref r1), .val (.ref r2), .val (.ref b49), .val (.int ((tl + (1 : Int32)) + (1 : Int32))), .val (.int (0 : Int32)), .unset]) (pc' := 303) X87 hx hby at_301 rfl rfl ?_
        refine Go.aload (pc' := 305) X87 hx hby at_303 rfl rfl rfl ?_
        refine Go.alen (pc' := 306) (zv := ln0_ + 2) X87 hx hby hZ14 e88 f91 at_305 rfl el ?_
        refine Go.iload (pc' := 308) X87 hx hby at_306 rfl rfl ?_
        refine Go.iload (pc' := 310) X87 hx hby at_308 rfl rfl ?_
        refine Go.iadd (pc' := 311) X87 hx hby at_310 rfl ?_
        have eo : ((0 : Int32) + (tl + 1 + 1)).toInt = 0 + (tl.toInt + 2) := by rw [own_add _ _ (by decide) (by decide) (by omega) (by omega), e2_, v0]
        refine Go.icmpY (pc' := 316) X87 hx hby at_311 (by decide) (by decide) (show (ln0_ + 2) = ((0 : Int32) + ((tl + (1 : Int32)) + (1 : Int32))) from Int32.toInt_inj.mp (by rw [el]; refine Eq.trans ?_ eo.symm; omega)) ?_
        have hQ : ∀ j : Int, 0 ≤ j → j < (tl + 1 + 1).toInt → Rr1 ((0 : Int32).toInt + j) = (fun q => if q = tl.toInt + 1 then 10 else if q = tl.toInt then 13 else Tt q) j ∧ Own7 ((fun q => if q = tl.toInt + 1 then 10 else if q = tl.toInt then 13 else Tt q) j) := by
          intro j h1 h2
          rw [e2_] at h2; rw [v0]; dsimp only
          by_cases g1 : j = tl.toInt + 1
          · rw [if_pos g1]; refine ⟨?_, by decide⟩; rw [← rm1]; congr 1; omega
          · rw [if_neg g1]
            by_cases g2 : j = tl.toInt
            · rw [if_pos g2]; refine ⟨?_, by decide⟩; rw [← rl1]; congr 1; omega
            · rw [if_neg g2, ct j h1 (by omega), cr1 _ (by omega), c1s j h1 (by omega)]; exact ⟨rfl, (own_t07 x0) j⟩
        refine Go.aload (pc' := 318) X87 hx hby at_316 rfl rfl rfl ?_
        refine Go.iload (pc' := 320) X87 hx hby at_318 rfl rfl ?_
        refine Go.aload (pc' := 322) X87 hx hby at_320 rfl rfl rfl ?_
        refine Go.iload (pc' := 324) X87 hx hby at_322 rfl rfl ?_
        refine Go.iconst (pc' := 325) X87 hx hby at_324 rfl (v := (0 : Int32)) (by decide) ?_
        refine Go.callS (pc' := 328) (W := 0) (argsL := [(.ref r1), (.int (0 : Int32)), (.ref b49), (.int ((tl + (1 : Int32)) + (1 : Int32))), (.int (0 : Int32))]) (rest := []) X87 hx hby hZ14 hown15 (hw _ (List.mem_of_getElem? (i := 113) rfl)) (hw _ (List.mem_of_getElem? (i := 114) rfl)) (hw _ (List.mem_of_getElem? (i := 2) rfl)) (hw _ (List.mem_of_getElem? (i := 115) rfl)) (by decide) (rmSA l Z a0 hw r1 (0 : Int32) b49 (tl + 1 + 1) 0 h86 (ln0_.toInt + 2) 10 Rr1 (fun q => if q = tl.toInt + 1 then 10 else if q = tl.toInt then 13 else Tt q) f91 f97 (by decide) (by decide) (by decide) (by decide) (by rw [e2_, v0]; omega) (by rw [e2_]; omega) (fun h => hQ _ (by decide) h)) e88 (by decide) (by decide) (by rw [hml]; rfl) pd_20 rfl rfl rfl (Nat.le_of_eq rfl) at_325 rfl (by decide) (by decide) ?_
        rintro r99 T100 L101 X102 ⟨rfl, rfl, e98⟩
        rw [List.append_nil] at X102
        show Go p e below _ (T100.setTop (mkF m 328 #[.val (.int x0), .val (.int x1), .val (.int x2), .val (.int n1), .val (.int n2), .val (.int (0 : Int32)), .val (.int (0 : Int32)), .val (.ref s1), .val (.ref s2), .val (.ref b17), .val (.ref r1), .val (.ref r2), .val (.ref b49), .val (.int ((tl + (1 : Int32)) + (1 : Int32))), .val (.int (0 : Int32)), .unset] [(.int (1 : Int32))]))
        refine Go.ifN (pc' := 331) X102 hx hby at_328 rfl (show ¬ ((1 : Int32) = 0) from by decide) ?_
        refine Go.aload (pc' := 333) X102 hx hby at_331 rfl rfl rfl ?_
        refine Go.iload (pc' := 335) X102 hx hby at_333 rfl rfl ?_
        refine Go.aload (pc' := 337) X102 hx hby at_335 rfl rfl rfl ?_
        refine Go.iload (pc' := 339) X102 hx hby at_337 rfl rfl ?_
        refine Go.iconst (pc' := 340) X102 hx hby at_339 rfl (v := (1 : Int32)) (by decide) ?_
        refine Go.callS (pc' := 343) (W := 0) (argsL := [(.ref r1), (.int (0 : Int32)), (.ref b49), (.int ((tl + (1 : Int32)) + (1 : Int32))), (.int (1 : Int32))]) (rest := []) X102 hx hby hZ14 hown15 (hw _ (List.mem_of_getElem? (i := 113) rfl)) (hw _ (List.mem_of_getElem? (i := 114) rfl)) (hw _ (List.mem_of_getElem? (i := 2) rfl)) (hw _ (List.mem_of_getElem? (i := 115) rfl)) (by decide) (rmSA l Z a0 hw r1 (0 : Int32) b49 (tl + 1 + 1) 1 h86 (ln0_.toInt + 2) 10 Rr1 (fun q => if q = tl.toInt + 1 then 10 else if q = tl.toInt then 13 else Tt q) f91 f97 (by decide) (by decide) (by decide) (by decide) (by rw [e2_, v0]; omega) (by rw [e2_]; omega) (fun h => hQ _ (by decide) h)) e98 (by decide) (by decide) (by rw [hml]; rfl) pd_20 rfl rfl rfl (Nat.le_of_eq rfl) at_340 rfl (by decide) (by decide) ?_
        rintro r104 T105 L106 X107 ⟨rfl, rfl, e103⟩
        rw [List.append_nil] at X107
        show Go p e below _ (T105.setTop (mkF m 343 #[.val (.int x0), .val (.int x1), .val (.int x2), .val (.int n1), .val (.int n2), .val (.int (0 : Int32)), .val (.int (0 : Int32)), .val (.ref s1), .val (.ref s2), .val (.ref b17), .val (.ref r1), .val (.ref r2), .val (.ref b49), .val (.int ((tl + (1 : Int32)) + (1 : Int32))), .val (.int (0 : Int32)), .unset] [(.int (1 : Int32))]))
        refine Go.ifN (pc' := 346) X107 hx hby at_343 rfl (show ¬ ((1 : Int32) = 0) from by decide) ?_
        refine Go.aload (pc' := 348) X107 hx hby at_346 rfl rfl rfl ?_
        refine Go.iload (pc' := 350) X107 hx hby at_348 rfl rfl ?_
        refine Go.aload (pc' := 352) X107 hx hby at_350 rfl rfl rfl ?_
        refine Go.iload (pc' := 354) X107 hx hby at_352 rfl rfl ?_
        refine Go.iconst (pc' := 355) X107 hx hby at_354 rfl (v := (2 : Int32)) (by decide) ?_
        refine Go.callS (pc' := 358) (W := 0) (argsL := [(.ref r1), (.int (0 : Int32)), (.ref b49), (.int ((tl + (1 : Int32)) + (1 : Int32))), (.int (2 : Int32))]) (rest := []) X107 hx hby hZ14 hown15 (hw _ (List.mem_of_getElem? (i := 113) rfl)) (hw _ (List.mem_of_getElem? (i := 114) rfl)) (hw _ (List.mem_of_getElem? (i := 2) rfl)) (hw _ (List.mem_of_getElem? (i := 115) rfl)) (by decide) (rmSA l Z a0 hw r1 (0 : Int32) b49 (tl + 1 + 1) 2 h86 (ln0_.toInt + 2) 10 Rr1 (fun q => if q = tl.toInt + 1 then 10 else if q = tl.toInt then 13 else Tt q) f91 f97 (by decide) (by decide) (by decide) (by decide) (by rw [e2_, v0]; omega) (by rw [e2_]; omega) (fun h => hQ _ (by decide) h)) e103 (by decide) (by decide) (by rw [hml]; rfl) pd_20 rfl rfl rfl (Nat.le_of_eq rfl) at_355 rfl (by decide) (by decide) ?_
        rintro r109 T110 L111 X112 ⟨rfl, rfl, e108⟩
        rw [List.append_nil] at X112
        show Go p e below _ (T110.setTop (mkF m 358 #[.val (.int x0), .val (.int x1), .val (.int x2), .val (.int n1), .val (.int n2), .val (.int (0 : Int32)), .val (.int (0 : Int32)), .val (.ref s1), .val (.ref s2), .val (.ref b17), .val (.ref r1), .val (.ref r2), .val (.ref b49), .val (.int ((tl + (1 : Int32)) + (1 : Int32))), .val (.int (0 : Int32)), .unset] [(.int (1 : Int32))]))
        refine Go.ifN (pc' := 361) X112 hx hby at_358 rfl (show ¬ ((1 : Int32) = 0) from by decide) ?_
        refine Go.aload (pc' := 363) X112 hx hby at_361 rfl rfl rfl ?_
        refine Go.iload (pc' := 365) X112 hx hby at_363 rfl rfl ?_
        refine Go.aload (pc' := 367) X112 hx hby at_365 rfl rfl rfl ?_
        refine Go.iload (pc' := 369) X112 hx hby at_367 rfl rfl ?_
        refine Go.iconst (pc' := 370) X112 hx hby at_369 rfl (v := (3 : Int32)) (by decide) ?_
        refine Go.callS (pc' := 373) (W := 0) (argsL := [(.ref r1), (.int (0 : Int32)), (.ref b49), (.int ((tl + (1 : Int32)) + (1 : Int32))), (.int (3 : Int32))]) (rest := []) X112 hx hby hZ14 hown15 (hw _ (List.mem_of_getElem? (i := 113) rfl)) (hw _ (List.mem_of_getElem? (i := 114) rfl)) (hw _ (List.mem_of_getElem? (i := 2) rfl)) (hw _ (List.mem_of_getElem? (i := 115) rfl)) (by decide) (rmSA l Z a0 hw r1 (0 : Int32) b49 (tl + 1 + 1) 3 h86 (ln0_.toInt + 2) 10 Rr1 (fun q => if q = tl.toInt + 1 then 10 else if q = tl.toInt then 13 else Tt q) f91 f97 (by decide) (by decide) (by decide) (by decide) (by rw [e2_, v0]; omega) (by rw [e2_]; omega) (fun h => hQ _ (by decide) h)) e108 (by decide) (by decide) (by rw [hml]; rfl) pd_20 rfl rfl rfl (Nat.le_of_eq rfl) at_370 rfl (by decide) (by decide) ?_
        rintro r114 T115 L116 X117 ⟨rfl, rfl, e113⟩
        rw [List.append_nil] at X117
        show Go p e below _ (T115.setTop (mkF m 373 #[.val (.int x0), .val (.int x1), .val (.int x2), .val (.int n1), .val (.int n2), .val (.int (0 : Int32)), .val (.int (0 : Int32)), .val (.ref s1), .val (.ref s2), .val (.ref b17), .val (.ref r1), .val (.ref r2), .val (.ref b49), .val (.int ((tl + (1 : Int32)) + (1 : Int32))), .val (.int (0 : Int32)), .unset] [(.int (1 : Int32))]))
        refine Go.ifN (pc' := 376) X117 hx hby at_373 rfl (show ¬ ((1 : Int32) = 0) from by decide) ?_
        refine Go.aload (pc' := 378) X117 hx hby at_376 rfl rfl rfl ?_
        refine Go.iload (pc' := 380) X117 hx hby at_378 rfl rfl ?_
        refine Go.aload (pc' := 382) X117 hx hby at_380 rfl rfl rfl ?_
        refine Go.iload (pc' := 384) X117 hx hby at_382 rfl rfl ?_
        refine Go.iconst (pc' := 385) X117 hx hby at_384 rfl (v := (4 : Int32)) (by decide) ?_
        refine Go.callS (pc' := 388) (W := 0) (argsL := [(.ref r1), (.int (0 : Int32)), (.ref b49), (.int ((tl + (1 : Int32)) + (1 : Int32))), (.int (4 : Int32))]) (rest := []) X117 hx hby hZ14 hown15 (hw _ (List.mem_of_getElem? (i := 113) rfl)) (hw _ (List.mem_of_getElem? (i := 114) rfl)) (hw _ (List.mem_of_getElem? (i := 2) rfl)) (hw _ (List.mem_of_getElem? (i := 115) rfl)) (by decide) (rmSA l Z a0 hw r1 (0 : Int32) b49 (tl + 1 + 1) 4 h86 (ln0_.toInt + 2) 10 Rr1 (fun q => if q = tl.toInt + 1 then 10 else if q = tl.toInt then 13 else Tt q) f91 f97 (by decide) (by decide) (by decide) (by decide) (by rw [e2_, v0]; omega) (by rw [e2_]; omega) (fun h => hQ _ (by decide) h)) e113 (by decide) (by decide) (by rw [hml]; rfl) pd_20 rfl rfl rfl (Nat.le_of_eq rfl) at_385 rfl (by decide) (by decide) ?_
        rintro r119 T120 L121 X122 ⟨rfl, rfl, e118⟩
        rw [List.append_nil] at X122
        show Go p e below _ (T120.setTop (mkF m 388 #[.val (.int x0), .val (.int x1), .val (.int x2), .val (.int n1), .val (.int n2), .val (.int (0 : Int32)), .val (.int (0 : Int32)), .val (.ref s1), .val (.ref s2), .val (.ref b17), .val (.ref r1), .val (.ref r2), .val (.ref b49), .val (.int ((tl + (1 : Int32)) + (1 : Int32))), .val (.int (0 : Int32)), .unset] [(.int (1 : Int32))]))
        refine Go.ifN (pc' := 391) X122 hx hby at_388 rfl (show ¬ ((1 : Int32) = 0) from by decide) ?_
        refine Go.aload (pc' := 393) X122 hx hby at_391 rfl rfl rfl ?_
        refine Go.iload (pc' := 395) X122 hx hby at_393 rfl rfl ?_
        refine Go.aload (pc' := 397) X122 hx hby at_395 rfl rfl rfl ?_
        refine Go.iload (pc' := 399) X122 hx hby at_397 rfl rfl ?_
        refine Go.iconst (pc' := 400) X122 hx hby at_399 rfl (v := (5 : Int32)) (by decide) ?_
        refine Go.callS (pc' := 403) (W := 0) (argsL := [(.ref r1), (.int (0 : Int32)), (.ref b49), (.int ((tl + (1 : Int32)) + (1 : Int32))), (.int (5 : Int32))]) (rest := []) X122 hx hby hZ14 hown15 (hw _ (List.mem_of_getElem? (i := 113) rfl)) (hw _ (List.mem_of_getElem? (i := 114) rfl)) (hw _ (List.mem_of_getElem? (i := 2) rfl)) (hw _ (List.mem_of_getElem? (i := 115) rfl)) (by decide) (rmSA l Z a0 hw r1 (0 : Int32) b49 (tl + 1 + 1) 5 h86 (ln0_.toInt + 2) 10 Rr1 (fun q => if q = tl.toInt + 1 then 10 else if q = tl.toInt then 13 else Tt q) f91 f97 (by decide) (by decide) (by decide) (by decide) (by rw [e2_, v0]; omega) (by rw [e2_]; omega) (fun h => hQ _ (by decide) h)) e118 (by decide) (by decide) (by rw [hml]; rfl) pd_20 rfl rfl rfl (Nat.le_of_eq rfl) at_400 rfl (by decide) (by decide) ?_
        rintro r124 T125 L126 X127 ⟨rfl, rfl, e123⟩
        rw [List.append_nil] at X127
        show Go p e below _ (T125.setTop (mkF m 403 #[.val (.int x0), .val (.int x1), .val (.int x2), .val (.int n1), .val (.int n2), .val (.int (0 : Int32)), .val (.int (0 : Int32)), .val (.ref s1), .val (.ref s2), .val (.ref b17), .val (.ref r1), .val (.ref r2), .val (.ref b49), .val (.int ((tl + (1 : Int32)) + (1 : Int32))), .val (.int (0 : Int32)), .unset] [(.int (1 : Int32))]))
        refine Go.ifN (pc' := 406) X127 hx hby at_403 rfl (show ¬ ((1 : Int32) = 0) from by decide) ?_
        refine Go.aload (pc' := 408) X127 hx hby at_406 rfl rfl rfl ?_
        refine Go.iload (pc' := 410) X127 hx hby at_408 rfl rfl ?_
        refine Go.aload (pc' := 412) X127 hx hby at_410 rfl rfl rfl ?_
        refine Go.iload (pc' := 414) X127 hx hby at_412 rfl rfl ?_
        refine Go.bipush (pc' := 416) X127 hx hby at_414 rfl (v := (6 : Int32)) (by decide) ?_
        refine Go.callS (pc' := 419) (W := 0) (argsL := [(.ref r1), (.int (0 : Int32)), (.ref b49), (.int ((tl + (1 : Int32)) + (1 : Int32))), (.int (6 : Int32))]) (rest := []) X127 hx hby hZ14 hown15 (hw _ (List.mem_of_getElem? (i := 113) rfl)) (hw _ (List.mem_of_getElem? (i := 114) rfl)) (hw _ (List.mem_of_getElem? (i := 2) rfl)) (hw _ (List.mem_of_getElem? (i := 115) rfl)) (by decide) (rmSA l Z a0 hw r1 (0 : Int32) b49 (tl + 1 + 1) 6 h86 (ln0_.toInt + 2) 10 Rr1 (fun q => if q = tl.toInt + 1 then 10 else if q = tl.toInt then 13 else Tt q) f91 f97 (by decide) (by decide) (by decide) (by decide) (by rw [e2_, v0]; omega) (by rw [e2_]; omega) (fun h => hQ _ (by decide) h)) e123 (by decide) (by decide) (by rw [hml]; rfl) pd_20 rfl rfl rfl (Nat.le_of_eq rfl) at_416 rfl (by decide) (by decide) ?_
        rintro r129 T130 L131 X132 ⟨rfl, rfl, e128⟩
        rw [List.append_nil] at X132
        show Go p e below _ (T130.setTop (mkF m 419 #[.val (.int x0), .val (.int x1), .val (.int x2), .val (.int n1), .val (.int n2), .val (.int (0 : Int32)), .val (.int (0 : Int32)), .val (.ref s1), .val (.ref s2), .val (.ref b17), .val (.ref r1), .val (.ref r2), .val (.ref b49), .val (.int ((tl + (1 : Int32)) + (1 : Int32))), .val (.int (0 : Int32)), .unset] [(.int (1 : Int32))]))
        refine Go.ifN (pc' := 422) X132 hx hby at_419 rfl (show ¬ ((1 : Int32) = 0) from by decide) ?_
        refine Go.aload (pc' := 424) X132 hx hby at_422 rfl rfl rfl ?_
        refine Go.iload (pc' := 426) X132 hx hby at_424 rfl rfl ?_
        refine Go.aload (pc' := 428) X132 hx hby at_426 rfl rfl rfl ?_
        refine Go.iload (pc' := 430) X132 hx hby at_428 rfl rfl ?_
        refine Go.bipush (pc' := 432) X132 hx hby at_430 rfl (v := (7 : Int32)) (by decide) ?_
        refine Go.callS (pc' := 435) (W := 0) (argsL := [(.ref r1), (.int (0 : Int32)), (.ref b49), (.int ((tl + (1 : Int32)) + (1 : Int32))), (.int (7 : Int32))]) (rest := []) X132 hx hby hZ14 hown15 (hw _ (List.mem_of_getElem? (i := 113) rfl)) (hw _ (List.mem_of_getElem? (i := 114) rfl)) (hw _ (List.mem_of_getElem? (i := 2) rfl)) (hw _ (List.mem_of_getElem? (i := 115) rfl)) (by decide) (rmSA l Z a0 hw r1 (0 : Int32) b49 (tl + 1 + 1) 7 h86 (ln0_.toInt + 2) 10 Rr1 (fun q => if q = tl.toInt + 1 then 10 else if q = tl.toInt then 13 else Tt q) f91 f97 (by decide) (by decide) (by decide) (by decide) (by rw [e2_, v0]; omega) (by rw [e2_]; omega) (fun h => hQ _ (by decide) h)) e128 (by decide) (by decide) (by rw [hml]; rfl) pd_20 rfl rfl rfl (Nat.le_of_eq rfl) at_432 rfl (by decide) (by decide) ?_
        rintro r134 T135 L136 X137 ⟨rfl, rfl, e133⟩
        rw [List.append_nil] at X137
        show Go p e below _ (T135.setTop (mkF m 435 #[.val (.int x0), .val (.int x1), .val (.int x2), .val (.int n1), .val (.int n2), .val (.int (0 : Int32)), .val (.int (0 : Int32)), .val (.ref s1), .val (.ref s2), .val (.ref b17), .val (.ref r1), .val (.ref r2), .val (.ref b49), .val (.int ((tl + (1 : Int32)) + (1 : Int32))), .val (.int (0 : Int32)), .unset] [(.int (1 : Int32))]))
        refine Go.ifN (pc' := 438) X137 hx hby at_435 rfl (show ¬ ((1 : Int32) = 0) from by decide) ?_
        refine Go.aload (pc' := 440) X137 hx hby at_438 rfl rfl rfl ?_
        refine Go.iload (pc' := 442) X137 hx hby at_440 rfl rfl ?_
        refine Go.aload (pc' := 444) X137 hx hby at_442 rfl rfl rfl ?_
        refine Go.iload (pc' := 446) X137 hx hby at_444 rfl rfl ?_
        refine Go.bipush (pc' := 448) X137 hx hby at_446 rfl (v := (8 : Int32)) (by decide) ?_
        refine Go.callS (pc' := 451) (W := 0) (argsL := [(.ref r1), (.int (0 : Int32)), (.ref b49), (.int ((tl + (1 : Int32)) + (1 : Int32))), (.int (8 : Int32))]) (rest := []) X137 hx hby hZ14 hown15 (hw _ (List.mem_of_getElem? (i := 113) rfl)) (hw _ (List.mem_of_getElem? (i := 114) rfl)) (hw _ (List.mem_of_getElem? (i := 2) rfl)) (hw _ (List.mem_of_getElem? (i := 115) rfl)) (by decide) (rmSA l Z a0 hw r1 (0 : Int32) b49 (tl + 1 + 1) 8 h86 (ln0_.toInt + 2) 10 Rr1 (fun q => if q = tl.toInt + 1 then 10 else if q = tl.toInt then 13 else Tt q) f91 f97 (by decide) (by decide) (by decide) (by decide) (by rw [e2_, v0]; omega) (by rw [e2_]; omega) (fun h => hQ _ (by decide) h)) e133 (by decide) (by decide) (by rw [hml]; rfl) pd_20 rfl rfl rfl (Nat.le_of_eq rfl) at_448 rfl (by decide) (by decide) ?_
        rintro r139 T140 L141 X142 ⟨rfl, rfl, e138⟩
        rw [List.append_nil] at X142
        show Go p e below _ (T140.setTop (mkF m 451 #[.val (.int x0), .val (.int x1), .val (.int x2), .val (.int n1), .val (.int n2), .val (.int (0 : Int32)), .val (.int (0 : Int32)), .val (.ref s1), .val (.ref s2), .val (.ref b17), .val (.ref r1), .val (.ref r2), .val (.ref b49), .val (.int ((tl + (1 : Int32)) + (1 : Int32))), .val (.int (0 : Int32)), .unset] [(.int (1 : Int32))]))
        refine Go.ifN (pc' := 454) X142 hx hby at_451 rfl (show ¬ ((1 : Int32) = 0) from by decide) ?_
        refine Go.aload (pc' := 456) X142 hx hby at_454 rfl rfl rfl ?_
        refine Go.iload (pc' := 458) X142 hx hby at_456 rfl rfl ?_
        refine Go.aload (pc' := 460) X142 hx hby at_458 rfl rfl rfl ?_
        refine Go.iload (pc' := 462) X142 hx hby at_460 rfl rfl ?_
        refine Go.bipush (pc' := 464) X142 hx hby at_462 rfl (v := (9 : Int32)) (by decide) ?_
        refine Go.callS (pc' := 467) (W := 0) (argsL := [(.ref r1), (.int (0 : Int32)), (.ref b49), (.int ((tl + (1 : Int32)) + (1 : Int32))), (.int (9 : Int32))]) (rest := []) X142 hx hby hZ14 hown15 (hw _ (List.mem_of_getElem? (i := 113) rfl)) (hw _ (List.mem_of_getElem? (i := 114) rfl)) (hw _ (List.mem_of_getElem? (i := 2) rfl)) (hw _ (List.mem_of_getElem? (i := 115) rfl)) (by decide) (rmSA l Z a0 hw r1 (0 : Int32) b49 (tl + 1 + 1) 9 h86 (ln0_.toInt + 2) 10 Rr1 (fun q => if q = tl.toInt + 1 then 10 else if q = tl.toInt then 13 else Tt q) f91 f97 (by decide) (by decide) (by decide) (by decide) (by rw [e2_, v0]; omega) (by rw [e2_]; omega) (fun h => hQ _ (by decide) h)) e138 (by decide) (by decide) (by rw [hml]; rfl) pd_20 rfl rfl rfl (Nat.le_of_eq rfl) at_464 rfl (by decide) (by decide) ?_
        rintro r144 T145 L146 X147 ⟨rfl, rfl, e143⟩
        rw [List.append_nil] at X147
        show Go p e below _ (T145.setTop (mkF m 467 #[.val (.int x0), .val (.int x1), .val (.int x2), .val (.int n1), .val (.int n2), .val (.int (0 : Int32)), .val (.int (0 : Int32)), .val (.ref s1), .val (.ref s2), .val (.ref b17), .val (.ref r1), .val (.ref r2), .val (.ref b49), .val (.int ((tl + (1 : Int32)) + (1 : Int32))), .val (.int (0 : Int32)), .unset] [(.int (1 : Int32))]))
        refine Go.ifN (pc' := 470) X147 hx hby at_467 rfl (show ¬ ((1 : Int32) = 0) from by decide) ?_
        refine Go.iconst (pc' := 471) X147 hx hby at_470 rfl (v := (1 : Int32)) (by decide) ?_
        refine Go.goto (pc' := 475) X147 hx hby at_471 (by decide) (by decide) ?_
        refine Go.istore (Ls' := #[.val (.int x0), .val (.int x1), .val (.int x2), .val (.int n1), .val (.int n2), .val (.int (0 : Int32)), .val (.int (0 : Int32)), .val (.ref s1), .val (.ref s2), .val (.ref b17), .val (.ref r1), .val (.ref r2), .val (.ref b49), .val (.int ((tl + (1 : Int32)) + (1 : Int32))), .val (.int (0 : Int32)), .val (.int (1 : Int32))]) (pc' := 477) X147 hx hby at_475 rfl rfl ?_
        refine Go.iload (pc' := 479) X147 hx hby at_477 rfl rfl ?_
        refine Go.ifY (pc' := 523) X147 hx hby at_479 (by decide) (by decide) (show (0 : Int32) = 0 from by decide) ?_
        refine Go.iload (pc' := 525) X147 hx hby at_523 rfl rfl ?_
        refine Go.ifN (pc' := 528) X147 hx hby at_525 rfl (show ¬ ((1 : Int32) = 0) from by decide) ?_
        refine Go.aload (pc' := 530) X147 hx hby at_528 rfl rfl rfl ?_
        refine Go.aload (pc' := 532) X147 hx hby at_530 rfl rfl rfl ?_
        refine Go.acmpN (pc' := 535) X147 hx hby at_532 (by decide) rfl (Ne.symm nr) ?_
        refine Go.aload (pc' := 537) X147 hx hby at_535 rfl rfl rfl ?_
        refine Go.alen (pc' := 538) (zv := ln0_ + 2) X147 hx hby hZ14 e143 f92 at_537 rfl el ?_
        refine Go.aload (pc' := 540) X147 hx hby at_538 rfl rfl rfl ?_
        refine Go.alen (pc' := 541) (zv := ln0_ + 2) X147 hx hby hZ14 e143 f91 at_540 rfl el ?_
        refine Go.icmpN (pc' := 544) X147 hx hby at_541 rfl (show ¬ ((ln0_ + 2) ≠ (ln0_ + 2)) from fun q => q rfl) ?_
        refine Go.aload (pc' := 546) X147 hx hby at_544 rfl rfl rfl ?_
        refine Go.aload (pc' := 548) X147 hx hby at_546 rfl rfl rfl ?_
        refine Go.alen (pc' := 549) (zv := ln0_ + 2) X147 hx hby hZ14 e143 f91 at_548 rfl el ?_
        refine Go.iconst (pc' := 550) X147 hx hby at_549 rfl (v := (2 : Int32)) (by decide) ?_
        refine Go.isub (pc' := 551) X147 hx hby at_550 rfl ?_
        have ea_ : (ln0_ + 2 - 2).toInt = ln0_.toInt := by have q1 := c_isub (ln0_ + 2) 2; have q2 := rng32 (ln0_ + 2 - 2); rw [el, own_2] at q1; omega
        have eb_ : (ln0_ + 2 - 1).toInt = ln0_.toInt + 1 := by have q1 := c_isub (ln0_ + 2) 1; have q2 := rng32 (ln0_ + 2 - 1); rw [el, own_1] at q1; omega
        refine Go.baload (pc' := 552) (i := ln0_.toInt) (v := (.int (Rr2 ln0_.toInt))) X147 hx hby hZ14 e143 f92 at_551 rfl ea_ (by omega) (by omega) rfl ?_
        refine Go.bipush (pc' := 554) X147 hx hby at_552 rfl (v := (13 : Int32)) (by decide) ?_
        refine Go.icmpN (pc' := 557) X147 hx hby at_554 rfl (show ¬ ((Rr2 ln0_.toInt) ≠ (13 : Int32)) from fun q => q rl2) ?_
        refine Go.aload (pc' := 559) X147 hx hby at_557 rfl rfl rfl ?_
        refine Go.aload (pc' := 561) X147 hx hby at_559 rfl rfl rfl ?_
        refine Go.alen (pc' := 562) (zv := ln0_ + 2) X147 hx hby hZ14 e143 f91 at_561 rfl el ?_
        refine Go.iconst (pc' := 563) X147 hx hby at_562 rfl (v := (1 : Int32)) (by decide) ?_
        refine Go.isub (pc' := 564) X147 hx hby at_563 rfl ?_
        refine Go.baload (pc' := 565) (i := (ln0_.toInt + 1)) (v := (.int (Rr2 (ln0_.toInt + 1)))) X147 hx hby hZ14 e143 f92 at_564 rfl eb_ (by omega) (by omega) rfl ?_
        refine Go.bipush (pc' := 567) X147 hx hby at_565 rfl (v := (10 : Int32)) (by decide) ?_
        refine Go.icmpN (pc' := 570) X147 hx hby at_567 rfl (show ¬ ((Rr2 (ln0_.toInt + 1)) ≠ (10 : Int32)) from fun q => q rm2) ?_
        refine Go.iconst (pc' := 571) X147 hx hby at_570 rfl (v := (1 : Int32)) (by decide) ?_
        refine Go.goto (pc' := 575) X147 hx hby at_571 (by decide) (by decide) ?_
        refine Go.istore (Ls' := #[.val (.int x0), .val (.int x1), .val (.int x2), .val (.int n1), .val (.int n2), .val (.int (0 : Int32)), .val (.int (0 : Int32)), .val (.ref s1), .val (.ref s2), .val (.ref b17), .val (.ref r1), .val (.ref r2), .val (.ref b49), .val (.int ((tl + (1 : Int32)) + (1 : Int32))), .val (.int (0 : Int32)), .val (.int (1 : Int32))]) (pc' := 577) X147 hx hby at_575 rfl rfl ?_
        refine Go.iload (pc' := 579) X147 hx hby at_577 rfl rfl ?_
        exact Go.retZW X147 hx hby hlk hret (by simp) at_579 (by decide) (by decide) S13 (by rw [e143]; exact hk94) ⟨rfl, N96⟩
      ·
        intro jn148
        rcases d1 with q | q | q | q
        ·
          subst q
          show Go p e below _ (T50.setTop (mkF m 137 #[.val (.int x0), .val (.int x1), .val (.int x2), .val (.int (0 : Int32)), .val (.int n2), .val (.int (0 : Int32)), .val (.int (0 : Int32)), .val (.ref s1), .val (.ref s2), .val (.ref b17), .val (.ref r1), .val (.ref r2), .val (.ref b49), .val (.int (0 : Int32)), .unset, .unset] []))
          refine Go.iloadN (pc' := 138) X53 hx hby at_137 rfl rfl ?_
          refine Go.ifY (pc' := 154) X53 hx hby at_138 (by decide) (by decide) (show (0 : Int32) ≤ 0 from by decide) ?_
          refine Go.iloadN (pc' := 155) X53 hx hby at_154 rfl rfl ?_
          refine Go.iconst (pc' := 156) X53 hx hby at_155 rfl (v := (1 : Int32)) (by decide) ?_
          refine Go.icmpY (pc' := 172) X53 hx hby at_156 (by decide) (by decide) (show (0 : Int32) ≤ (1 : Int32) from by decide) ?_
          refine Go.iloadN (pc' := 173) X53 hx hby at_172 rfl rfl ?_
          refine Go.iconst (pc' := 174) X53 hx hby at_173 rfl (v := (2 : Int32)) (by decide) ?_
          refine Go.icmpY (pc' := 190) X53 hx hby at_174 (by decide) (by decide) (show (0 : Int32) ≤ (2 : Int32) from by decide) ?_
          have f149 : Ar Z h51 b49 .char 10 (fun q => .int ((fun q => 0) q)) := f64.congr (fun i h1 h2 => rfl)
          exact jn148 (T50, h51, _, (0 : Int32), (fun q => 0)) ⟨X53, e54, (Fr.app (Fr.app (Fr.app (Fr.app (Fr.app (Fr.app (Fr.nil _) N1) N2) N3) Nw0_) Nr1) Nr2), z62, hk63, by (try dsimp only); decide, f149, fun q h1 h2 => by
          have z : (0 : Int32).toInt = 0 := by decide
          (try dsimp only at h2)
          rw [z] at h2
          omega, f60, f61⟩
        ·
          subst q
          show Go p e below _ (T50.setTop (mkF m 137 #[.val (.int x0), .val (.int x1), .val (.int x2), .val (.int (1 : Int32)), .val (.int n2), .val (.int (0 : Int32)), .val (.int (0 : Int32)), .val (.ref s1), .val (.ref s2), .val (.ref b17), .val (.ref r1), .val (.ref r2), .val (.ref b49), .val (.int (0 : Int32)), .unset, .unset] []))
          refine Go.iloadN (pc' := 138) X53 hx hby at_137 rfl rfl ?_
          refine Go.ifN (pc' := 141) X53 hx hby at_138 rfl (show ¬ ((1 : Int32) ≤ 0) from by decide) ?_
          refine Go.aload (pc' := 143) X53 hx hby at_141 rfl rfl rfl ?_
          refine Go.iload (pc' := 145) X53 hx hby at_143 rfl rfl ?_
          refine Go.iinc (w := (0 : Int32) + (1 : Int32)) (Ls' := #[.val (.int x0), .val (.int x1), .val (.int x2), .val (.int (1 : Int32)), .val (.int n2), .val (.int (0 : Int32)), .val (.int (0 : Int32)), .val (.ref s1), .val (.ref s2), .val (.ref b17), .val (.ref r1), .val (.ref r2), .val (.ref b49), .val (.int ((0 : Int32) + (1 : Int32))), .unset, .unset]) (pc' := 148) X53 hx hby at_145 rfl rfl rfl rfl ?_
          change Go p e below _ (T50.setTop (mkF m 148 #[.val (.int x0), .val (.int x1), .val (.int x2), .val (.int (1 : Int32)), .val (.int n2), .val (.int (0 : Int32)), .val (.int (0 : Int32)), .val (.ref s1), .val (.ref s2), .val (.ref b17), .val (.ref r1), .val (.ref r2), .val (.ref b49), .val (.int (1 : Int32)), .unset, .unset] [(.int (0 : Int32)), (.ref b49)]))
          refine Go.iloadN (pc' := 149) X53 hx hby at_148 rfl rfl ?_
          refine Go.iconst (pc' := 150) X53 hx hby at_149 rfl (v := (0 : Int32)) (by decide) ?_
          refine Go.callS (pc' := 153) (W := 2) (argsL := [(.int x0), (.int (0 : Int32))]) (rest := [(.int (0 : Int32)), (.ref b49)]) X53 hx hby hZ14 hown15 (hw _ (List.mem_of_getElem? (i := 8) rfl)) (hw _ (List.mem_of_getElem? (i := 9) rfl)) (hw _ (List.mem_of_getElem? (i := 2) rfl)) (hw _ (List.mem_of_getElem? (i := 10) rfl)) (by decide) (rmch l Z a0 hw x0 0 h51) e54 (by decide) (by decide) (by rw [hml]; rfl) pd_10 rfl rfl rfl (Nat.le_of_eq rfl) at_150 rfl (by decide) (by decide) ?_
          rintro r151 T152 L153 X154 ⟨rfl, rfl, e150⟩
          rw [List.append_nil] at X154
          show Go p e below _ (T152.setTop (mkF m 153 #[.val (.int x0), .val (.int x1), .val (.int x2), .val (.int (1 : Int32)), .val (.int n2), .val (.int (0 : Int32)), .val (.int (0 : Int32)), .val (.ref s1), .val (.ref s2), .val (.ref b17), .val (.ref r1), .val (.ref r2), .val (.ref b49), .val (.int (1 : Int32)), .unset, .unset] [(.int (own_ck x0 0)), (.int (0 : Int32)), (.ref b49)]))
          refine Go.castore (pc' := 154) (i := 0) X154 hx hby hZ14 e150 f64 at_153 rfl (by decide) (by decide) (by decide) ?_
          intro T155 h156 X157 e158 W159 A160
          have f161 : Ar Z h156 r1 .byte (ln0_.toInt + 2) (fun q => .int (Rr1 q)) := f60.other W159 n57
          have f162 : Ar Z h156 r2 .byte (ln0_.toInt + 2) (fun q => .int (Rr2 q)) := f61.other W159 n58
          have z163 : h0.size ≤ h156.size := by rw [Wr.size W159]; exact z62
          have hk164 : T10.heap.size ≤ h156.size := by rw [Wr.size W159]; exact hk63
          have f165 : Ar Z h156 b49 .char 10 (fun q => if q = 0 then (.int (nar .char (own_ck x0 0))) else (.int 0)) := A160
          have N166 : Fr h0.size _ := Fr.snoc X157 (Fr.app (Fr.app (Fr.app (Fr.app (Fr.app (Fr.app (Fr.nil _) N1) N2) N3) Nw0_) Nr1) Nr2) g59
          show Go p e below _ (T155.setTop (mkF m 154 #[.val (.int x0), .val (.int x1), .val (.int x2), .val (.int (1 : Int32)), .val (.int n2), .val (.int (0 : Int32)), .val (.int (0 : Int32)), .val (.ref s1), .val (.ref s2), .val (.ref b17), .val (.ref r1), .val (.ref r2), .val (.ref b49), .val (.int (1 : Int32)), .unset, .unset] []))
          refine Go.iloadN (pc' := 155) X157 hx hby at_154 rfl rfl ?_
          refine Go.iconst (pc' := 156) X157 hx hby at_155 rfl (v := (1 : Int32)) (by decide) ?_
          refine Go.icmpY (pc' := 172) X157 hx hby at_156 (by decide) (by decide) (show (1 : Int32) ≤ (1 : Int32) from by decide) ?_
          refine Go.iloadN (pc' := 173) X157 hx hby at_172 rfl rfl ?_
          refine Go.iconst (pc' := 174) X157 hx hby at_173 rfl (v := (2 : Int32)) (by decide) ?_
          refine Go.icmpY (pc' := 190) X157 hx hby at_174 (by decide) (by decide) (show (1 : Int32) ≤ (2 : Int32) from by decide) ?_
          have f167 : Ar Z h156 b49 .char 10 (fun q => .int ((fun q => if q = 0 then own_ck x0 0 else 0) q)) := f165.congr (fun i h1 h2 => by simp only [apply_ite Value.int, own_nc7 (own_ckr x0 _), own_nc7 (own_ckr x1 _), own_nc32, own_nc13, own_nc10])
          exact jn148 (T155, h156, _, (1 : Int32), (fun q => if q = 0 then own_ck x0 0 else 0)) ⟨X157, e158, N166, z163, hk164, by (try dsimp only); decide, f167, fun q h1 h2 => by
          have z : (1 : Int32).toInt = 1 := by decide
          (try dsimp only at h2)
          rw [z] at h2
          have t : q = 0 := (by omega)
          rcases t with rfl <;> rfl, f161, f162⟩
        ·
          subst q
          show Go p e below _ (T50.setTop (mkF m 137 #[.val (.int x0), .val (.int x1), .val (.int x2), .val (.int (2 : Int32)), .val (.int n2), .val (.int (0 : Int32)), .val (.int (0 : Int32)), .val (.ref s1), .val (.ref s2), .val (.ref b17), .val (.ref r1), .val (.ref r2), .val (.ref b49), .val (.int (0 : Int32)), .unset, .unset] []))
          refine Go.iloadN (pc' := 138) X53 hx hby at_137 rfl rfl ?_
          refine Go.ifN (pc' := 141) X53 hx hby at_138 rfl (show ¬ ((2 : Int32) ≤ 0) from by decide) ?_
          refine Go.aload (pc' := 143) X53 hx hby at_141 rfl rfl rfl ?_
          refine Go.iload (pc' := 145) X53 hx hby at_143 rfl rfl ?_
          refine Go.iinc (w := (0 : Int32) + (1 : Int32)) (Ls' := #[.val (.int x0), .val (.int x1), .val (.int x2), .val (.int (2 : Int32)), .val (.int n2), .val (.int (0 : Int32)), .val (.int (0 : Int32)), .val (.ref s1), .val (.ref s2), .val (.ref b17), .val (.ref r1), .val (.ref r2), .val (.ref b49), .val (.int ((0 : Int32) + (1 : Int32))), .unset, .unset]) (pc' := 148) X53 hx hby at_145 rfl rfl rfl rfl ?_
          change Go p e below _ (T50.setTop (mkF m 148 #[.val (.int x0), .val (.int x1), .val (.int x2), .val (.int (2 : Int32)), .val (.int n2), .val (.int (0 : Int32)), .val (.int (0 : Int32)), .val (.ref s1), .val (.ref s2), .val (.ref b17), .val (.ref r1), .val (.ref r2), .val (.ref b49), .val (.int (1 : Int32)), .unset, .unset] [(.int (0 : Int32)), (.ref b49)]))
          refine Go.iloadN (pc' := 149) X53 hx hby at_148 rfl rfl ?_
          refine Go.iconst (pc' := 150) X53 hx hby at_149 rfl (v := (0 : Int32)) (by decide) ?_
          refine Go.callS (pc' := 153) (W := 2) (argsL := [(.int x0), (.int (0 : Int32))]) (rest := [(.int (0 : Int32)), (.ref b49)]) X53 hx hby hZ14 hown15 (hw _ (List.mem_of_getElem? (i := 8) rfl)) (hw _ (List.mem_of_getElem? (i := 9) rfl)) (hw _ (List.mem_of_getElem? (i := 2) rfl)) (hw _ (List.mem_of_getElem? (i := 10) rfl)) (by decide) (rmch l Z a0 hw x0 0 h51) e54 (by decide) (by decide) (by rw [hml]; rfl) pd_10 rfl rfl rfl (Nat.le_of_eq rfl) at_150 rfl (by decide) (by decide) ?_
          rintro r169 T170 L171 X172 ⟨rfl, rfl, e168⟩
          rw [List.append_nil] at X172
          show Go p e below _ (T170.setTop (mkF m 153 #[.val (.int x0), .val (.int x1), .val (.int x2), .val (.int (2 : Int32)), .val (.int n2), .val (.int (0 : Int32)), .val (.int (0 : Int32)), .val (.ref s1), .val (.ref s2), .val (.ref b17), .val (.ref r1), .val (.ref r2), .val (.ref b49), .val (.int (1 : Int32)), .unset, .unset] [(.int (own_ck x0 0)), (.int (0 : Int32)), (.ref b49)]))
          refine Go.castore (pc' := 154) (i := 0) X172 hx hby hZ14 e168 f64 at_153 rfl (by decide) (by decide) (by decide) ?_
          intro T173 h174 X175 e176 W177 A178
          have f179 : Ar Z h174 r1 .byte (ln0_.toInt + 2) (fun q => .int (Rr1 q)) := f60.other W177 n57
          have f180 : Ar Z h174 r2 .byte (ln0_.toInt + 2) (fun q => .int (Rr2 q)) := f61.other W177 n58
          have z181 : h0.size ≤ h174.size := by rw [Wr.size W177]; exact z62
          have hk182 : T10.heap.size ≤ h174.size := by rw [Wr.size W177]; exact hk63
          have f183 : Ar Z h174 b49 .char 10 (fun q => if q = 0 then (.int (nar .char (own_ck x0 0))) else (.int 0)) := A178
          have N184 : Fr h0.size _ := Fr.snoc X175 (Fr.app (Fr.app (Fr.app (Fr.app (Fr.app (Fr.app (Fr.nil _) N1) N2) N3) Nw0_) Nr1) Nr2) g59
          show Go p e below _ (T173.setTop (mkF m 154 #[.val (.int x0), .val (.int x1), .val (.int x2), .val (.int (2 : Int32)), .val (.int n2), .val (.int (0 : Int32)), .val (.int (0 : Int32)), .val (.ref s1), .val (.ref s2), .val (.ref b17), .val (.ref r1), .val (.ref r2), .val (.ref b49), .val (.int (1 : Int32)), .unset, .unset] []))
          refine Go.iloadN (pc' := 155) X175 hx hby at_154 rfl rfl ?_
          refine Go.iconst (pc' := 156) X175 hx hby at_155 rfl (v := (1 : Int32)) (by decide) ?_
          refine Go.icmpN (pc' := 159) X175 hx hby at_156 rfl (show ¬ ((2 : Int32) ≤ (1 : Int32)) from by decide) ?_
          refine Go.aload (pc' := 161) X175 hx hby at_159 rfl rfl rfl ?_
          refine Go.iload (pc' := 163) X175 hx hby at_161 rfl rfl ?_
          refine Go.iinc (w := (1 : Int32) + (1 : Int32)) (Ls' := #[.val (.int x0), .val (.int x1), .val (.int x2), .val (.int (2 : Int32)), .val (.int n2), .val (.int (0 : Int32)), .val (.int (0 : Int32)), .val (.ref s1), .val (.ref s2), .val (.ref b17), .val (.ref r1), .val (.ref r2), .val (.ref b49), .val (.int ((1 : Int32) + (1 : Int32))), .unset, .unset]) (pc' := 166) X175 hx hby at_163 rfl rfl rfl rfl ?_
          change Go p e below _ (T173.setTop (mkF m 166 #[.val (.int x0), .val (.int x1), .val (.int x2), .val (.int (2 : Int32)), .val (.int n2), .val (.int (0 : Int32)), .val (.int (0 : Int32)), .val (.ref s1), .val (.ref s2), .val (.ref b17), .val (.ref r1), .val (.ref r2), .val (.ref b49), .val (.int (2 : Int32)), .unset, .unset] [(.int (1 : Int32)), (.ref b49)]))
          refine Go.iloadN (pc' := 167) X175 hx hby at_166 rfl rfl ?_
          refine Go.iconst (pc' := 168) X175 hx hby at_167 rfl (v := (1 : Int32)) (by decide) ?_
          refine Go.callS (pc' := 171) (W := 2) (argsL := [(.int x0), (.int (1 : Int32))]) (rest := [(.int (1 : Int32)), (.ref b49)]) X175 hx hby hZ14 hown15 (hw _ (List.mem_of_getElem? (i := 8) rfl)) (hw _ (List.mem_of_getElem? (i := 9) rfl)) (hw _ (List.mem_of_getElem? (i := 2) rfl)) (hw _ (List.mem_of_getElem? (i := 10) rfl)) (by decide) (rmch l Z a0 hw x0 1 h174) e176 (by decide) (by decide) (by rw [hml]; rfl) pd_10 rfl rfl rfl (Nat.le_of_eq rfl) at_168 rfl (by decide) (by decide) ?_
          rintro r186 T187 L188 X189 ⟨rfl, rfl, e185⟩
          rw [List.append_nil] at X189
          show Go p e below _ (T187.setTop (mkF m 171 #[.val (.int x0), .val (.int x1), .val (.int x2), .val (.int (2 : Int32)), .val (.int n2), .val (.int (0 : Int32)), .val (.int (0 : Int32)), .val (.ref s1), .val (.ref s2), .val (.ref b17), .val (.ref r1), .val (.ref r2), .val (.ref b49), .val (.int (2 : Int32)), .unset, .unset] [(.int (own_ck x0 1)), (.int (1 : Int32)), (.ref b49)]))
          refine Go.castore (pc' := 172) (i := 1) X189 hx hby hZ14 e185 f183 at_171 rfl (by decide) (by decide) (by decide) ?_
          intro T190 h191 X192 e193 W194 A195
          have f196 : Ar Z h191 r1 .byte (ln0_.toInt + 2) (fun q => .int (Rr1 q)) := f179.other W194 n57
          have f197 : Ar Z h191 r2 .byte (ln0_.toInt + 2) (fun q => .int (Rr2 q)) := f180.other W194 n58
          have z198 : h0.size ≤ h191.size := by rw [Wr.size W194]; exact z181
          have hk199 : T10.heap.size ≤ h191.size := by rw [Wr.size W194]; exact hk182
          have f200 : Ar Z h191 b49 .char 10 (fun q => if q = 1 then (.int (nar .char (own_ck x0 1))) else if q = 0 then (.int (nar .char (own_ck x0 0))) else (.int 0)) := A195
          have N201 : Fr h0.size _ := Fr.snoc X192 N184 g59
          show Go p e below _ (T190.setTop (mkF m 172 #[.val (.int x0), .val (.int x1), .val (.int x2), .val (.int (2 : Int32)), .val (.int n2), .val (.int (0 : Int32)), .val (.int (0 : Int32)), .val (.ref s1), .val (.ref s2), .val (.ref b17), .val (.ref r1), .val (.ref r2), .val (.ref b49), .val (.int (2 : Int32)), .unset, .unset] []))
          refine Go.iloadN (pc' := 173) X192 hx hby at_172 rfl rfl ?_
          refine Go.iconst (pc' := 174) X192 hx hby at_173 rfl (v := (2 : Int32)) (by decide) ?_
          refine Go.icmpY (pc' := 190) X192 hx hby at_174 (by decide) (by decide) (show (2 : Int32) ≤ (2 : Int32) from by decide) ?_
          have f202 : Ar Z h191 b49 .char 10 (fun q => .int ((fun q => if q = 1 then own_ck x0 1 else if q = 0 then own_ck x0 0 else 0) q)) := f200.congr (fun i h1 h2 => by simp only [apply_ite Value.int, own_nc7 (own_ckr x0 _), own_nc7 (own_ckr x1 _), own_nc32, own_nc13, own_nc10])
          exact jn148 (T190, h191, _, (2 : Int32), (fun q => if q = 1 then own_ck x0 1 else if q = 0 then own_ck x0 0 else 0)) ⟨X192, e193, N201, z198, hk199, by (try dsimp only); decide, f202, fun q h1 h2 => by
          have z : (2 : Int32).toInt = 2 := by decide
          (try dsimp only at h2)
          rw [z] at h2
          have t : q = 0 ∨ q = 1 := (by omega)
          rcases t with rfl | rfl <;> rfl, f196, f197⟩
        ·
          subst q
          show Go p e below _ (T50.setTop (mkF m 137 #[.val (.int x0), .val (.int x1), .val (.int x2), .val (.int (3 : Int32)), .val (.int n2), .val (.int (0 : Int32)), .val (.int (0 : Int32)), .val (.ref s1), .val (.ref s2), .val (.ref b17), .val (.ref r1), .val (.ref r2), .val (.ref b49), .val (.int (0 : Int32)), .unset, .unset] []))
          refine Go.iloadN (pc' := 138) X53 hx hby at_137 rfl rfl ?_
          refine Go.ifN (pc' := 141) X53 hx hby at_138 rfl (show ¬ ((3 : Int32) ≤ 0) from by decide) ?_
          refine Go.aload (pc' := 143) X53 hx hby at_141 rfl rfl rfl ?_
          refine Go.iload (pc' := 145) X53 hx hby at_143 rfl rfl ?_
          refine Go.iinc (w := (0 : Int32) + (1 : Int32)) (Ls' := #[.val (.int x0), .val (.int x1), .val (.int x2), .val (.int (3 : Int32)), .val (.int n2), .val (.int (0 : Int32)), .val (.int (0 : Int32)), .val (.ref s1), .val (.ref s2), .val (.ref b17), .val (.ref r1), .val (.ref r2), .val (.ref b49), .val (.int ((0 : Int32) + (1 : Int32))), .unset, .unset]) (pc' := 148) X53 hx hby at_145 rfl rfl rfl rfl ?_
          change Go p e below _ (T50.setTop (mkF m 148 #[.val (.int x0), .val (.int x1), .val (.int x2), .val (.int (3 : Int32)), .val (.int n2), .val (.int (0 : Int32)), .val (.int (0 : Int32)), .val (.ref s1), .val (.ref s2), .val (.ref b17), .val (.ref r1), .val (.ref r2), .val (.ref b49), .val (.int (1 : Int32)), .unset, .unset] [(.int (0 : Int32)), (.ref b49)]))
          refine Go.iloadN (pc' := 149) X53 hx hby at_148 rfl rfl ?_
          refine Go.iconst (pc' := 150) X53 hx hby at_149 rfl (v := (0 : Int32)) (by decide) ?_
          refine Go.callS (pc' := 153) (W := 2) (argsL := [(.int x0), (.int (0 : Int32))]) (rest := [(.int (0 : Int32)), (.ref b49)]) X53 hx hby hZ14 hown15 (hw _ (List.mem_of_getElem? (i := 8) rfl)) (hw _ (List.mem_of_getElem? (i := 9) rfl)) (hw _ (List.mem_of_getElem? (i := 2) rfl)) (hw _ (List.mem_of_getElem? (i := 10) rfl)) (by decide) (rmch l Z a0 hw x0 0 h51) e54 (by decide) (by decide) (by rw [hml]; rfl) pd_10 rfl rfl rfl (Nat.le_of_eq rfl) at_150 rfl (by decide) (by decide) ?_
          rintro r204 T205 L206 X207 ⟨rfl, rfl, e203⟩
          rw [List.append_nil] at X207
          show Go p e below _ (T205.setTop (mkF m 153 #[.val (.int x0), .val (.int x1), .val (.int x2), .val (.int (3 : Int32)), .val (.int n2), .val (.int (0 : Int32)), .val (.int (0 : Int32)), .val (.ref s1), .val (.ref s2), .val (.ref b17), .val (.ref r1), .val (.ref r2), .val (.ref b49), .val (.int (1 : Int32)), .unset, .unset] [(.int (own_ck x0 0)), (.int (0 : Int32)), (.ref b49)]))
          refine Go.castore (pc' := 154) (i := 0) X207 hx hby hZ14 e203 f64 at_153 rfl (by decide) (by decide) (by decide) ?_
          intro T208 h209 X210 e211 W212 A213
          have f214 : Ar Z h209 r1 .byte (ln0_.toInt + 2) (fun q => .int (Rr1 q)) := f60.other W212 n57
          have f215 : Ar Z h209 r2 .byte (ln0_.toInt + 2) (fun q => .int (Rr2 q)) := f61.other W212 n58
          have z216 : h0.size ≤ h209.size := by rw [Wr.size W212]; exact z62
          have hk217 : T10.heap.size ≤ h209.size := by rw [Wr.size W212]; exact hk63
          have f218 : Ar Z h209 b49 .char 10 (fun q => if q = 0 then (.int (nar .char (own_ck x0 0))) else (.int 0)) := A213
          have N219 : Fr h0.size _ := Fr.snoc X210 (Fr.app (Fr.app (Fr.app (Fr.app (Fr.app (Fr.app (Fr.nil _) N1) N2) N3) Nw0_) Nr1) Nr2) g59
          show Go p e below _ (T208.setTop (mkF m 154 #[.val (.int x0), .val (.int x1), .val (.int x2), .val (.int (3 : Int32)), .val (.int n2), .val (.int (0 : Int32)), .val (.int (0 : Int32)), .val (.ref s1), .val (.ref s2), .val (.ref b17), .val (.ref r1), .val (.ref r2), .val (.ref b49), .val (.int (1 : Int32)), .unset, .unset] []))
          refine Go.iloadN (pc' := 155) X210 hx hby at_154 rfl rfl ?_
          refine Go.iconst (pc' := 156) X210 hx hby at_155 rfl (v := (1 : Int32)) (by decide) ?_
          refine Go.icmpN (pc' := 159) X210 hx hby at_156 rfl (show ¬ ((3 : Int32) ≤ (1 : Int32)) from by decide) ?_
          refine Go.aload (pc' := 161) X210 hx hby at_159 rfl rfl rfl ?_
          refine Go.iload (pc' := 163) X210 hx hby at_161 rfl rfl ?_
          refine Go.iinc (w := (1 : Int32) + (1 : Int32)) (Ls' := #[.val (.int x0), .val (.int x1), .val (.int x2), .val (.int (3 : Int32)), .val (.int n2), .val (.int (0 : Int32)), .val (.int (0 : Int32)), .val (.ref s1), .val (.ref s2), .val (.ref b17), .val (.ref r1), .val (.ref r2), .val (.ref b49), .val (.int ((1 : Int32) + (1 : Int32))), .unset, .unset]) (pc' := 166) X210 hx hby at_163 rfl rfl rfl rfl ?_
          change Go p e below _ (T208.setTop (mkF m 166 #[.val (.int x0), .val (.int x1), .val (.int x2), .val (.int (3 : Int32)), .val (.int n2), .val (.int (0 : Int32)), .val (.int (0 : Int32)), .val (.ref s1), .val (.ref s2), .val (.ref b17), .val (.ref r1), .val (.ref r2), .val (.ref b49), .val (.int (2 : Int32)), .unset, .unset] [(.int (1 : Int32)), (.ref b49)]))
          refine Go.iloadN (pc' := 167) X210 hx hby at_166 rfl rfl ?_
          refine Go.iconst (pc' := 168) X210 hx hby at_167 rfl (v := (1 : Int32)) (by decide) ?_
          refine Go.callS (pc' := 171) (W := 2) (argsL := [(.int x0), (.int (1 : Int32))]) (rest := [(.int (1 : Int32)), (.ref b49)]) X210 hx hby hZ14 hown15 (hw _ (List.mem_of_getElem? (i := 8) rfl)) (hw _ (List.mem_of_getElem? (i := 9) rfl)) (hw _ (List.mem_of_getElem? (i := 2) rfl)) (hw _ (List.mem_of_getElem? (i := 10) rfl)) (by decide) (rmch l Z a0 hw x0 1 h209) e211 (by decide) (by decide) (by rw [hml]; rfl) pd_10 rfl rfl rfl (Nat.le_of_eq rfl) at_168 rfl (by decide) (by decide) ?_
          rintro r221 T222 L223 X224 ⟨rfl, rfl, e220⟩
          rw [List.append_nil] at X224
          show Go p e below _ (T222.setTop (mkF m 171 #[.val (.int x0), .val (.int x1), .val (.int x2), .val (.int (3 : Int32)), .val (.int n2), .val (.int (0 : Int32)), .val (.int (0 : Int32)), .val (.ref s1), .val (.ref s2), .val (.ref b17), .val (.ref r1), .val (.ref r2), .val (.ref b49), .val (.int (2 : Int32)), .unset, .unset] [(.int (own_ck x0 1)), (.int (1 : Int32)), (.ref b49)]))
          refine Go.castore (pc' := 172) (i := 1) X224 hx hby hZ14 e220 f218 at_171 rfl (by decide) (by decide) (by decide) ?_
          intro T225 h226 X227 e228 W229 A230
          have f231 : Ar Z h226 r1 .byte (ln0_.toInt + 2) (fun q => .int (Rr1 q)) := f214.other W229 n57
          have f232 : Ar Z h226 r2 .byte (ln0_.toInt + 2) (fun q => .int (Rr2 q)) := f215.other W229 n58
          have z233 : h0.size ≤ h226.size := by rw [Wr.size W229]; exact z216
          have hk234 : T10.heap.size ≤ h226.size := by rw [Wr.size W229]; exact hk217
          have f235 : Ar Z h226 b49 .char 10 (fun q => if q = 1 then (.int (nar .char (own_ck x0 1))) else if q = 0 then (.int (nar .char (own_ck x0 0))) else (.int 0)) := A230
          have N236 : Fr h0.size _ := Fr.snoc X227 N219 g59
          show Go p e below _ (T225.setTop (mkF m 172 #[.val (.int x0), .val (.int x1), .val (.int x2), .val (.int (3 : Int32)), .val (.int n2), .val (.int (0 : Int32)), .val (.int (0 : Int32)), .val (.ref s1), .val (.ref s2), .val (.ref b17), .val (.ref r1), .val (.ref r2), .val (.ref b49), .val (.int (2 : Int32)), .unset, .unset] []))
          refine Go.iloadN (pc' := 173) X227 hx hby at_172 rfl rfl ?_
          refine Go.iconst (pc' := 174) X227 hx hby at_173 rfl (v := (2 : Int32)) (by decide) ?_
          refine Go.icmpN (pc' := 177) X227 hx hby at_174 rfl (show ¬ ((3 : Int32) ≤ (2 : Int32)) from by decide) ?_
          refine Go.aload (pc' := 179) X227 hx hby at_177 rfl rfl rfl ?_
          refine Go.iload (pc' := 181) X227 hx hby at_179 rfl rfl ?_
          refine Go.iinc (w := (2 : Int32) + (1 : Int32)) (Ls' := #[.val (.int x0), .val (.int x1), .val (.int x2), .val (.int (3 : Int32)), .val (.int n2), .val (.int (0 : Int32)), .val (.int (0 : Int32)), .val (.ref s1), .val (.ref s2), .val (.ref b17), .val (.ref r1), .val (.ref r2), .val (.ref b49), .val (.int ((2 : Int32) + (1 : Int32))), .unset, .unset]) (pc' := 184) X227 hx hby at_181 rfl rfl rfl rfl ?_
          change Go p e below _ (T225.setTop (mkF m 184 #[.val (.int x0), .val (.int x1), .val (.int x2), .val (.int (3 : Int32)), .val (.int n2), .val (.int (0 : Int32)), .val (.int (0 : Int32)), .val (.ref s1), .val (.ref s2), .val (.ref b17), .val (.ref r1), .val (.ref r2), .val (.ref b49), .val (.int (3 : Int32)), .unset, .unset] [(.int (2 : Int32)), (.ref b49)]))
          refine Go.iloadN (pc' := 185) X227 hx hby at_184 rfl rfl ?_
          refine Go.iconst (pc' := 186) X227 hx hby at_185 rfl (v := (2 : Int32)) (by decide) ?_
          refine Go.callS (pc' := 189) (W := 2) (argsL := [(.int x0), (.int (2 : Int32))]) (rest := [(.int (2 : Int32)), (.ref b49)]) X227 hx hby hZ14 hown15 (hw _ (List.mem_of_getElem? (i := 8) rfl)) (hw _ (List.mem_of_getElem? (i := 9) rfl)) (hw _ (List.mem_of_getElem? (i := 2) rfl)) (hw _ (List.mem_of_getElem? (i := 10) rfl)) (by decide) (rmch l Z a0 hw x0 2 h226) e228 (by decide) (by decide) (by rw [hml]; rfl) pd_10 rfl rfl rfl (Nat.le_of_eq rfl) at_186 rfl (by decide) (by decide) ?_
          rintro r238 T239 L240 X241 ⟨rfl, rfl, e237⟩
          rw [List.append_nil] at X241
          show Go p e below _ (T239.setTop (mkF m 189 #[.val (.int x0), .val (.int x1), .val (.int x2), .val (.int (3 : Int32)), .val (.int n2), .val (.int (0 : Int32)), .val (.int (0 : Int32)), .val (.ref s1), .val (.ref s2), .val (.ref b17), .val (.ref r1), .val (.ref r2), .val (.ref b49), .val (.int (3 : Int32)), .unset, .unset] [(.int (own_ck x0 2)), (.int (2 : Int32)), (.ref b49)]))
          refine Go.castore (pc' := 190) (i := 2) X241 hx hby hZ14 e237 f235 at_189 rfl (by decide) (by decide) (by decide) ?_
          intro T242 h243 X244 e245 W246 A247
          have f248 : Ar Z h243 r1 .byte (ln0_.toInt + 2) (fun q => .int (Rr1 q)) := f231.other W246 n57
          have f249 : Ar Z h243 r2 .byte (ln0_.toInt + 2) (fun q => .int (Rr2 q)) := f232.other W246 n58
          have z250 : h0.size ≤ h243.size := by rw [Wr.size W246]; exact z233
          have hk251 : T10.heap.size ≤ h243.size := by rw [Wr.size W246]; exact hk234
          have f252 : Ar Z h243 b49 .char 10 (fun q => if q = 2 then (.int (nar .char (own_ck x0 2))) else if q = 1 then (.int (nar .char (own_ck x0 1))) else if q = 0 then (.int (nar .char (own_ck x0 0))) else (.int 0)) := A247
          have N253 : Fr h0.size _ := Fr.snoc X244 N236 g59
          show Go p e below _ (T242.setTop (mkF m 190 #[.val (.int x0), .val (.int x1), .val (.int x2), .val (.int (3 : Int32)), .val (.int n2), .val (.int (0 : Int32)), .val (.int (0 : Int32)), .val (.ref s1), .val (.ref s2), .val (.ref b17), .val (.ref r1), .val (.ref r2), .val (.ref b49), .val (.int (3 : Int32)), .unset, .unset] []))
          have f254 : Ar Z h243 b49 .char 10 (fun q => .int ((fun q => if q = 2 then own_ck x0 2 else if q = 1 then own_ck x0 1 else if q = 0 then own_ck x0 0 else 0) q)) := f252.congr (fun i h1 h2 => by simp only [apply_ite Value.int, own_nc7 (own_ckr x0 _), own_nc7 (own_ckr x1 _), own_nc32, own_nc13, own_nc10])
          exact jn148 (T242, h243, _, (3 : Int32), (fun q => if q = 2 then own_ck x0 2 else if q = 1 then own_ck x0 1 else if q = 0 then own_ck x0 0 else 0)) ⟨X244, e245, N253, z250, hk251, by (try dsimp only); decide, f254, fun q h1 h2 => by
          have z : (3 : Int32).toInt = 3 := by decide
          (try dsimp only at h2)
          rw [z] at h2
          have t : q = 0 ∨ q = 1 ∨ q = 2 := (by omega)
          rcases t with rfl | rfl | rfl <;> rfl, f248, f249⟩
    ·
      refine Go.iconst (pc' := 35) X0 hx hby at_34 rfl (v := (1 : Int32)) (by decide) ?_
      refine Go.goto (pc' := 39) X0 hx hby at_35 (by decide) (by decide) ?_
      refine Go.istore (Ls' := #[.val (.int x0), .val (.int x1), .val (.int x2), .val (.int n1), .val (.int n2), .val (.int (0 : Int32)), .val (.int (1 : Int32)), .unset, .unset, .unset, .unset, .unset, .unset, .unset, .unset, .unset]) (pc' := 41) X0 hx hby at_39 rfl rfl ?_
      refine Go.iloadN (pc' := 42) X0 hx hby at_41 rfl rfl ?_
      refine Go.iloadN (pc' := 43) X0 hx hby at_42 rfl rfl ?_
      refine Go.callSR (pc' := 46) (W := 0) (argsL := [(.int x0), (.int n1)]) (rest := []) X0 hx hby hZ hown (hw _ (List.mem_of_getElem? (i := 0) rfl)) (hw _ (List.mem_of_getElem? (i := 1) rfl)) (hw _ (List.mem_of_getElem? (i := 2) rfl)) (hw _ (List.mem_of_getElem? (i := 3) rfl)) (by decide) (rmMK l Z a0 hw x0 n1 h0 h0.size kk sf O0 SS (Nat.le_refl _) d1) e0 (by decide) (by decide) (by rw [hml]; rfl) pd_12 rfl rfl rfl (Nat.le_of_eq rfl) at_43 rfl (by decide) (by decide) hS (Nat.zero_le _) (own_ew hw) hC (by simp) ?_
      rintro r255 T256 L257 X258 S259 hZ260 hown261 g262 ⟨⟨s1, t1, rfl, N1, K1, S1⟩, R1⟩
      have O1 := O0.keep K1 all0
      show Go p e below _ (T256.setTop (mkF m 46 #[.val (.int x0), .val (.int x1), .val (.int x2), .val (.int n1), .val (.int n2), .val (.int (0 : Int32)), .val (.int (1 : Int32)), .unset, .unset, .unset, .unset, .unset, .unset, .unset, .unset, .unset] [(.ref s1)]))
      refine Go.astore (Ls' := #[.val (.int x0), .val (.int x1), .val (.int x2), .val (.int n1), .val (.int n2), .val (.int (0 : Int32)), .val (.int (1 : Int32)), .val (.ref s1), .unset, .unset, .unset, .unset, .unset, .unset, .unset, .unset]) (pc' := 48) X258 hx hby at_46 rfl rfl rfl ?_
      refine Go.iloadN (pc' := 49) X258 hx hby at_48 rfl rfl ?_
      refine Go.iload (pc' := 51) X258 hx hby at_49 rfl rfl ?_
      refine Go.callSR (pc' := 54) (W := 0) (argsL := [(.int x1), (.int n2)]) (rest := []) X258 hx hby hZ260 hown261 (hw _ (List.mem_of_getElem? (i := 0) rfl)) (hw _ (List.mem_of_getElem? (i := 1) rfl)) (hw _ (List.mem_of_getElem? (i := 2) rfl)) (hw _ (List.mem_of_getElem? (i := 3) rfl)) (by decide) (rmMK l Z a0 hw x1 n2 T256.heap h0.size kk sf O1 SS K1.1 d2) rfl (by decide) (by decide) (by rw [hml]; rfl) pd_12 rfl rfl rfl (Nat.le_of_eq rfl) at_51 rfl (by decide) (by decide) S259 (Nat.le_refl _) (own_ew hw) R1.1 (by simp) ?_
      rintro r263 T264 L265 X266 S267 hZ268 hown269 g270 ⟨⟨s2, t2, rfl, N2, K2, S2⟩, R2⟩
      replace S1 := S1.keep K2 nin0 nin0
      have O2 := O1.keep K2 all0
      have Z2 : h0.size ≤ T264.heap.size := Nat.le_trans K1.1 K2.1
      show Go p e below _ (T264.setTop (mkF m 54 #[.val (.int x0), .val (.int x1), .val (.int x2), .val (.int n1), .val (.int n2), .val (.int (0 : Int32)), .val (.int (1 : Int32)), .val (.ref s1), .unset, .unset, .unset, .unset, .unset, .unset, .unset, .unset] [(.ref s2)]))
      refine Go.astore (Ls' := #[.val (.int x0), .val (.int x1), .val (.int x2), .val (.int n1), .val (.int n2), .val (.int (0 : Int32)), .val (.int (1 : Int32)), .val (.ref s1), .val (.ref s2), .unset, .unset, .unset, .unset, .unset, .unset, .unset]) (pc' := 56) X266 hx hby at_54 rfl rfl rfl ?_
      refine Go.new_ (pc' := 59) X266 hx hby hZ268 hown269 (hw _ (List.mem_of_getElem? (i := 40) rfl)) (hw _ (List.mem_of_getElem? (i := 41) rfl)) (hw _ (List.mem_of_getElem? (i := 42) rfl)) rfl at_56 rfl (by decide) (by decide) ?_
      intro b271 T272 h273 g274 X275 e276 E277 A278 D279
      have g280 : h0.size ≤ b271 := by rw [g274]; exact Z2
      have f281 : Old Z h0.size h273 := O2.ext E277
      have z282 : h0.size ≤ h273.size := Nat.le_trans Z2 E277.1
      have hk283 : T264.heap.size ≤ h273.size := Nat.le_trans (Nat.le_refl _) E277.1
      have f284 : Exa Z h273 b271 "com/example/vellum_channels/vellumchannels/frame/HeaderLine" := A278
      have f285 : Fld Z h273 b271 "com/example/vellum_channels/vellumchannels/frame/HeaderLine" "octets" "[B" .null := D279 (Or.inl (hw _ (List.mem_of_getElem? (i := 48) rfl))) (ty := (.array .byte)) (by decide)
      have f286 : Fld Z h273 b271 "com/example/vellum_channels/vellumchannels/frame/HeaderLine" "length" "I" (.int 0) := D279 (Or.inl (hw _ (List.mem_of_getElem? (i := 59) rfl))) (ty := .int) (by decide)
      show Go p e below _ (T272.setTop (mkF m 59 #[.val (.int x0), .val (.int x1), .val (.int x2), .val (.int n1), .val (.int n2), .val (.int (0 : Int32)), .val (.int (1 : Int32)), .val (.ref s1), .val (.ref s2), .unset, .unset, .unset, .unset, .unset, .unset, .unset] [(.ref b271)]))
      have gA : T264.heap.size ≤ b271 := by rw [g274]; exact Nat.le_refl _
      replace S1 := S1.ext E277
      replace S2 := S2.ext E277
      refine Go.dup (pc' := 60) X275 hx hby at_59 rfl rfl ?_
      refine Go.callI (pc' := 63) (a := b271) (W := 1) (argsL := []) (rest := [(.ref b271)]) X275 hx hby rfl hZ268 hown269 (hw _ (List.mem_of_getElem? (i := 43) rfl)) (hw _ (List.mem_of_getElem? (i := 44) rfl)) (hw _ (List.mem_of_getElem? (i := 42) rfl)) (hw _ (List.mem_of_getElem? (i := 45) rfl)) (by decide) (rmHI l Z a0 hw b271 h273 h0.size z282 g280 f284 f285 f286) e276 (by decide) (by decide) (by rw [hml]; rfl) pd_2 rfl rfl rfl (Nat.le_of_eq rfl) at_60 rfl (by decide) (by decide) ?_
      rintro r287 T288 L289 X290 ⟨ob, rfl, gf, N3, K3, Ew, Fw, Gw, Aw⟩
      have K24 : Keep T264.heap T288.heap [] := ((Keep.refl T264.heap []).ext E277).trans K3 (allS (Or.inr gA) all0)
      have gob : T264.heap.size ≤ ob := Nat.le_trans E277.1 gf
      have nt1 : t1 ≠ ob := Nat.ne_of_lt (Nat.lt_of_lt_of_le S1.2.2.2.lt gf)
      replace S1 := S1.keep K3 (ninS (Exa.ne S1.1 f284 (by decide)) nin0) (ninS (Ne.symm (Ar.neExa f284 (hw _ (List.mem_of_getElem? (i := 41) rfl)) S1.2.2.2)) nin0)
      have nt2 : t2 ≠ ob := Nat.ne_of_lt (Nat.lt_of_lt_of_le S2.2.2.2.lt gf)
      replace S2 := S2.keep K3 (ninS (Exa.ne S2.1 f284 (by decide)) nin0) (ninS (Ne.symm (Ar.neExa f284 (hw _ (List.mem_of_getElem? (i := 41) rfl)) S2.2.2.2)) nin0)
      have Ow := f281.keep K3 (allS g280 all0)
      have Zw : h0.size ≤ T288.heap.size := Nat.le_trans z282 K3.1
      have hkw : T264.heap.size ≤ T288.heap.size := Nat.le_trans hk283 K3.1
      have gow : h0.size ≤ ob := Nat.le_trans Z2 gob
      show Go p e below _ (T288.setTop (mkF m 63 #[.val (.int x0), .val (.int x1), .val (.int x2), .val (.int n1), .val (.int n2), .val (.int (0 : Int32)), .val (.int (1 : Int32)), .val (.ref s1), .val (.ref s2), .unset, .unset, .unset, .unset, .unset, .unset, .unset] [(.ref b271)]))
      refine Go.astore (Ls' := #[.val (.int x0), .val (.int x1), .val (.int x2), .val (.int n1), .val (.int n2), .val (.int (0 : Int32)), .val (.int (1 : Int32)), .val (.ref s1), .val (.ref s2), .val (.ref b271), .unset, .unset, .unset, .unset, .unset, .unset]) (pc' := 65) X290 hx hby at_63 rfl rfl rfl ?_
      refine Go.iload (pc' := 67) X290 hx hby at_65 rfl rfl ?_
      refine Go.ifY (pc' := 78) X290 hx hby at_67 (by decide) (by decide) (show (0 : Int32) = 0 from by decide) ?_
      refine Go.aload (pc' := 80) X290 hx hby at_78 rfl rfl rfl ?_
      refine Go.aload (pc' := 82) X290 hx hby at_80 rfl rfl rfl ?_
      refine Go.callV (C := "com/example/vellum_channels/vellumchannels/frame/HeaderLine") (pc' := 85) (a := b271) (W := 0) (argsL := [(.ref s1)]) (rest := []) X290 hx hby hZ268 hown269 (hw _ (List.mem_of_getElem? (i := 49) rfl)) (hw _ (List.mem_of_getElem? (i := 50) rfl)) (notFace_of_selects (args := #[]) (mvT hZ268 (hw _ (List.mem_of_getElem? (i := 52) rfl)))) (hw _ (List.mem_of_getElem? (i := 52) rfl)) (hw _ (List.mem_of_getElem? (i := 51) rfl)) (hw _ (List.mem_of_getElem? (i := 42) rfl)) (hw _ (List.mem_of_getElem? (i := 53) rfl)) (by decide) (rmWO l Z a0 hw b271 s1 T288.heap h0.size kk sf (0 : Int32) (62 : Int32) (fun _ => (0 : Int32)) ob t1 n1 (own_cf x0) Ow SS Zw g280 gow Ew Fw Gw Aw (fun q => by decide) (by omega) (by omega) (by omega) (by omega) S1 (fun q _ _ => own_cfr x0 q) nt1 (by omega) (by omega) (by omega) (by first | omega | (unfold own_sp; split <;> omega))) rfl Ew (by decide) (by decide) (by rw [hml]; rfl) pd_15 rfl rfl rfl (Nat.le_of_eq rfl) at_82 rfl (by decide) (by decide) ?_
      rintro r291 T292 L293 X294 ⟨o0_, z0_, C0_, ln0_, rfl, Nw0_, Kw0_, qo0_, lq0_, zq0_, cq0_, go0_, Ex0_, Fx0_, Gx0_, Ax0_, yw0_⟩
      obtain ⟨S2', nt2'⟩ := own_sx.word hw S2 Kw0_ Ew Aw nt2 qo0_
      clear S2 nt2
      have S2 := S2'
      have nt2 := nt2'
      clear S2' nt2'
      have lv0_ : ln0_.toInt = n1.toInt := by rw [lq0_]; first | omega | (unfold own_sp; split <;> omega)
      have zv0_ : z0_.toInt = 62 := by rw [zq0_]; unfold own_cap own_rm own_sp; (repeat' split) <;> omega
      replace Ow := Ow.keep Kw0_ (allS g280 (allS gow all0))
      replace Zw : h0.size ≤ T292.heap.size := Nat.le_trans Zw Kw0_.1
      have hkw0_ : T264.heap.size ≤ T292.heap.size := Nat.le_trans hkw Kw0_.1
      clear Ew Fw Gw Aw gow
      have Ew := Ex0_
      have Fw := Fx0_
      have Gw := Gx0_
      have Aw := Ax0_
      have gow := go0_
      show Go p e below _ (T292.setTop (mkF m 85 #[.val (.int x0), .val (.int x1), .val (.int x2), .val (.int n1), .val (.int n2), .val (.int (0 : Int32)), .val (.int (1 : Int32)), .val (.ref s1), .val (.ref s2), .val (.ref b271), .unset, .unset, .unset, .unset, .unset, .unset] [(.ref b271)]))
      refine Go.pop (pc' := 86) X294 hx hby at_85 rfl rfl ?_
      refine Go.iload (pc' := 88) X294 hx hby at_86 rfl rfl ?_
      refine Go.ifN (pc' := 91) X294 hx hby at_88 rfl (show ¬ ((1 : Int32) = 0) from by decide) ?_
      refine Go.aload (pc' := 93) X294 hx hby at_91 rfl rfl rfl ?_
      refine Go.aload (pc' := 95) X294 hx hby at_93 rfl rfl rfl ?_
      refine Go.callV (C := "com/example/vellum_channels/vellumchannels/frame/HeaderLine") (pc' := 98) (a := b271) (W := 0) (argsL := [(.ref s2)]) (rest := []) X294 hx hby hZ268 hown269 (hw _ (List.mem_of_getElem? (i := 49) rfl)) (hw _ (List.mem_of_getElem? (i := 50) rfl)) (notFace_of_selects (args := #[]) (mvT hZ268 (hw _ (List.mem_of_getElem? (i := 52) rfl)))) (hw _ (List.mem_of_getElem? (i := 52) rfl)) (hw _ (List.mem_of_getElem? (i := 51) rfl)) (hw _ (List.mem_of_getElem? (i := 42) rfl)) (hw _ (List.mem_of_getElem? (i := 53) rfl)) (by decide) (rmWO l Z a0 hw b271 s2 T292.heap h0.size kk sf ln0_ z0_ C0_ o0_ t2 n2 (own_cf x1) Ow SS Zw g280 gow Ew Fw Gw Aw yw0_ (by omega) (by omega) (by omega) (by omega) S2 (fun q _ _ => own_cfr x1 q) nt2 (by omega) (by omega) (by omega) (by first | omega | (unfold own_sp; split <;> omega))) rfl Ew (by decide) (by decide) (by rw [hml]; rfl) pd_15 rfl rfl rfl (Nat.le_of_eq rfl) at_95 rfl (by decide) (by decide) ?_
      rintro r295 T296 L297 X298 ⟨o1_, z1_, C1_, ln1_, rfl, Nw1_, Kw1_, qo1_, lq1_, zq1_, cq1_, go1_, Ex1_, Fx1_, Gx1_, Ax1_, yw1_⟩
      have lv1_ : ln1_.toInt = n1.toInt + own_sp n1.toInt + n2.toInt := by rw [lq1_]; first | omega | (unfold own_sp; split <;> omega)
      have zv1_ : z1_.toInt = 62 := by rw [zq1_]; unfold own_cap own_rm own_sp; (repeat' split) <;> omega
      replace Ow := Ow.keep Kw1_ (allS g280 (allS gow all0))
      replace Zw : h0.size ≤ T296.heap.size := Nat.le_trans Zw Kw1_.1
      have hkw1_ : T264.heap.size ≤ T296.heap.size := Nat.le_trans hkw0_ Kw1_.1
      clear Ew Fw Gw Aw gow
      have Ew := Ex1_
      have Fw := Fx1_
      have Gw := Gx1_
      have Aw := Ax1_
      have gow := go1_
      show Go p e below _ (T296.setTop (mkF m 98 #[.val (.int x0), .val (.int x1), .val (.int x2), .val (.int n1), .val (.int n2), .val (.int (0 : Int32)), .val (.int (1 : Int32)), .val (.ref s1), .val (.ref s2), .val (.ref b271), .unset, .unset, .unset, .unset, .unset, .unset] [(.ref b271)]))
      refine Go.pop (pc' := 99) X298 hx hby at_98 rfl rfl ?_
      refine Go.aload (pc' := 101) X298 hx hby at_99 rfl rfl rfl ?_
      have c1s : ∀ j : Int, 0 ≤ j → j < (0 + n1.toInt) → C0_ (0 + j) = own_t0 x0 j := by
        intro j h1 h2
        rw [cq0_ _ (by omega) (by omega)]
        unfold own_w own_sp own_t0; rw [v0, if_neg (by omega), if_neg (by omega), if_neg (by omega)]; congr 1; omega
      have spB : own_sp ln0_.toInt = (own_sp n1.toInt) := by rw [lv0_]
      have c2s : ∀ j : Int, 0 ≤ j → j < (0 + n1.toInt) + (own_sp n1.toInt) + n2.toInt → C1_ (0 + j) = own_tb (0 + n1.toInt) (own_sp n1.toInt) (own_t0 x0) x1 j := by
        intro j h1 h2
        rw [cq1_ _ (by omega) (by omega)]
        unfold own_w own_tb; rw [spB]
        by_cases g : j < (0 + n1.toInt)
        · rw [if_pos (by omega), if_pos g]; exact c1s j h1 g
        · rw [if_neg (by omega), if_neg g]
          by_cases g2 : j < (0 + n1.toInt) + (own_sp n1.toInt)
          · rw [if_pos (by omega), if_pos g2]
          · rw [if_neg (by omega), if_neg g2]; congr 1; omega
      refine Go.callV (C := "com/example/vellum_channels/vellumchannels/frame/HeaderLine") (pc' := 104) (a := b271) (W := 0) (argsL := []) (rest := []) X298 hx hby hZ268 hown269 (hw _ (List.mem_of_getElem? (i := 96) rfl)) (hw _ (List.mem_of_getElem? (i := 97) rfl)) (notFace_of_selects (args := #[]) (mvT hZ268 (hw _ (List.mem_of_getElem? (i := 99) rfl)))) (hw _ (List.mem_of_getElem? (i := 99) rfl)) (hw _ (List.mem_of_getElem? (i := 98) rfl)) (hw _ (List.mem_of_getElem? (i := 42) rfl)) (hw _ (List.mem_of_getElem? (i := 100) rfl)) (by decide) (rmTO l Z a0 hw b271 T296.heap h0.size ln1_ z1_ C1_ o1_ Zw g280 gow Ew Fw Gw Aw yw1_ (by omega) (by omega) (by omega) (by omega) (by omega)) rfl Ew (by decide) (by decide) (by rw [hml]; rfl) pd_4 rfl rfl rfl (Nat.le_of_eq rfl) at_101 rfl (by decide) (by decide) ?_
      rintro r299 T300 L301 X302 ⟨r1, Rr1, rfl, gr1, Nr1, Kr1, Ar1, cr1, rl1, rm1⟩
      replace Ew := Ew.keep Kr1
      replace Fw := Fw.keep Kr1 nin0
      replace Gw := Gw.keep Kr1 nin0
      replace Aw := Aw.keep Kr1 nin0
      replace Zw : h0.size ≤ T300.heap.size := Nat.le_trans Zw Kr1.1
      have hkr1 : T264.heap.size ≤ T300.heap.size := Nat.le_trans hkw1_ Kr1.1
      show Go p e below _ (T300.setTop (mkF m 104 #[.val (.int x0), .val (.int x1), .val (.int x2), .val (.int n1), .val (.int n2), .val (.int (0 : Int32)), .val (.int (1 : Int32)), .val (.ref s1), .val (.ref s2), .val (.ref b271), .unset, .unset, .unset, .unset, .unset, .unset] [(.ref r1)]))
      refine Go.astore (Ls' := #[.val (.int x0), .val (.int x1), .val (.int x2), .val (.int n1), .val (.int n2), .val (.int (0 : Int32)), .val (.int (1 : Int32)), .val (.ref s1), .val (.ref s2), .val (.ref b271), .val (.ref r1), .unset, .unset, .unset, .unset, .unset]) (pc' := 106) X302 hx hby at_104 rfl rfl rfl ?_
      refine Go.aload (pc' := 108) X302 hx hby at_106 rfl rfl rfl ?_
      refine Go.callV (C := "com/example/vellum_channels/vellumchannels/frame/HeaderLine") (pc' := 111) (a := b271) (W := 0) (argsL := []) (rest := []) X302 hx hby hZ268 hown269 (hw _ (List.mem_of_getElem? (i := 96) rfl)) (hw _ (List.mem_of_getElem? (i := 97) rfl)) (notFace_of_selects (args := #[]) (mvT hZ268 (hw _ (List.mem_of_getElem? (i := 99) rfl)))) (hw _ (List.mem_of_getElem? (i := 99) rfl)) (hw _ (List.mem_of_getElem? (i := 98) rfl)) (hw _ (List.mem_of_getElem? (i := 42) rfl)) (hw _ (List.mem_of_getElem? (i := 100) rfl)) (by decide) (rmTO l Z a0 hw b271 T300.heap h0.size ln1_ z1_ C1_ o1_ Zw g280 gow Ew Fw Gw Aw yw1_ (by omega) (by omega) (by omega) (by omega) (by omega)) rfl Ew (by decide) (by decide) (by rw [hml]; rfl) pd_4 rfl rfl rfl (Nat.le_of_eq rfl) at_108 rfl (by decide) (by decide) ?_
      rintro r303 T304 L305 X306 ⟨r2, Rr2, rfl, gr2, Nr2, Kr2, Ar2, cr2, rl2, rm2⟩
      have nr : r1 ≠ r2 := Nat.ne_of_lt (Nat.lt_of_lt_of_le Ar1.lt gr2)
      replace Ar1 := Ar1.keep Kr2 nin0
      replace Zw : h0.size ≤ T304.heap.size := Nat.le_trans Zw Kr2.1
      have hkr2 : T264.heap.size ≤ T304.heap.size := Nat.le_trans hkr1 Kr2.1
      show Go p e below _ (T304.setTop (mkF m 111 #[.val (.int x0), .val (.int x1), .val (.int x2), .val (.int n1), .val (.int n2), .val (.int (0 : Int32)), .val (.int (1 : Int32)), .val (.ref s1), .val (.ref s2), .val (.ref b271), .val (.ref r1), .unset, .unset, .unset, .unset, .unset] [(.ref r2)]))
      refine Go.astore (Ls' := #[.val (.int x0), .val (.int x1), .val (.int x2), .val (.int n1), .val (.int n2), .val (.int (0 : Int32)), .val (.int (1 : Int32)), .val (.ref s1), .val (.ref s2), .val (.ref b271), .val (.ref r1), .val (.ref r2), .unset, .unset, .unset, .unset]) (pc' := 113) X306 hx hby at_111 rfl rfl rfl ?_
      refine Go.bipush (pc' := 115) X306 hx hby at_113 rfl (v := (10 : Int32)) (by decide) ?_
      refine Go.newarr (pc' := 117) (cap := 10) (z := 10) X306 hx hby hZ268 (hw _ (List.mem_of_getElem? (i := 7) rfl)) rfl at_115 rfl (by decide) (by decide) (by decide) (by decide) (by decide) (by decide) ?_
      intro b307 T308 h309 g310 X311 e312 E313 A314
      have n315 : r1 ≠ b307 := Nat.ne_of_lt (by rw [g310]; exact Ar1.lt)
      have n316 : r2 ≠ b307 := Nat.ne_of_lt (by rw [g310]; exact Ar2.lt)
      have g317 : h0.size ≤ b307 := by rw [g310]; exact Zw
      have f318 : Ar Z h309 r1 .byte (ln1_.toInt + 2) (fun q => .int (Rr1 q)) := Ar1.ext E313
      have f319 : Ar Z h309 r2 .byte (ln1_.toInt + 2) (fun q => .int (Rr2 q)) := Ar2.ext E313
      have z320 : h0.size ≤ h309.size := Nat.le_trans Zw E313.1
      have hk321 : T264.heap.size ≤ h309.size := Nat.le_trans hkr2 E313.1
      have f322 : Ar Z h309 b307 .char 10 (fun _ => (.int 0)) := A314
      show Go p e below _ (T308.setTop (mkF m 117 #[.val (.int x0), .val (.int x1), .val (.int x2), .val (.int n1), .val (.int n2), .val (.int (0 : Int32)), .val (.int (1 : Int32)), .val (.ref s1), .val (.ref s2), .val (.ref b271), .val (.ref r1), .val (.ref r2), .unset, .unset, .unset, .unset] [(.ref b307)]))
      refine Go.astore (Ls' := #[.val (.int x0), .val (.int x1), .val (.int x2), .val (.int n1), .val (.int n2), .val (.int (0 : Int32)), .val (.int (1 : Int32)), .val (.ref s1), .val (.ref s2), .val (.ref b271), .val (.ref r1), .val (.ref r2), .val (.ref b307), .unset, .unset, .unset]) (pc' := 119) X311 hx hby at_117 rfl rfl rfl ?_
      refine Go.iconst (pc' := 120) X311 hx hby at_119 rfl (v := (0 : Int32)) (by decide) ?_
      refine Go.istore (Ls' := #[.val (.int x0), .val (.int x1), .val (.int x2), .val (.int n1), .val (.int n2), .val (.int (0 : Int32)), .val (.int (1 : Int32)), .val (.ref s1), .val (.ref s2), .val (.ref b271), .val (.ref r1), .val (.ref r2), .val (.ref b307), .val (.int (0 : Int32)), .unset, .unset]) (pc' := 122) X311 hx hby at_120 rfl rfl ?_
      refine Go.iload (pc' := 124) X311 hx hby at_122 rfl rfl ?_
      refine Go.ifY (pc' := 137) X311 hx hby at_124 (by decide) (by decide) (show (0 : Int32) = 0 from by decide) ?_
      refine Go.cutI (α := State × Heap × List Loc × Int32 × (Int → Int32)) (F := fun y => y.1.setTop (mkF m 190 #[.val (.int x0), .val (.int x1), .val (.int x2), .val (.int n1), .val (.int n2), .val (.int (0 : Int32)), .val (.int (1 : Int32)), .val (.ref s1), .val (.ref s2), .val (.ref b271), .val (.ref r1), .val (.ref r2), .val (.ref b307), .val (.int y.2.2.2.1), .unset, .unset] [])) (I := fun y => (Stand p l e room_1 (s.setVm T264.vm) m #[(.int x0), (.int x1), (.int x2)] below meth c y.1 y.2.2.1 17 934) ∧ (y.1.heap = y.2.1) ∧ (Fr h0.size y.2.2.1) ∧ (h0.size ≤ y.2.1.size) ∧ (T264.heap.size ≤ y.2.1.size) ∧ (y.2.2.2.1.toInt = (0 + n1.toInt)) ∧ (Ar Z y.2.1 b307 .char 10 (fun q => .int (y.2.2.2.2 q))) ∧ (∀ q : Int, 0 ≤ q → q < y.2.2.2.1.toInt → y.2.2.2.2 q = own_t0 x0 q) ∧ (Ar Z y.2.1 r1 .byte (ln1_.toInt + 2) (fun q => .int (Rr1 q))) ∧ (Ar Z y.2.1 r2 .byte (ln1_.toInt + 2) (fun q => .int (Rr2 q)))) ?_ ?_
      ·
        rintro ⟨T323, h324, L325, tl, Tt⟩ ⟨X326, e327, N328, z329, hk330, ht, At, ct, Ra, Rb⟩
        dsimp only at X326 e327 N328 z329 hk330 ht At ct Ra Rb
        show Go p e below _ (T323.setTop (mkF m 190 #[.val (.int x0), .val (.int x1), .val (.int x2), .val (.int n1), .val (.int n2), .val (.int (0 : Int32)), .val (.int (1 : Int32)), .val (.ref s1), .val (.ref s2), .val (.ref b271), .val (.ref r1), .val (.ref r2), .val (.ref b307), .val (.int tl), .unset, .unset] []))
        show Go p e below _ (T323.setTop (mkF m 190 #[.val (.int x0), .val (.int x1), .val (.int x2), .val (.int n1), .val (.int n2), .val (.int (0 : Int32)), .val (.int (1 : Int32)), .val (.ref s1), .val (.ref s2), .val (.ref b271), .val (.ref r1), .val (.ref r2), .val (.ref b307), .val (.int tl), .unset, .unset] []))
        have tb : 0 ≤ tl.toInt ∧ tl.toInt ≤ 4 := by omega
        refine Go.cutI (α := State × Heap × List Loc × Int32 × (Int → Int32)) (F := fun y => y.1.setTop (mkF m 270 #[.val (.int x0), .val (.int x1), .val (.int x2), .val (.int n1), .val (.int n2), .val (.int (0 : Int32)), .val (.int (1 : Int32)), .val (.ref s1), .val (.ref s2), .val (.ref b271), .val (.ref r1), .val (.ref r2), .val (.ref b307), .val (.int y.2.2.2.1), .unset, .unset] [])) (I := fun y => (Stand p l e room_1 (s.setVm T264.vm) m #[(.int x0), (.int x1), (.int x2)] below meth c y.1 y.2.2.1 17 934) ∧ (y.1.heap = y.2.1) ∧ (Fr h0.size y.2.2.1) ∧ (h0.size ≤ y.2.1.size) ∧ (T264.heap.size ≤ y.2.1.size) ∧ (y.2.2.2.1.toInt = (0 + n1.toInt) + (own_sp n1.toInt) + n2.toInt) ∧ (Ar Z y.2.1 b307 .char 10 (fun q => .int (y.2.2.2.2 q))) ∧ (∀ q : Int, 0 ≤ q → q < y.2.2.2.1.toInt → y.2.2.2.2 q = own_tb (0 + n1.toInt) (own_sp n1.toInt) (own_t0 x0) x1 q) ∧ (Ar Z y.2.1 r1 .byte (ln1_.toInt + 2) (fun q => .int (Rr1 q))) ∧ (Ar Z y.2.1 r2 .byte (ln1_.toInt + 2) (fun q => .int (Rr2 q)))) ?_ ?_
        ·
          rintro ⟨T331, h332, L333, tl, Tt⟩ ⟨X334, e335, N336, z337, hk338, ht, At, ct, Ra, Rb⟩
          dsimp only at X334 e335 N336 z337 hk338 ht At ct Ra Rb
          show Go p e below _ (T331.setTop (mkF m 270 #[.val (.int x0), .val (.int x1), .val (.int x2), .val (.int n1), .val (.int n2), .val (.int (0 : Int32)), .val (.int (1 : Int32)), .val (.ref s1), .val (.ref s2), .val (.ref b271), .val (.ref r1), .val (.ref r2), .val (.ref b307), .val (.int tl), .unset, .unset] []))
          show Go p e below _ (T331.setTop (mkF m 270 #[.val (.int x0), .val (.int x1), .val (.int x2), .val (.int n1), .val (.int n2), .val (.int (0 : Int32)), .val (.int (1 : Int32)), .val (.ref s1), .val (.ref s2), .val (.ref b271), .val (.ref r1), .val (.ref r2), .val (.ref b307), .val (.int tl), .unset, .unset] []))
          have tb : 0 ≤ tl.toInt ∧ tl.toInt ≤ 8 := by omega
          have e1_ : (tl + 1).toInt = tl.toInt + 1 := by rw [own_add tl 1 (by omega) (by omega) (by decide) (by decide), own_1]
          have e2_ : (tl + 1 + 1).toInt = tl.toInt + 2 := by rw [own_add _ 1 (by omega) (by omega) (by decide) (by decide), own_1]; omega
          have el : (ln1_ + 2).toInt = ln1_.toInt + 2 := by rw [own_add ln1_ 2 (by omega) (by omega) (by decide) (by decide), own_2]
          refine Go.aload (pc' := 272) X334 hx hby at_270 rfl rfl rfl ?_
          refine Go.iload (pc' := 274) X334 hx hby at_272 rfl rfl ?_
          refine Go.iinc (w := tl + (1 : Int32)) (Ls' := #[.val (.int x0), .val (.int x1), .val (.int x2), .val (.int n1), .val (.int n2), .val (.int (0 : Int32)), .val (.int (1 : Int32)), .val (.ref s1), .val (.ref s2), .val (.ref b271), .val (.ref r1), .val (.ref r2), .val (.ref b307), .val (.int (tl + (1 : Int32))), .unset, .unset]) (pc' := 277) X334 hx hby at_274 rfl rfl rfl rfl ?_
          refine Go.bipush (pc' := 279) X334 hx hby at_277 rfl (v := (13 : Int32)) (by decide) ?_
          refine Go.castore (pc' := 280) (i := tl.toInt) X334 hx hby hZ268 e335 At at_279 rfl rfl (by omega) (by omega) ?_
          intro T339 h340 X341 e342 W343 A344
          have f345 : Ar Z h340 r1 .byte (ln1_.toInt + 2) (fun q => .int (Rr1 q)) := Ra.other W343 n315
          have f346 : Ar Z h340 r2 .byte (ln1_.toInt + 2) (fun q => .int (Rr2 q)) := Rb.other W343 n316
          have z347 : h0.size ≤ h340.size := by rw [Wr.size W343]; exact z337
          have hk348 : T264.heap.size ≤ h340.size := by rw [Wr.size W343]; exact hk338
          have f349 : Ar Z h340 b307 .char 10 (fun q => if q = tl.toInt then (.int (nar .char (13 : Int32))) else .int (Tt q)) := A344
          have N350 : Fr h0.size _ := Fr.snoc X341 N336 g317
          show Go p e below _ (T339.setTop (mkF m 280 #[.val (.int x0), .val (.int x1), .val (.int x2), .val (.int n1), .val (.int n2), .val (.int (0 : Int32)), .val (.int (1 : Int32)), .val (.ref s1), .val (.ref s2), .val (.ref b271), .val (.ref r1), .val (.ref r2), .val (.ref b307), .val (.int (tl + (1 : Int32))), .unset, .unset] []))
          refine Go.aload (pc' := 282) X341 hx hby at_280 rfl rfl rfl ?_
          refine Go.iload (pc' := 284) X341 hx hby at_282 rfl rfl ?_
          refine Go.iinc (w := (tl + (1 : Int32)) + (1 : Int32)) (Ls' := #[.val (.int x0), .val (.int x1), .val (.int x2), .val (.int n1), .val (.int n2), .val (.int (0 : Int32)), .val (.int (1 : Int32)), .val (.ref s1), .val (.ref s2), .val (.ref b271), .val (.ref r1), .val (.ref r2), .val (.ref b307), .val (.int ((tl + (1 : Int32)) + (1 : Int32))), .unset, .unset]) (pc' := 287) X341 hx hby at_284 rfl rfl rfl rfl ?_
          refine Go.bipush (pc' := 289) X341 hx hby at_287 rfl (v := (10 : Int32)) (by decide) ?_
          refine Go.castore (pc' := 290) (i := (tl.toInt + 1)) X341 hx hby hZ268 e342 f349 at_289 rfl e1_ (by omega) (by omega) ?_
          intro T351 h352 X353 e354 W355 A356
          have f357 : Ar Z h352 r1 .byte (ln1_.toInt + 2) (fun q => .int (Rr1 q)) := f345.other W355 n315
          have f358 : Ar Z h352 r2 .byte (ln1_.toInt + 2) (fun q => .int (Rr2 q)) := f346.other W355 n316
          have z359 : h0.size ≤ h352.size := by rw [Wr.size W355]; exact z347
          have hk360 : T264.heap.size ≤ h352.size := by rw [Wr.size W355]; exact hk348
          have f361 : Ar Z h352 b307 .char 10 (fun q => if q = (tl.toInt + 1) then (.int (nar .char (10 : Int32))) else if q = tl.toInt then (.int (nar .char (13 : Int32))) else .int (Tt q)) := A356
          have N362 : Fr h0.size _ := Fr.snoc X353 N350 g317
          show Go p e below _ (T351.setTop (mkF m 290 #[.val (.int x0), .val (.int x1), .val (.int x2), .val (.int n1), .val (.int n2), .val (.int (0 : Int32)), .val (.int (1 : Int32)), .val (.ref s1), .val (.ref s2), .val (.ref b271), .val (.ref r1), .val (.ref r2), .val (.ref b307), .val (.int ((tl + (1 : Int32)) + (1 : Int32))), .unset, .unset] []))
          have f363 : Ar Z h352 b307 .char 10 (fun q => .int ((fun q => if q = tl.toInt + 1 then 10 else if q = tl.toInt then 13 else Tt q) q)) := f361.congr (fun i h1 h2 => by simp only [apply_ite Value.int, own_nc7 (own_ckr x0 _), own_nc7 (own_ckr x1 _), own_nc32, own_nc13, own_nc10])
          refine Go.iload (pc' := 292) X353 hx hby at_290 rfl rfl ?_
          refine Go.ifY (pc' := 300) X353 hx hby at_292 (by decide) (by decide) (show (0 : Int32) = 0 from by decide) ?_
          refine Go.iconst (pc' := 301) X353 hx hby at_300 rfl (v := (0 : Int32)) (by decide) ?_
          refine Go.istore (Ls' := #[.val (.int x0), .val (.int x1), .val (.int x2), .val (.int n1), .val (.int n2), .val (.int (0 : Int32)), .val (.int (1 : Int32)), .val (.ref s1), .val (.ref s2), .val (.ref b271), .val (.ref r1), .val (.ref r2), .val (.ref b307), .val (.int ((tl + (1 : Int32)) + (1 : Int32))), .val (.int (0 : Int32)), .unset]) (pc' := 303) X353 hx hby at_301 rfl rfl ?_
          refine Go.aload (pc' := 305) X353 hx hby at_303 rfl rfl rfl ?_
          refine Go.alen (pc' := 306) (zv := ln1_ + 2) X353 hx hby hZ268 e354 f357 at_305 rfl el ?_
          refine Go.iload (pc' := 308) X353 hx hby at_306 rfl rfl ?_
          refine Go.iload (pc' := 310) X353 hx hby at_308 rfl rfl ?_
          refine Go.iadd (pc' := 311) X353 hx hby at_310 rfl ?_
          have eo : ((0 : Int32) + (tl + 1 + 1)).toInt = 0 + (tl.toInt + 2) := by rw [own_add _ _ (by decide) (by decide) (by omega) (by omega), e2_, v0]
          refine Go.icmpY (pc' := 316) X353 hx hby at_311 (by decide) (by decide) (show (ln1_ + 2) = ((0 : Int32) + ((tl + (1 : Int32)) + (1 : Int32))) from Int32.toInt_inj.mp (by rw [el]; refine Eq.trans ?_ eo.symm; omega)) ?_
          have hQ : ∀ j : Int, 0 ≤ j → j < (tl + 1 + 1).toInt → Rr1 ((0 : Int32).toInt + j) = (fun q => if q = tl.toInt + 1 then 10 else if q = tl.toInt then 13 else Tt q) j ∧ Own7 ((fun q => if q = tl.toInt + 1 then 10 else if q = tl.toInt then 13 else Tt q) j) := by
            intro j h1 h2
            rw [e2_] at h2; rw [v0]; dsimp only
            by_cases g1 : j = tl.toInt + 1
            · rw [if_pos g1]; refine ⟨?_, by decide⟩; rw [← rm1]; congr 1; omega
            · rw [if_neg g1]
              by_cases g2 : j = tl.toInt
              · rw [if_pos g2]; refine ⟨?_, by decide⟩; rw [← rl1]; congr 1; omega
              · rw [if_neg g2, ct j h1 (by omega), cr1 _ (by omega), c2s j h1 (by omega)]; exact ⟨rfl, (own_tb7 _ _ _ _ (own_t07 x0)) j⟩
          refine Go.aload (pc' := 318) X353 hx hby at_316 rfl rfl rfl ?_
          refine Go.iload (pc' := 320) X353 hx hby at_318 rfl rfl ?_
          refine Go.aload (pc' := 322) X353 hx hby at_320 rfl rfl rfl ?_
          refine Go.iload (pc' := 324) X353 hx hby at_322 rfl rfl ?_
          refine Go.iconst (pc' := 325) X353 hx hby at_324 rfl (v := (0 : Int32)) (by decide) ?_
          refine Go.callS (pc' := 328) (W := 0) (argsL := [(.ref r1), (.int (0 : Int32)), (.ref b307), (.int ((tl + (1 : Int32)) + (1 : Int32))), (.int (0 : Int32))]) (rest := []) X353 hx hby hZ268 hown269 (hw _ (List.mem_of_getElem? (i := 113) rfl)) (hw _ (List.mem_of_getElem? (i := 114) rfl)) (hw _ (List.mem_of_getElem? (i := 2) rfl)) (hw _ (List.mem_of_getElem? (i := 115) rfl)) (by decide) (rmSA l Z a0 hw r1 (0 : Int32) b307 (tl + 1 + 1) 0 h352 (ln1_.toInt + 2) 10 Rr1 (fun q => if q = tl.toInt + 1 then 10 else if q = tl.toInt then 13 else Tt q) f357 f363 (by decide) (by decide) (by decide) (by decide) (by rw [e2_, v0]; omega) (by rw [e2_]; omega) (fun h => hQ _ (by decide) h)) e354 (by decide) (by decide) (by rw [hml]; rfl) pd_20 rfl rfl rfl (Nat.le_of_eq rfl) at_325 rfl (by decide) (by decide) ?_
          rintro r365 T366 L367 X368 ⟨rfl, rfl, e364⟩
          rw [List.append_nil] at X368
          show Go p e below _ (T366.setTop (mkF m 328 #[.val (.int x0), .val (.int x1), .val (.int x2), .val (.int n1), .val (.int n2), .val (.int (0 : Int32)), .val (.int (1 : Int32)), .val (.ref s1), .val (.ref s2), .val (.ref b271), .val (.ref r1), .val (.ref r2), .val (.ref b307), .val (.int ((tl + (1 : Int32)) + (1 : Int32))), .val (.int (0 : Int32)), .unset] [(.int (1 : Int32))]))
          refine Go.ifN (pc' := 331) X368 hx hby at_328 rfl (show ¬ ((1 : Int32) = 0) from by decide) ?_
          refine Go.aload (pc' := 333) X368 hx hby at_331 rfl rfl rfl ?_
          refine Go.iload (pc' := 335) X368 hx hby at_333 rfl rfl ?_
          refine Go.aload (pc' := 337) X368 hx hby at_335 rfl rfl rfl ?_
          refine Go.iload (pc' := 339) X368 hx hby at_337 rfl rfl ?_
          refine Go.iconst (pc' := 340) X368 hx hby at_339 rfl (v := (1 : Int32)) (by decide) ?_
          refine Go.callS (pc' := 343) (W := 0) (argsL := [(.ref r1), (.int (0 : Int32)), (.ref b307), (.int ((tl + (1 : Int32)) + (1 : Int32))), (.int (1 : Int32))]) (rest := []) X368 hx hby hZ268 hown269 (hw _ (List.mem_of_getElem? (i := 113) rfl)) (hw _ (List.mem_of_getElem? (i := 114) rfl)) (hw _ (List.mem_of_getElem? (i := 2) rfl)) (hw _ (List.mem_of_getElem? (i := 115) rfl)) (by decide) (rmSA l Z a0 hw r1 (0 : Int32) b307 (tl + 1 + 1) 1 h352 (ln1_.toInt + 2) 10 Rr1 (fun q => if q = tl.toInt + 1 then 10 else if q = tl.toInt then 13 else Tt q) f357 f363 (by decide) (by decide) (by decide) (by decide) (by rw [e2_, v0]; omega) (by rw [e2_]; omega) (fun h => hQ _ (by decide) h)) e364 (by decide) (by decide) (by rw [hml]; rfl) pd_20 rfl rfl rfl (Nat.le_of_eq rfl) at_340 rfl (by decide) (by decide) ?_
          rintro r370 T371 L372 X373 ⟨rfl, rfl, e369⟩
          rw [List.append_nil] at X373
          show Go p e below _ (T371.setTop (mkF m 343 #[.val (.int x0), .val (.int x1), .val (.int x2), .val (.int n1), .val (.int n2), .val (.int (0 : Int32)), .val (.int (1 : Int32)), .val (.ref s1), .val (.ref s2), .val (.ref b271), .val (.ref r1), .val (.ref r2), .val (.ref b307), .val (.int ((tl + (1 : Int32)) + (1 : Int32))), .val (.int (0 : Int32)), .unset] [(.int (1 : Int32))]))
          refine Go.ifN (pc' := 346) X373 hx hby at_343 rfl (show ¬ ((1 : Int32) = 0) from by decide) ?_
          refine Go.aload (pc' := 348) X373 hx hby at_346 rfl rfl rfl ?_
          refine Go.iload (pc' := 350) X373 hx hby at_348 rfl rfl ?_
          refine Go.aload (pc' := 352) X373 hx hby at_350 rfl rfl rfl ?_
          refine Go.iload (pc' := 354) X373 hx hby at_352 rfl rfl ?_
          refine Go.iconst (pc' := 355) X373 hx hby at_354 rfl (v := (2 : Int32)) (by decide) ?_
          refine Go.callS (pc' := 358) (W := 0) (argsL := [(.ref r1), (.int (0 : Int32)), (.ref b307), (.int ((tl + (1 : Int32)) + (1 : Int32))), (.int (2 : Int32))]) (rest := []) X373 hx hby hZ268 hown269 (hw _ (List.mem_of_getElem? (i := 113) rfl)) (hw _ (List.mem_of_getElem? (i := 114) rfl)) (hw _ (List.mem_of_getElem? (i := 2) rfl)) (hw _ (List.mem_of_getElem? (i := 115) rfl)) (by decide) (rmSA l Z a0 hw r1 (0 : Int32) b307 (tl + 1 + 1) 2 h352 (ln1_.toInt + 2) 10 Rr1 (fun q => if q = tl.toInt + 1 then 10 else if q = tl.toInt then 13 else Tt q) f357 f363 (by decide) (by decide) (by decide) (by decide) (by rw [e2_, v0]; omega) (by rw [e2_]; omega) (fun h => hQ _ (by decide) h)) e369 (by decide) (by decide) (by rw [hml]; rfl) pd_20 rfl rfl rfl (Nat.le_of_eq rfl) at_355 rfl (by decide) (by decide) ?_
          rintro r375 T376 L377 X378 ⟨rfl, rfl, e374⟩
          rw [List.append_nil] at X378
          show Go p e below _ (T376.setTop (mkF m 358 #[.val (.int x0), .val (.int x1), .val (.int x2), .val (.int n1), .val (.int n2), .val (.int (0 : Int32)), .val (.int (1 : Int32)), .val (.ref s1), .val (.ref s2), .val (.ref b271), .val (.ref r1), .val (.ref r2), .val (.ref b307), .val (.int ((tl + (1 : Int32)) + (1 : Int32))), .val (.int (0 : Int32)), .unset] [(.int (1 : Int32))]))
          refine Go.ifN (pc' := 361) X378 hx hby at_358 rfl (show ¬ ((1 : Int32) = 0) from by decide) ?_
          refine Go.aload (pc' := 363) X378 hx hby at_361 rfl rfl rfl ?_
          refine Go.iload (pc' := 365) X378 hx hby at_363 rfl rfl ?_
          refine Go.aload (pc' := 367) X378 hx hby at_365 rfl rfl rfl ?_
          refine Go.iload (pc' := 369) X378 hx hby at_367 rfl rfl ?_
          refine Go.iconst (pc' := 370) X378 hx hby at_369 rfl (v := (3 : Int32)) (by decide) ?_
          refine Go.callS (pc' := 373) (W := 0) (argsL := [(.ref r1), (.int (0 : Int32)), (.ref b307), (.int ((tl + (1 : Int32)) + (1 : Int32))), (.int (3 : Int32))]) (rest := []) X378 hx hby hZ268 hown269 (hw _ (List.mem_of_getElem? (i := 113) rfl)) (hw _ (List.mem_of_getElem? (i := 114) rfl)) (hw _ (List.mem_of_getElem? (i := 2) rfl)) (hw _ (List.mem_of_getElem? (i := 115) rfl)) (by decide) (rmSA l Z a0 hw r1 (0 : Int32) b307 (tl + 1 + 1) 3 h352 (ln1_.toInt + 2) 10 Rr1 (fun q => if q = tl.toInt + 1 then 10 else if q = tl.toInt then 13 else Tt q) f357 f363 (by decide) (by decide) (by decide) (by decide) (by rw [e2_, v0]; omega) (by rw [e2_]; omega) (fun h => hQ _ (by decide) h)) e374 (by decide) (by decide) (by rw [hml]; rfl) pd_20 rfl rfl rfl (Nat.le_of_eq rfl) at_370 rfl (by decide) (by decide) ?_
          rintro r380 T381 L382 X383 ⟨rfl, rfl, e379⟩
          rw [List.append_nil] at X383
          show Go p e below _ (T381.setTop (mkF m 373 #[.val (.int x0), .val (.int x1), .val (.int x2), .val (.int n1), .val (.int n2), .val (.int (0 : Int32)), .val (.int (1 : Int32)), .val (.ref s1), .val (.ref s2), .val (.ref b271), .val (.ref r1), .val (.ref r2), .val (.ref b307), .val (.int ((tl + (1 : Int32)) + (1 : Int32))), .val (.int (0 : Int32)), .unset] [(.int (1 : Int32))]))
          refine Go.ifN (pc' := 376) X383 hx hby at_373 rfl (show ¬ ((1 : Int32) = 0) from by decide) ?_
          refine Go.aload (pc' := 378) X383 hx hby at_376 rfl rfl rfl ?_
          refine Go.iload (pc' := 380) X383 hx hby at_378 rfl rfl ?_
          refine Go.aload (pc' := 382) X383 hx hby at_380 rfl rfl rfl ?_
          refine Go.iload (pc' := 384) X383 hx hby at_382 rfl rfl ?_
          refine Go.iconst (pc' := 385) X383 hx hby at_384 rfl (v := (4 : Int32)) (by decide) ?_
          refine Go.callS (pc' := 388) (W := 0) (argsL := [(.ref r1), (.int (0 : Int32)), (.ref b307), (.int ((tl + (1 : Int32)) + (1 : Int32))), (.int (4 : Int32))]) (rest := []) X383 hx hby hZ268 hown269 (hw _ (List.mem_of_getElem? (i := 113) rfl)) (hw _ (List.mem_of_getElem? (i := 114) rfl)) (hw _ (List.mem_of_getElem? (i := 2) rfl)) (hw _ (List.mem_of_getElem? (i := 115) rfl)) (by decide) (rmSA l Z a0 hw r1 (0 : Int32) b307 (tl + 1 + 1) 4 h352 (ln1_.toInt + 2) 10 Rr1 (fun q => if q = tl.toInt + 1 then 10 else if q = tl.toInt then 13 else Tt q) f357 f363 (by decide) (by decide) (by decide) (by decide) (by rw [e2_, v0]; omega) (by rw [e2_]; omega) (fun h => hQ _ (by decide) h)) e379 (by decide) (by decide) (by rw [hml]; rfl) pd_20 rfl rfl rfl (Nat.le_of_eq rfl) at_385 rfl (by decide) (by decide) ?_
          rintro r385 T386 L387 X388 ⟨rfl, rfl, e384⟩
          rw [List.append_nil] at X388
          show Go p e below _ (T386.setTop (mkF m 388 #[.val (.int x0), .val (.int x1), .val (.int x2), .val (.int n1), .val (.int n2), .val (.int (0 : Int32)), .val (.int (1 : Int32)), .val (.ref s1), .val (.ref s2), .val (.ref b271), .val (.ref r1), .val (.ref r2), .val (.ref b307), .val (.int ((tl + (1 : Int32)) + (1 : Int32))), .val (.int (0 : Int32)), .unset] [(.int (1 : Int32))]))
          refine Go.ifN (pc' := 391) X388 hx hby at_388 rfl (show ¬ ((1 : Int32) = 0) from by decide) ?_
          refine Go.aload (pc' := 393) X388 hx hby at_391 rfl rfl rfl ?_
          refine Go.iload (pc' := 395) X388 hx hby at_393 rfl rfl ?_
          refine Go.aload (pc' := 397) X388 hx hby at_395 rfl rfl rfl ?_
          refine Go.iload (pc' := 399) X388 hx hby at_397 rfl rfl ?_
          refine Go.iconst (pc' := 400) X388 hx hby at_399 rfl (v := (5 : Int32)) (by decide) ?_
          refine Go.callS (pc' := 403) (W := 0) (argsL := [(.ref r1), (.int (0 : Int32)), (.ref b307), (.int ((tl + (1 : Int32)) + (1 : Int32))), (.int (5 : Int32))]) (rest := []) X388 hx hby hZ268 hown269 (hw _ (List.mem_of_getElem? (i := 113) rfl)) (hw _ (List.mem_of_getElem? (i := 114) rfl)) (hw _ (List.mem_of_getElem? (i := 2) rfl)) (hw _ (List.mem_of_getElem? (i := 115) rfl)) (by decide) (rmSA l Z a0 hw r1 (0 : Int32) b307 (tl + 1 + 1) 5 h352 (ln1_.toInt + 2) 10 Rr1 (fun q => if q = tl.toInt + 1 then 10 else if q = tl.toInt then 13 else Tt q) f357 f363 (by decide) (by decide) (by decide) (by decide) (by rw [e2_, v0]; omega) (by rw [e2_]; omega) (fun h => hQ _ (by decide) h)) e384 (by decide) (by decide) (by rw [hml]; rfl) pd_20 rfl rfl rfl (Nat.le_of_eq rfl) at_400 rfl (by decide) (by decide) ?_
          rintro r390 T391 L392 X393 ⟨rfl, rfl, e389⟩
          rw [List.append_nil] at X393
          show Go p e below _ (T391.setTop (mkF m 403 #[.val (.int x0), .val (.int x1), .val (.int x2), .val (.int n1), .val (.int n2), .val (.int (0 : Int32)), .val (.int (1 : Int32)), .val (.ref s1), .val (.ref s2), .val (.ref b271), .val (.ref r1), .val (.ref r2), .val (.ref b307), .val (.int ((tl + (1 : Int32)) + (1 : Int32))), .val (.int (0 : Int32)), .unset] [(.int (1 : Int32))]))
          refine Go.ifN (pc' := 406) X393 hx hby at_403 rfl (show ¬ ((1 : Int32) = 0) from by decide) ?_
          refine Go.aload (pc' := 408) X393 hx hby at_406 rfl rfl rfl ?_
          refine Go.iload (pc' := 410) X393 hx hby at_408 rfl rfl ?_
          refine Go.aload (pc' := 412) X393 hx hby at_410 rfl rfl rfl ?_
          refine Go.iload (pc' := 414) X393 hx hby at_412 rfl rfl ?_
          refine Go.bipush (pc' := 416) X393 hx hby at_414 rfl (v := (6 : Int32)) (by decide) ?_
          refine Go.callS (pc' := 419) (W := 0) (argsL := [(.ref r1), (.int (0 : Int32)), (.ref b307), (.int ((tl + (1 : Int32)) + (1 : Int32))), (.int (6 : Int32))]) (rest := []) X393 hx hby hZ268 hown269 (hw _ (List.mem_of_getElem? (i := 113) rfl)) (hw _ (List.mem_of_getElem? (i := 114) rfl)) (hw _ (List.mem_of_getElem? (i := 2) rfl)) (hw _ (List.mem_of_getElem? (i := 115) rfl)) (by decide) (rmSA l Z a0 hw r1 (0 : Int32) b307 (tl + 1 + 1) 6 h352 (ln1_.toInt + 2) 10 Rr1 (fun q => if q = tl.toInt + 1 then 10 else if q = tl.toInt then 13 else Tt q) f357 f363 (by decide) (by decide) (by decide) (by decide) (by rw [e2_, v0]; omega) (by rw [e2_]; omega) (fun h => hQ _ (by decide) h)) e389 (by decide) (by decide) (by rw [hml]; rfl) pd_20 rfl rfl rfl (Nat.le_of_eq rfl) at_416 rfl (by decide) (by decide) ?_
          rintro r395 T396 L397 X398 ⟨rfl, rfl, e394⟩
          rw [List.append_nil] at X398
          show Go p e below _ (T396.setTop (mkF m 419 #[.val (.int x0), .val (.int x1), .val (.int x2), .val (.int n1), .val (.int n2), .val (.int (0 : Int32)), .val (.int (1 : Int32)), .val (.ref s1), .val (.ref s2), .val (.ref b271), .val (.ref r1), .val (.ref r2), .val (.ref b307), .val (.int ((tl + (1 : Int32)) + (1 : Int32))), .val (.int (0 : Int32)), .unset] [(.int (1 : Int32))]))
          refine Go.ifN (pc' := 422) X398 hx hby at_419 rfl (show ¬ ((1 : Int32) = 0) from by decide) ?_
          refine Go.aload (pc' := 424) X398 hx hby at_422 rfl rfl rfl ?_
          refine Go.iload (pc' := 426) X398 hx hby at_424 rfl rfl ?_
          refine Go.aload (pc' := 428) X398 hx hby at_426 rfl rfl rfl ?_
          refine Go.iload (pc' := 430) X398 hx hby at_428 rfl rfl ?_
          refine Go.bipush (pc' := 432) X398 hx hby at_430 rfl (v := (7 : Int32)) (by decide) ?_
          refine Go.callS (pc' := 435) (W := 0) (argsL := [(.ref r1), (.int (0 : Int32)), (.ref b307), (.int ((tl + (1 : Int32)) + (1 : Int32))), (.int (7 : Int32))]) (rest := []) X398 hx hby hZ268 hown269 (hw _ (List.mem_of_getElem? (i := 113) rfl)) (hw _ (List.mem_of_getElem? (i := 114) rfl)) (hw _ (List.mem_of_getElem? (i := 2) rfl)) (hw _ (List.mem_of_getElem? (i := 115) rfl)) (by decide) (rmSA l Z a0 hw r1 (0 : Int32) b307 (tl + 1 + 1) 7 h352 (ln1_.toInt + 2) 10 Rr1 (fun q => if q = tl.toInt + 1 then 10 else if q = tl.toInt then 13 else Tt q) f357 f363 (by decide) (by decide) (by decide) (by decide) (by rw [e2_, v0]; omega) (by rw [e2_]; omega) (fun h => hQ _ (by decide) h)) e394 (by decide) (by decide) (by rw [hml]; rfl) pd_20 rfl rfl rfl (Nat.le_of_eq rfl) at_432 rfl (by decide) (by decide) ?_
          rintro r400 T401 L402 X403 ⟨rfl, rfl, e399⟩
          rw [List.append_nil] at X403
          show Go p e below _ (T401.setTop (mkF m 435 #[.val (.int x0), .val (.int x1), .val (.int x2), .val (.int n1), .val (.int n2), .val (.int (0 : Int32)), .val (.int (1 : Int32)), .val (.ref s1), .val (.ref s2), .val (.ref b271), .val (.ref r1), .val (.ref r2), .val (.ref b307), .val (.int ((tl + (1 : Int32)) + (1 : Int32))), .val (.int (0 : Int32)), .unset] [(.int (1 : Int32))]))
          refine Go.ifN (pc' := 438) X403 hx hby at_435 rfl (show ¬ ((1 : Int32) = 0) from by decide) ?_
          refine Go.aload (pc' := 440) X403 hx hby at_438 rfl rfl rfl ?_
          refine Go.iload (pc' := 442) X403 hx hby at_440 rfl rfl ?_
          refine Go.aload (pc' := 444) X403 hx hby at_442 rfl rfl rfl ?_
          refine Go.iload (pc' := 446) X403 hx hby at_444 rfl rfl ?_
          refine Go.bipush (pc' := 448) X403 hx hby at_446 rfl (v := (8 : Int32)) (by decide) ?_
          refine Go.callS (pc' := 451) (W := 0) (argsL := [(.ref r1), (.int (0 : Int32)), (.ref b307), (.int ((tl + (1 : Int32)) + (1 : Int32))), (.int (8 : Int32))]) (rest := []) X403 hx hby hZ268 hown269 (hw _ (List.mem_of_getElem? (i := 113) rfl)) (hw _ (List.mem_of_getElem? (i := 114) rfl)) (hw _ (List.mem_of_getElem? (i := 2) rfl)) (hw _ (List.mem_of_getElem? (i := 115) rfl)) (by decide) (rmSA l Z a0 hw r1 (0 : Int32) b307 (tl + 1 + 1) 8 h352 (ln1_.toInt + 2) 10 Rr1 (fun q => if q = tl.toInt + 1 then 10 else if q = tl.toInt then 13 else Tt q) f357 f363 (by decide) (by decide) (by decide) (by decide) (by rw [e2_, v0]; omega) (by rw [e2_]; omega) (fun h => hQ _ (by decide) h)) e399 (by decide) (by decide) (by rw [hml]; rfl) pd_20 rfl rfl rfl (Nat.le_of_eq rfl) at_448 rfl (by decide) (by decide) ?_
          rintro r405 T406 L407 X408 ⟨rfl, rfl, e404⟩
          rw [List.append_nil] at X408
          show Go p e below _ (T406.setTop (mkF m 451 #[.val (.int x0), .val (.int x1), .val (.int x2), .val (.int n1), .val (.int n2), .val (.int (0 : Int32)), .val (.int (1 : Int32)), .val (.ref s1), .val (.ref s2), .val (.ref b271), .val (.ref r1), .val (.ref r2), .val (.ref b307), .val (.int ((tl + (1 : Int32)) + (1 : Int32))), .val (.int (0 : Int32)), .unset] [(.int (1 : Int32))]))
          refine Go.ifN (pc' := 454) X408 hx hby at_451 rfl (show ¬ ((1 : Int32) = 0) from by decide) ?_
          refine Go.aload (pc' := 456) X408 hx hby at_454 rfl rfl rfl ?_
          refine Go.iload (pc' := 458) X408 hx hby at_456 rfl rfl ?_
          refine Go.aload (pc' := 460) X408 hx hby at_458 rfl rfl rfl ?_
          refine Go.iload (pc' := 462) X408 hx hby at_460 rfl rfl ?_
          refine Go.bipush (pc' := 464) X408 hx hby at_462 rfl (v := (9 : Int32)) (by decide) ?_
          refine Go.callS (pc' := 467) (W := 0) (argsL := [(.ref r1), (.int (0 : Int32)), (.ref b307), (.int ((tl + (1 : Int32)) + (1 : Int32))), (.int (9 : Int32))]) (rest := []) X408 hx hby hZ268 hown269 (hw _ (List.mem_of_getElem? (i := 113) rfl)) (hw _ (List.mem_of_getElem? (i := 114) rfl)) (hw _ (List.mem_of_getElem? (i := 2) rfl)) (hw _ (List.mem_of_getElem? (i := 115) rfl)) (by decide) (rmSA l Z a0 hw r1 (0 : Int32) b307 (tl + 1 + 1) 9 h352 (ln1_.toInt + 2) 10 Rr1 (fun q => if q = tl.toInt + 1 then 10 else if q = tl.toInt then 13 else Tt q) f357 f363 (by decide) (by decide) (by decide) (by decide) (by rw [e2_, v0]; omega) (by rw [e2_]; omega) (fun h => hQ _ (by decide) h)) e404 (by decide) (by decide) (by rw [hml]; rfl) pd_20 rfl rfl rfl (Nat.le_of_eq rfl) at_464 rfl (by decide) (by decide) ?_
          rintro r410 T411 L412 X413 ⟨rfl, rfl, e409⟩
          rw [List.append_nil] at X413
          show Go p e below _ (T411.setTop (mkF m 467 #[.val (.int x0), .val (.int x1), .val (.int x2), .val (.int n1), .val (.int n2), .val (.int (0 : Int32)), .val (.int (1 : Int32)), .val (.ref s1), .val (.ref s2), .val (.ref b271), .val (.ref r1), .val (.ref r2), .val (.ref b307), .val (.int ((tl + (1 : Int32)) + (1 : Int32))), .val (.int (0 : Int32)), .unset] [(.int (1 : Int32))]))
          refine Go.ifN (pc' := 470) X413 hx hby at_467 rfl (show ¬ ((1 : Int32) = 0) from by decide) ?_
          refine Go.iconst (pc' := 471) X413 hx hby at_470 rfl (v := (1 : Int32)) (by decide) ?_
          refine Go.goto (pc' := 475) X413 hx hby at_471 (by decide) (by decide) ?_
          refine Go.istore (Ls' := #[.val (.int x0), .val (.int x1), .val (.int x2), .val (.int n1), .val (.int n2), .val (.int (0 : Int32)), .val (.int (1 : Int32)), .val (.ref s1), .val (.ref s2), .val (.ref b271), .val (.ref r1), .val (.ref r2), .val (.ref b307), .val (.int ((tl + (1 : Int32)) + (1 : Int32))), .val (.int (0 : Int32)), .val (.int (1 : Int32))]) (pc' := 477) X413 hx hby at_475 rfl rfl ?_
          refine Go.iload (pc' := 479) X413 hx hby at_477 rfl rfl ?_
          refine Go.ifY (pc' := 523) X413 hx hby at_479 (by decide) (by decide) (show (0 : Int32) = 0 from by decide) ?_
          refine Go.iload (pc' := 525) X413 hx hby at_523 rfl rfl ?_
          refine Go.ifN (pc' := 528) X413 hx hby at_525 rfl (show ¬ ((1 : Int32) = 0) from by decide) ?_
          refine Go.aload (pc' := 530) X413 hx hby at_528 rfl rfl rfl ?_
          refine Go.aload (pc' := 532) X413 hx hby at_530 rfl rfl rfl ?_
          refine Go.acmpN (pc' := 535) X413 hx hby at_532 (by decide) rfl (Ne.symm nr) ?_
          refine Go.aload (pc' := 537) X413 hx hby at_535 rfl rfl rfl ?_
          refine Go.alen (pc' := 538) (zv := ln1_ + 2) X413 hx hby hZ268 e409 f358 at_537 rfl el ?_
          refine Go.aload (pc' := 540) X413 hx hby at_538 rfl rfl rfl ?_
          refine Go.alen (pc' := 541) (zv := ln1_ + 2) X413 hx hby hZ268 e409 f357 at_540 rfl el ?_
          refine Go.icmpN (pc' := 544) X413 hx hby at_541 rfl (show ¬ ((ln1_ + 2) ≠ (ln1_ + 2)) from fun q => q rfl) ?_
          refine Go.aload (pc' := 546) X413 hx hby at_544 rfl rfl rfl ?_
          refine Go.aload (pc' := 548) X413 hx hby at_546 rfl rfl rfl ?_
          refine Go.alen (pc' := 549) (zv := ln1_ + 2) X413 hx hby hZ268 e409 f357 at_548 rfl el ?_
          refine Go.iconst (pc' := 550) X413 hx hby at_549 rfl (v := (2 : Int32)) (by decide) ?_
          refine Go.isub (pc' := 551) X413 hx hby at_550 rfl ?_
          have ea_ : (ln1_ + 2 - 2).toInt = ln1_.toInt := by have q1 := c_isub (ln1_ + 2) 2; have q2 := rng32 (ln1_ + 2 - 2); rw [el, own_2] at q1; omega
          have eb_ : (ln1_ + 2 - 1).toInt = ln1_.toInt + 1 := by have q1 := c_isub (ln1_ + 2) 1; have q2 := rng32 (ln1_ + 2 - 1); rw [el, own_1] at q1; omega
          refine Go.baload (pc' := 552) (i := ln1_.toInt) (v := (.int (Rr2 ln1_.toInt))) X413 hx hby hZ268 e409 f358 at_551 rfl ea_ (by omega) (by omega) rfl ?_
          refine Go.bipush (pc' := 554) X413 hx hby at_552 rfl (v := (13 : Int32)) (by decide) ?_
          refine Go.icmpN (pc' := 557) X413 hx hby at_554 rfl (show ¬ ((Rr2 ln1_.toInt) ≠ (13 : Int32)) from fun q => q rl2) ?_
          refine Go.aload (pc' := 559) X413 hx hby at_557 rfl rfl rfl ?_
          refine Go.aload (pc' := 561) X413 hx hby at_559 rfl rfl rfl ?_
          refine Go.alen (pc' := 562) (zv := ln1_ + 2) X413 hx hby hZ268 e409 f357 at_561 rfl el ?_
          refine Go.iconst (pc' := 563) X413 hx hby at_562 rfl (v := (1 : Int32)) (by decide) ?_
          refine Go.isub (pc' := 564) X413 hx hby at_563 rfl ?_
          refine Go.baload (pc' := 565) (i := (ln1_.toInt + 1)) (v := (.int (Rr2 (ln1_.toInt + 1)))) X413 hx hby hZ268 e409 f358 at_564 rfl eb_ (by omega) (by omega) rfl ?_
          refine Go.bipush (pc' := 567) X413 hx hby at_565 rfl (v := (10 : Int32)) (by decide) ?_
          refine Go.icmpN (pc' := 570) X413 hx hby at_567 rfl (show ¬ ((Rr2 (ln1_.toInt + 1)) ≠ (10 : Int32)) from fun q => q rm2) ?_
          refine Go.iconst (pc' := 571) X413 hx hby at_570 rfl (v := (1 : Int32)) (by decide) ?_
          refine Go.goto (pc' := 575) X413 hx hby at_571 (by decide) (by decide) ?_
          refine Go.istore (Ls' := #[.val (.int x0), .val (.int x1), .val (.int x2), .val (.int n1), .val (.int n2), .val (.int (0 : Int32)), .val (.int (1 : Int32)), .val (.ref s1), .val (.ref s2), .val (.ref b271), .val (.ref r1), .val (.ref r2), .val (.ref b307), .val (.int ((tl + (1 : Int32)) + (1 : Int32))), .val (.int (0 : Int32)), .val (.int (1 : Int32))]) (pc' := 577) X413 hx hby at_575 rfl rfl ?_
          refine Go.iload (pc' := 579) X413 hx hby at_577 rfl rfl ?_
          exact Go.retZW X413 hx hby hlk hret (by simp) at_579 (by decide) (by decide) S267 (by rw [e409]; exact hk360) ⟨rfl, N362⟩
        ·
          intro jn414
          refine Go.iload (pc' := 192) X326 hx hby at_190 rfl rfl ?_
          refine Go.ifN (pc' := 195) X326 hx hby at_192 rfl (show ¬ ((1 : Int32) = 0) from by decide) ?_
          refine Go.iload (pc' := 197) X326 hx hby at_195 rfl rfl ?_
          have e1_ : (tl + 1).toInt = tl.toInt + 1 := by rw [own_add tl 1 (by omega) (by omega) (by decide) (by decide), own_1]
          have e2_ : (tl + 1 + 1).toInt = tl.toInt + 2 := by rw [own_add _ 1 (by omega) (by omega) (by decide) (by decide), own_1]; omega
          have e3_ : ((tl + 1 + 1) + 1).toInt = tl.toInt + 3 := by rw [own_add _ 1 (by omega) (by omega) (by decide) (by decide), own_1]; omega
          have e4_ : (((tl + 1 + 1) + 1) + 1).toInt = tl.toInt + 4 := by rw [own_add _ 1 (by omega) (by omega) (by decide) (by decide), own_1]; omega
          refine Go.ifN (pc' := 200) X326 hx hby at_197 rfl (show ¬ ((0 : Int32) ≠ 0) from by decide) ?_
          refine Go.iloadN (pc' := 201) X326 hx hby at_200 rfl rfl ?_
          refine Go.if_ (pc' := 214) (pn := 204) X326 hx hby at_201 (by decide) (by decide) rfl (fun (tz : n1 ≤ 0) => ?_) (fun (tz : ¬ (n1 ≤ 0)) => ?_)
          ·
            rw [Int32.le_iff_toInt_le, v0] at tz
            have sp2 : own_sp n1.toInt = 0 := by omega
            rcases d2 with q | q | q | q
            ·
              subst q
              show Go p e below _ (T323.setTop (mkF m 214 #[.val (.int x0), .val (.int x1), .val (.int x2), .val (.int n1), .val (.int (0 : Int32)), .val (.int (0 : Int32)), .val (.int (1 : Int32)), .val (.ref s1), .val (.ref s2), .val (.ref b271), .val (.ref r1), .val (.ref r2), .val (.ref b307), .val (.int tl), .unset, .unset] []))
              refine Go.iload (pc' := 216) X326 hx hby at_214 rfl rfl ?_
              refine Go.ifY (pc' := 232) X326 hx hby at_216 (by decide) (by decide) (show (0 : Int32) ≤ 0 from by decide) ?_
              refine Go.iload (pc' := 234) X326 hx hby at_232 rfl rfl ?_
              refine Go.iconst (pc' := 235) X326 hx hby at_234 rfl (v := (1 : Int32)) (by decide) ?_
              refine Go.icmpY (pc' := 251) X326 hx hby at_235 (by decide) (by decide) (show (0 : Int32) ≤ (1 : Int32) from by decide) ?_
              refine Go.iload (pc' := 253) X326 hx hby at_251 rfl rfl ?_
              refine Go.iconst (pc' := 254) X326 hx hby at_253 rfl (v := (2 : Int32)) (by decide) ?_
              refine Go.icmpY (pc' := 270) X326 hx hby at_254 (by decide) (by decide) (show (0 : Int32) ≤ (2 : Int32) from by decide) ?_
              have f415 : Ar Z h324 b307 .char 10 (fun q => .int ((fun q => Tt q) q)) := At.congr (fun i h1 h2 => rfl)
              exact jn414 (T323, h324, _, tl, (fun q => Tt q)) ⟨X326, e327, N328, z329, hk330, by (try dsimp only); rw [show (0 : Int32).toInt = 0 from by decide]; omega, f415, fun q h1 h2 => by
                    (try dsimp only at h2 ⊢)
                    unfold own_tb
                    by_cases g : q < tl.toInt
                    · rw [if_pos (by omega)]; exact ct q h1 g
                    · omega, Ra, Rb⟩
            ·
              subst q
              show Go p e below _ (T323.setTop (mkF m 214 #[.val (.int x0), .val (.int x1), .val (.int x2), .val (.int n1), .val (.int (1 : Int32)), .val (.int (0 : Int32)), .val (.int (1 : Int32)), .val (.ref s1), .val (.ref s2), .val (.ref b271), .val (.ref r1), .val (.ref r2), .val (.ref b307), .val (.int tl), .unset, .unset] []))
              refine Go.iload (pc' := 216) X326 hx hby at_214 rfl rfl ?_
              refine Go.ifN (pc' := 219) X326 hx hby at_216 rfl (show ¬ ((1 : Int32) ≤ 0) from by decide) ?_
              refine Go.aload (pc' := 221) X326 hx hby at_219 rfl rfl rfl ?_
              refine Go.iload (pc' := 223) X326 hx hby at_221 rfl rfl ?_
              refine Go.iinc (w := tl + (1 : Int32)) (Ls' := #[.val (.int x0), .val (.int x1), .val (.int x2), .val (.int n1), .val (.int (1 : Int32)), .val (.int (0 : Int32)), .val (.int (1 : Int32)), .val (.ref s1), .val (.ref s2), .val (.ref b271), .val (.ref r1), .val (.ref r2), .val (.ref b307), .val (.int (tl + (1 : Int32))), .unset, .unset]) (pc' := 226) X326 hx hby at_223 rfl rfl rfl rfl ?_
              refine Go.iloadN (pc' := 227) X326 hx hby at_226 rfl rfl ?_
              refine Go.iconst (pc' := 228) X326 hx hby at_227 rfl (v := (0 : Int32)) (by decide) ?_
              refine Go.callS (pc' := 231) (W := 2) (argsL := [(.int x1), (.int (0 : Int32))]) (rest := [(.int tl), (.ref b307)]) X326 hx hby hZ268 hown269 (hw _ (List.mem_of_getElem? (i := 8) rfl)) (hw _ (List.mem_of_getElem? (i := 9) rfl)) (hw _ (List.mem_of_getElem? (i := 2) rfl)) (hw _ (List.mem_of_getElem? (i := 10) rfl)) (by decide) (rmch l Z a0 hw x1 0 h324) e327 (by decide) (by decide) (by rw [hml]; rfl) pd_10 rfl rfl rfl (Nat.le_of_eq rfl) at_228 rfl (by decide) (by decide) ?_
              rintro r417 T418 L419 X420 ⟨rfl, rfl, e416⟩
              rw [List.append_nil] at X420
              show Go p e below _ (T418.setTop (mkF m 231 #[.val (.int x0), .val (.int x1), .val (.int x2), .val (.int n1), .val (.int (1 : Int32)), .val (.int (0 : Int32)), .val (.int (1 : Int32)), .val (.ref s1), .val (.ref s2), .val (.ref b271), .val (.ref r1), .val (.ref r2), .val (.ref b307), .val (.int (tl + (1 : Int32))), .unset, .unset] [(.int (own_ck x1 0)), (.int tl), (.ref b307)]))
              refine Go.castore (pc' := 232) (i := tl.toInt) X420 hx hby hZ268 e416 At at_231 rfl rfl (by omega) (by omega) ?_
              intro T421 h422 X423 e424 W425 A426
              have f427 : Ar Z h422 r1 .byte (ln1_.toInt + 2) (fun q => .int (Rr1 q)) := Ra.other W425 n315
              have f428 : Ar Z h422 r2 .byte (ln1_.toInt + 2) (fun q => .int (Rr2 q)) := Rb.other W425 n316
              have z429 : h0.size ≤ h422.size := by rw [Wr.size W425]; exact z329
              have hk430 : T264.heap.size ≤ h422.size := by rw [Wr.size W425]; exact hk330
              have f431 : Ar Z h422 b307 .char 10 (fun q => if q = tl.toInt then (.int (nar .char (own_ck x1 0))) else .int (Tt q)) := A426
              have N432 : Fr h0.size _ := Fr.snoc X423 N328 g317
              show Go p e below _ (T421.setTop (mkF m 232 #[.val (.int x0), .val (.int x1), .val (.int x2), .val (.int n1), .val (.int (1 : Int32)), .val (.int (0 : Int32)), .val (.int (1 : Int32)), .val (.ref s1), .val (.ref s2), .val (.ref b271), .val (.ref r1), .val (.ref r2), .val (.ref b307), .val (.int (tl + (1 : Int32))), .unset, .unset] []))
              refine Go.iload (pc' := 234) X423 hx hby at_232 rfl rfl ?_
              refine Go.iconst (pc' := 235) X423 hx hby at_234 rfl (v := (1 : Int32)) (by decide) ?_
              refine Go.icmpY (pc' := 251) X423 hx hby at_235 (by decide) (by decide) (show (1 : Int32) ≤ (1 : Int32) from by decide) ?_
              refine Go.iload (pc' := 253) X423 hx hby at_251 rfl rfl ?_
              refine Go.iconst (pc' := 254) X423 hx hby at_253 rfl (v := (2 : Int32)) (by decide) ?_
              refine Go.icmpY (pc' := 270) X423 hx hby at_254 (by decide) (by decide) (show (1 : Int32) ≤ (2 : Int32) from by decide) ?_
              have f433 : Ar Z h422 b307 .char 10 (fun q => .int ((fun q => if q = tl.toInt then own_ck x1 0 else Tt q) q)) := f431.congr (fun i h1 h2 => by simp only [apply_ite Value.int, own_nc7 (own_ckr x0 _), own_nc7 (own_ckr x1 _), own_nc32, own_nc13, own_nc10])
              exact jn414 (T421, h422, _, tl + (1 : Int32), (fun q => if q = tl.toInt then own_ck x1 0 else Tt q)) ⟨X423, e424, N432, z429, hk430, by (try dsimp only); rw [e1_, show (1 : Int32).toInt = 1 from by decide]; omega, f433, fun q h1 h2 => by
                    (try dsimp only at h2 ⊢)
                    rw [e1_] at h2
                    unfold own_tb
                    by_cases g : q < tl.toInt
                    · rw [if_neg (by omega), if_pos (by omega)]; exact ct q h1 g
                    · have t : q = tl.toInt + 0 := (by omega)
                      rcases t with g0
                      · rw [if_pos (by omega), if_neg (by omega), if_neg (by omega)]; rw [show q - (0 + n1.toInt) - (own_sp n1.toInt) = 0 from by omega]; rfl, f427, f428⟩
            ·
              subst q
              show Go p e below _ (T323.setTop (mkF m 214 #[.val (.int x0), .val (.int x1), .val (.int x2), .val (.int n1), .val (.int (2 : Int32)), .val (.int (0 : Int32)), .val (.int (1 : Int32)), .val (.ref s1), .val (.ref s2), .val (.ref b271), .val (.ref r1), .val (.ref r2), .val (.ref b307), .val (.int tl), .unset, .unset] []))
              refine Go.iload (pc' := 216) X326 hx hby at_214 rfl rfl ?_
              refine Go.ifN (pc' := 219) X326 hx hby at_216 rfl (show ¬ ((2 : Int32) ≤ 0) from by decide) ?_
              refine Go.aload (pc' := 221) X326 hx hby at_219 rfl rfl rfl ?_
              refine Go.iload (pc' := 223) X326 hx hby at_221 rfl rfl ?_
              refine Go.iinc (w := tl + (1 : Int32)) (Ls' := #[.val (.int x0), .val (.int x1), .val (.int x2), .val (.int n1), .val (.int (2 : Int32)), .val (.int (0 : Int32)), .val (.int (1 : Int32)), .val (.ref s1), .val (.ref s2), .val (.ref b271), .val (.ref r1), .val (.ref r2), .val (.ref b307), .val (.int (tl + (1 : Int32))), .unset, .unset]) (pc' := 226) X326 hx hby at_223 rfl rfl rfl rfl ?_
              refine Go.iloadN (pc' := 227) X326 hx hby at_226 rfl rfl ?_
              refine Go.iconst (pc' := 228) X326 hx hby at_227 rfl (v := (0 : Int32)) (by decide) ?_
              refine Go.callS (pc' := 231) (W := 2) (argsL := [(.int x1), (.int (0 : Int32))]) (rest := [(.int tl), (.ref b307)]) X326 hx hby hZ268 hown269 (hw _ (List.mem_of_getElem? (i := 8) rfl)) (hw _ (List.mem_of_getElem? (i := 9) rfl)) (hw _ (List.mem_of_getElem? (i := 2) rfl)) (hw _ (List.mem_of_getElem? (i := 10) rfl)) (by decide) (rmch l Z a0 hw x1 0 h324) e327 (by decide) (by decide) (by rw [hml]; rfl) pd_10 rfl rfl rfl (Nat.le_of_eq rfl) at_228 rfl (by decide) (by decide) ?_
              rintro r435 T436 L437 X438 ⟨rfl, rfl, e434⟩
              rw [List.append_nil] at X438
              show Go p e below _ (T436.setTop (mkF m 231 #[.val (.int x0), .val (.int x1), .val (.int x2), .val (.int n1), .val (.int (2 : Int32)), .val (.int (0 : Int32)), .val (.int (1 : Int32)), .val (.ref s1), .val (.ref s2), .val (.ref b271), .val (.ref r1), .val (.ref r2), .val (.ref b307), .val (.int (tl + (1 : Int32))), .unset, .unset] [(.int (own_ck x1 0)), (.int tl), (.ref b307)]))
              refine Go.castore (pc' := 232) (i := tl.toInt) X438 hx hby hZ268 e434 At at_231 rfl rfl (by omega) (by omega) ?_
              intro T439 h440 X441 e442 W443 A444
              have f445 : Ar Z h440 r1 .byte (ln1_.toInt + 2) (fun q => .int (Rr1 q)) := Ra.other W443 n315
              have f446 : Ar Z h440 r2 .byte (ln1_.toInt + 2) (fun q => .int (Rr2 q)) := Rb.other W443 n316
              have z447 : h0.size ≤ h440.size := by rw [Wr.size W443]; exact z329
              have hk448 : T264.heap.size ≤ h440.size := by rw [Wr.size W443]; exact hk330
              have f449 : Ar Z h440 b307 .char 10 (fun q => if q = tl.toInt then (.int (nar .char (own_ck x1 0))) else .int (Tt q)) := A444
              have N450 : Fr h0.size _ := Fr.snoc X441 N328 g317
              show Go p e below _ (T439.setTop (mkF m 232 #[.val (.int x0), .val (.int x1), .val (.int x2), .val (.int n1), .val (.int (2 : Int32)), .val (.int (0 : Int32)), .val (.int (1 : Int32)), .val (.ref s1), .val (.ref s2), .val (.ref b271), .val (.ref r1), .val (.ref r2), .val (.ref b307), .val (.int (tl + (1 : Int32))), .unset, .unset] []))
              refine Go.iload (pc' := 234) X441 hx hby at_232 rfl rfl ?_
              refine Go.iconst (pc' := 235) X441 hx hby at_234 rfl (v := (1 : Int32)) (by decide) ?_
              refine Go.icmpN (pc' := 238) X441 hx hby at_235 rfl (show ¬ ((2 : Int32) ≤ (1 : Int32)) from by decide) ?_
              refine Go.aload (pc' := 240) X441 hx hby at_238 rfl rfl rfl ?_
              refine Go.iload (pc' := 242) X441 hx hby at_240 rfl rfl ?_
              refine Go.iinc (w := (tl + (1 : Int32)) + (1 : Int32)) (Ls' := #[.val (.int x0), .val (.int x1), .val (.int x2), .val (.int n1), .val (.int (2 : Int32)), .val (.int (0 : Int32)), .val (.int (1 : Int32)), .val (.ref s1), .val (.ref s2), .val (.ref b271), .val (.ref r1), .val (.ref r2), .val (.ref b307), .val (.int ((tl + (1 : Int32)) + (1 : Int32))), .unset, .unset]) (pc' := 245) X441 hx hby at_242 rfl rfl rfl rfl ?_
              refine Go.iloadN (pc' := 246) X441 hx hby at_245 rfl rfl ?_
              refine Go.iconst (pc' := 247) X441 hx hby at_246 rfl (v := (1 : Int32)) (by decide) ?_
              refine Go.callS (pc' := 250) (W := 2) (argsL := [(.int x1), (.int (1 : Int32))]) (rest := [(.int (tl + (1 : Int32))), (.ref b307)]) X441 hx hby hZ268 hown269 (hw _ (List.mem_of_getElem? (i := 8) rfl)) (hw _ (List.mem_of_getElem? (i := 9) rfl)) (hw _ (List.mem_of_getElem? (i := 2) rfl)) (hw _ (List.mem_of_getElem? (i := 10) rfl)) (by decide) (rmch l Z a0 hw x1 1 h440) e442 (by decide) (by decide) (by rw [hml]; rfl) pd_10 rfl rfl rfl (Nat.le_of_eq rfl) at_247 rfl (by decide) (by decide) ?_
              rintro r452 T453 L454 X455 ⟨rfl, rfl, e451⟩
              rw [List.append_nil] at X455
              show Go p e below _ (T453.setTop (mkF m 250 #[.val (.int x0), .val (.int x1), .val (.int x2), .val (.int n1), .val (.int (2 : Int32)), .val (.int (0 : Int32)), .val (.int (1 : Int32)), .val (.ref s1), .val (.ref s2), .val (.ref b271), .val (.ref r1), .val (.ref r2), .val (.ref b307), .val (.int ((tl + (1 : Int32)) + (1 : Int32))), .unset, .unset] [(.int (own_ck x1 1)), (.int (tl + (1 : Int32))), (.ref b307)]))
              refine Go.castore (pc' := 251) (i := (tl.toInt + 1)) X455 hx hby hZ268 e451 f449 at_250 rfl e1_ (by omega) (by omega) ?_
              intro T456 h457 X458 e459 W460 A461
              have f462 : Ar Z h457 r1 .byte (ln1_.toInt + 2) (fun q => .int (Rr1 q)) := f445.other W460 n315
              have f463 : Ar Z h457 r2 .byte (ln1_.toInt + 2) (fun q => .int (Rr2 q)) := f446.other W460 n316
              have z464 : h0.size ≤ h457.size := by rw [Wr.size W460]; exact z447
              have hk465 : T264.heap.size ≤ h457.size := by rw [Wr.size W460]; exact hk448
              have f466 : Ar Z h457 b307 .char 10 (fun q => if q = (tl.toInt + 1) then (.int (nar .char (own_ck x1 1))) else if q = tl.toInt then (.int (nar .char (own_ck x1 0))) else .int (Tt q)) := A461
              have N467 : Fr h0.size _ := Fr.snoc X458 N450 g317
              show Go p e below _ (T456.setTop (mkF m 251 #[.val (.int x0), .val (.int x1), .val (.int x2), .val (.int n1), .val (.int (2 : Int32)), .val (.int (0 : Int32)), .val (.int (1 : Int32)), .val (.ref s1), .val (.ref s2), .val (.ref b271), .val (.ref r1), .val (.ref r2), .val (.ref b307), .val (.int ((tl + (1 : Int32)) + (1 : Int32))), .unset, .unset] []))
              refine Go.iload (pc' := 253) X458 hx hby at_251 rfl rfl ?_
              refine Go.iconst (pc' := 254) X458 hx hby at_253 rfl (v := (2 : Int32)) (by decide) ?_
              refine Go.icmpY (pc' := 270) X458 hx hby at_254 (by decide) (by decide) (show (2 : Int32) ≤ (2 : Int32) from by decide) ?_
              have f468 : Ar Z h457 b307 .char 10 (fun q => .int ((fun q => if q = tl.toInt + 1 then own_ck x1 1 else if q = tl.toInt then own_ck x1 0 else Tt q) q)) := f466.congr (fun i h1 h2 => by simp only [apply_ite Value.int, own_nc7 (own_ckr x0 _), own_nc7 (own_ckr x1 _), own_nc32, own_nc13, own_nc10])
              exact jn414 (T456, h457, _, (tl + (1 : Int32)) + (1 : Int32), (fun q => if q = tl.toInt + 1 then own_ck x1 1 else if q = tl.toInt then own_ck x1 0 else Tt q)) ⟨X458, e459, N467, z464, hk465, by (try dsimp only); rw [e2_, show (2 : Int32).toInt = 2 from by decide]; omega, f468, fun q h1 h2 => by
                    (try dsimp only at h2 ⊢)
                    rw [e2_] at h2
                    unfold own_tb
                    by_cases g : q < tl.toInt
                    · rw [if_neg (by omega), if_neg (by omega), if_pos (by omega)]; exact ct q h1 g
                    · have t : q = tl.toInt + 0 ∨ q = tl.toInt + 1 := (by omega)
                      rcases t with g0 | g1
                      · rw [if_neg (by omega), if_pos (by omega), if_neg (by omega), if_neg (by omega)]; rw [show q - (0 + n1.toInt) - (own_sp n1.toInt) = 0 from by omega]; rfl
                      · rw [if_pos (by omega), if_neg (by omega), if_neg (by omega)]; rw [show q - (0 + n1.toInt) - (own_sp n1.toInt) = 1 from by omega]; rfl, f462, f463⟩
            ·
              subst q
              show Go p e below _ (T323.setTop (mkF m 214 #[.val (.int x0), .val (.int x1), .val (.int x2), .val (.int n1), .val (.int (3 : Int32)), .val (.int (0 : Int32)), .val (.int (1 : Int32)), .val (.ref s1), .val (.ref s2), .val (.ref b271), .val (.ref r1), .val (.ref r2), .val (.ref b307), .val (.int tl), .unset, .unset] []))
              refine Go.iload (pc' := 216) X326 hx hby at_214 rfl rfl ?_
              refine Go.ifN (pc' := 219) X326 hx hby at_216 rfl (show ¬ ((3 : Int32) ≤ 0) from by decide) ?_
              refine Go.aload (pc' := 221) X326 hx hby at_219 rfl rfl rfl ?_
              refine Go.iload (pc' := 223) X326 hx hby at_221 rfl rfl ?_
              refine Go.iinc (w := tl + (1 : Int32)) (Ls' := #[.val (.int x0), .val (.int x1), .val (.int x2), .val (.int n1), .val (.int (3 : Int32)), .val (.int (0 : Int32)), .val (.int (1 : Int32)), .val (.ref s1), .val (.ref s2), .val (.ref b271), .val (.ref r1), .val (.ref r2), .val (.ref b307), .val (.int (tl + (1 : Int32))), .unset, .unset]) (pc' := 226) X326 hx hby at_223 rfl rfl rfl rfl ?_
              refine Go.iloadN (pc' := 227) X326 hx hby at_226 rfl rfl ?_
              refine Go.iconst (pc' := 228) X326 hx hby at_227 rfl (v := (0 : Int32)) (by decide) ?_
              refine Go.callS (pc' := 231) (W := 2) (argsL := [(.int x1), (.int (0 : Int32))]) (rest := [(.int tl), (.ref b307)]) X326 hx hby hZ268 hown269 (hw _ (List.mem_of_getElem? (i := 8) rfl)) (hw _ (List.mem_of_getElem? (i := 9) rfl)) (hw _ (List.mem_of_getElem? (i := 2) rfl)) (hw _ (List.mem_of_getElem? (i := 10) rfl)) (by decide) (rmch l Z a0 hw x1 0 h324) e327 (by decide) (by decide) (by rw [hml]; rfl) pd_10 rfl rfl rfl (Nat.le_of_eq rfl) at_228 rfl (by decide) (by decide) ?_
              rintro r470 T471 L472 X473 ⟨rfl, rfl, e469⟩
              rw [List.append_nil] at X473
              show Go p e below _ (T471.setTop (mkF m 231 #[.val (.int x0), .val (.int x1), .val (.int x2), .val (.int n1), .val (.int (3 : Int32)), .val (.int (0 : Int32)), .val (.int (1 : Int32)), .val (.ref s1), .val (.ref s2), .val (.ref b271), .val (.ref r1), .val (.ref r2), .val (.ref b307), .val (.int (tl + (1 : Int32))), .unset, .unset] [(.int (own_ck x1 0)), (.int tl), (.ref b307)]))
              refine Go.castore (pc' := 232) (i := tl.toInt) X473 hx hby hZ268 e469 At at_231 rfl rfl (by omega) (by omega) ?_
              intro T474 h475 X476 e477 W478 A479
              have f480 : Ar Z h475 r1 .byte (ln1_.toInt + 2) (fun q => .int (Rr1 q)) := Ra.other W478 n315
              have f481 : Ar Z h475 r2 .byte (ln1_.toInt + 2) (fun q => .int (Rr2 q)) := Rb.other W478 n316
              have z482 : h0.size ≤ h475.size := by rw [Wr.size W478]; exact z329
              have hk483 : T264.heap.size ≤ h475.size := by rw [Wr.size W478]; exact hk330
              have f484 : Ar Z h475 b307 .char 10 (fun q => if q = tl.toInt then (.int (nar .char (own_ck x1 0))) else .int (Tt q)) := A479
              have N485 : Fr h0.size _ := Fr.snoc X476 N328 g317
              show Go p e below _ (T474.setTop (mkF m 232 #[.val (.int x0), .val (.int x1), .val (.int x2), .val (.int n1), .val (.int (3 : Int32)), .val (.int (0 : Int32)), .val (.int (1 : Int32)), .val (.ref s1), .val (.ref s2), .val (.ref b271), .val (.ref r1), .val (.ref r2), .val (.ref b307), .val (.int (tl + (1 : Int32))), .unset, .unset] []))
              refine Go.iload (pc' := 234) X476 hx hby at_232 rfl rfl ?_
              refine Go.iconst (pc' := 235) X476 hx hby at_234 rfl (v := (1 : Int32)) (by decide) ?_
              refine Go.icmpN (pc' := 238) X476 hx hby at_235 rfl (show ¬ ((3 : Int32) ≤ (1 : Int32)) from by decide) ?_
              refine Go.aload (pc' := 240) X476 hx hby at_238 rfl rfl rfl ?_
              refine Go.iload (pc' := 242) X476 hx hby at_240 rfl rfl ?_
              refine Go.iinc (w := (tl + (1 : Int32)) + (1 : Int32)) (Ls' := #[.val (.int x0), .val (.int x1), .val (.int x2), .val (.int n1), .val (.int (3 : Int32)), .val (.int (0 : Int32)), .val (.int (1 : Int32)), .val (.ref s1), .val (.ref s2), .val (.ref b271), .val (.ref r1), .val (.ref r2), .val (.ref b307), .val (.int ((tl + (1 : Int32)) + (1 : Int32))), .unset, .unset]) (pc' := 245) X476 hx hby at_242 rfl rfl rfl rfl ?_
              refine Go.iloadN (pc' := 246) X476 hx hby at_245 rfl rfl ?_
              refine Go.iconst (pc' := 247) X476 hx hby at_246 rfl (v := (1 : Int32)) (by decide) ?_
              refine Go.callS (pc' := 250) (W := 2) (argsL := [(.int x1), (.int (1 : Int32))]) (rest := [(.int (tl + (1 : Int32))), (.ref b307)]) X476 hx hby hZ268 hown269 (hw _ (List.mem_of_getElem? (i := 8) rfl)) (hw _ (List.mem_of_getElem? (i := 9) rfl)) (hw _ (List.mem_of_getElem? (i := 2) rfl)) (hw _ (List.mem_of_getElem? (i := 10) rfl)) (by decide) (rmch l Z a0 hw x1 1 h475) e477 (by decide) (by decide) (by rw [hml]; rfl) pd_10 rfl rfl rfl (Nat.le_of_eq rfl) at_247 rfl (by decide) (by decide) ?_
              rintro r487 T488 L489 X490 ⟨rfl, rfl, e486⟩
              rw [List.append_nil] at X490
              show Go p e below _ (T488.setTop (mkF m 250 #[.val (.int x0), .val (.int x1), .val (.int x2), .val (.int n1), .val (.int (3 : Int32)), .val (.int (0 : Int32)), .val (.int (1 : Int32)), .val (.ref s1), .val (.ref s2), .val (.ref b271), .val (.ref r1), .val (.ref r2), .val (.ref b307), .val (.int ((tl + (1 : Int32)) + (1 : Int32))), .unset, .unset] [(.int (own_ck x1 1)), (.int (tl + (1 : Int32))), (.ref b307)]))
              refine Go.castore (pc' := 251) (i := (tl.toInt + 1)) X490 hx hby hZ268 e486 f484 at_250 rfl e1_ (by omega) (by omega) ?_
              intro T491 h492 X493 e494 W495 A496
              have f497 : Ar Z h492 r1 .byte (ln1_.toInt + 2) (fun q => .int (Rr1 q)) := f480.other W495 n315
              have f498 : Ar Z h492 r2 .byte (ln1_.toInt + 2) (fun q => .int (Rr2 q)) := f481.other W495 n316
              have z499 : h0.size ≤ h492.size := by rw [Wr.size W495]; exact z482
              have hk500 : T264.heap.size ≤ h492.size := by rw [Wr.size W495]; exact hk483
              have f501 : Ar Z h492 b307 .char 10 (fun q => if q = (tl.toInt + 1) then (.int (nar .char (own_ck x1 1))) else if q = tl.toInt then (.int (nar .char (own_ck x1 0))) else .int (Tt q)) := A496
              have N502 : Fr h0.size _ := Fr.snoc X493 N485 g317
              show Go p e below _ (T491.setTop (mkF m 251 #[.val (.int x0), .val (.int x1), .val (.int x2), .val (.int n1), .val (.int (3 : Int32)), .val (.int (0 : Int32)), .val (.int (1 : Int32)), .val (.ref s1), .val (.ref s2), .val (.ref b271), .val (.ref r1), .val (.ref r2), .val (.ref b307), .val (.int ((tl + (1 : Int32)) + (1 : Int32))), .unset, .unset] []))
              refine Go.iload (pc' := 253) X493 hx hby at_251 rfl rfl ?_
              refine Go.iconst (pc' := 254) X493 hx hby at_253 rfl (v := (2 : Int32)) (by decide) ?_
              refine Go.icmpN (pc' := 257) X493 hx hby at_254 rfl (show ¬ ((3 : Int32) ≤ (2 : Int32)) from by decide) ?_
              refine Go.aload (pc' := 259) X493 hx hby at_257 rfl rfl rfl ?_
              refine Go.iload (pc' := 261) X493 hx hby at_259 rfl rfl ?_
              refine Go.iinc (w := ((tl + (1 : Int32)) + (1 : Int32)) + (1 : Int32)) (Ls' := #[.val (.int x0), .val (.int x1), .val (.int x2), .val (.int n1), .val (.int (3 : Int32)), .val (.int (0 : Int32)), .val (.int (1 : Int32)), .val (.ref s1), .val (.ref s2), .val (.ref b271), .val (.ref r1), .val (.ref r2), .val (.ref b307), .val (.int (((tl + (1 : Int32)) + (1 : Int32)) + (1 : Int32))), .unset, .unset]) (pc' := 264) X493 hx hby at_261 rfl rfl rfl rfl ?_
              refine Go.iloadN (pc' := 265) X493 hx hby at_264 rfl rfl ?_
              refine Go.iconst (pc' := 266) X493 hx hby at_265 rfl (v := (2 : Int32)) (by decide) ?_
              refine Go.callS (pc' := 269) (W := 2) (argsL := [(.int x1), (.int (2 : Int32))]) (rest := [(.int ((tl + (1 : Int32)) + (1 : Int32))), (.ref b307)]) X493 hx hby hZ268 hown269 (hw _ (List.mem_of_getElem? (i := 8) rfl)) (hw _ (List.mem_of_getElem? (i := 9) rfl)) (hw _ (List.mem_of_getElem? (i := 2) rfl)) (hw _ (List.mem_of_getElem? (i := 10) rfl)) (by decide) (rmch l Z a0 hw x1 2 h492) e494 (by decide) (by decide) (by rw [hml]; rfl) pd_10 rfl rfl rfl (Nat.le_of_eq rfl) at_266 rfl (by decide) (by decide) ?_
              rintro r504 T505 L506 X507 ⟨rfl, rfl, e503⟩
              rw [List.append_nil] at X507
              show Go p e below _ (T505.setTop (mkF m 269 #[.val (.int x0), .val (.int x1), .val (.int x2), .val (.int n1), .val (.int (3 : Int32)), .val (.int (0 : Int32)), .val (.int (1 : Int32)), .val (.ref s1), .val (.ref s2), .val (.ref b271), .val (.ref r1), .val (.ref r2), .val (.ref b307), .val (.int (((tl + (1 : Int32)) + (1 : Int32)) + (1 : Int32))), .unset, .unset] [(.int (own_ck x1 2)), (.int ((tl + (1 : Int32)) + (1 : Int32))), (.ref b307)]))
              refine Go.castore (pc' := 270) (i := (tl.toInt + 2)) X507 hx hby hZ268 e503 f501 at_269 rfl e2_ (by omega) (by omega) ?_
              intro T508 h509 X510 e511 W512 A513
              have f514 : Ar Z h509 r1 .byte (ln1_.toInt + 2) (fun q => .int (Rr1 q)) := f497.other W512 n315
              have f515 : Ar Z h509 r2 .byte (ln1_.toInt + 2) (fun q => .int (Rr2 q)) := f498.other W512 n316
              have z516 : h0.size ≤ h509.size := by rw [Wr.size W512]; exact z499
              have hk517 : T264.heap.size ≤ h509.size := by rw [Wr.size W512]; exact hk500
              have f518 : Ar Z h509 b307 .char 10 (fun q => if q = (tl.toInt + 2) then (.int (nar .char (own_ck x1 2))) else if q = (tl.toInt + 1) then (.int (nar .char (own_ck x1 1))) else if q = tl.toInt then (.int (nar .char (own_ck x1 0))) else .int (Tt q)) := A513
              have N519 : Fr h0.size _ := Fr.snoc X510 N502 g317
              show Go p e below _ (T508.setTop (mkF m 270 #[.val (.int x0), .val (.int x1), .val (.int x2), .val (.int n1), .val (.int (3 : Int32)), .val (.int (0 : Int32)), .val (.int (1 : Int32)), .val (.ref s1), .val (.ref s2), .val (.ref b271), .val (.ref r1), .val (.ref r2), .val (.ref b307), .val (.int (((tl + (1 : Int32)) + (1 : Int32)) + (1 : Int32))), .unset, .unset] []))
              have f520 : Ar Z h509 b307 .char 10 (fun q => .int ((fun q => if q = tl.toInt + 2 then own_ck x1 2 else if q = tl.toInt + 1 then own_ck x1 1 else if q = tl.toInt then own_ck x1 0 else Tt q) q)) := f518.congr (fun i h1 h2 => by simp only [apply_ite Value.int, own_nc7 (own_ckr x0 _), own_nc7 (own_ckr x1 _), own_nc32, own_nc13, own_nc10])
              exact jn414 (T508, h509, _, ((tl + (1 : Int32)) + (1 : Int32)) + (1 : Int32), (fun q => if q = tl.toInt + 2 then own_ck x1 2 else if q = tl.toInt + 1 then own_ck x1 1 else if q = tl.toInt then own_ck x1 0 else Tt q)) ⟨X510, e511, N519, z516, hk517, by (try dsimp only); rw [e3_, show (3 : Int32).toInt = 3 from by decide]; omega, f520, fun q h1 h2 => by
                    (try dsimp only at h2 ⊢)
                    rw [e3_] at h2
                    unfold own_tb
                    by_cases g : q < tl.toInt
                    · rw [if_neg (by omega), if_neg (by omega), if_neg (by omega), if_pos (by omega)]; exact ct q h1 g
                    · have t : q = tl.toInt + 0 ∨ q = tl.toInt + 1 ∨ q = tl.toInt + 2 := (by omega)
                      rcases t with g0 | g1 | g2
                      · rw [if_neg (by omega), if_neg (by omega), if_pos (by omega), if_neg (by omega), if_neg (by omega)]; rw [show q - (0 + n1.toInt) - (own_sp n1.toInt) = 0 from by omega]; rfl
                      · rw [if_neg (by omega), if_pos (by omega), if_neg (by omega), if_neg (by omega)]; rw [show q - (0 + n1.toInt) - (own_sp n1.toInt) = 1 from by omega]; rfl
                      · rw [if_pos (by omega), if_neg (by omega), if_neg (by omega)]; rw [show q - (0 + n1.toInt) - (own_sp n1.toInt) = 2 from by omega]; rfl, f514, f515⟩
          ·
            rw [Int32.le_iff_toInt_le, v0] at tz
            have sp2 : own_sp n1.toInt = 1 := by omega
            refine Go.aload (pc' := 206) X326 hx hby at_204 rfl rfl rfl ?_
            refine Go.iload (pc' := 208) X326 hx hby at_206 rfl rfl ?_
            refine Go.iinc (w := tl + (1 : Int32)) (Ls' := #[.val (.int x0), .val (.int x1), .val (.int x2), .val (.int n1), .val (.int n2), .val (.int (0 : Int32)), .val (.int (1 : Int32)), .val (.ref s1), .val (.ref s2), .val (.ref b271), .val (.ref r1), .val (.ref r2), .val (.ref b307), .val (.int (tl + (1 : Int32))), .unset, .unset]) (pc' := 211) X326 hx hby at_208 rfl rfl rfl rfl ?_
            show Go p e below _ (T323.setTop (mkF m 211 #[.val (.int x0), .val (.int x1), .val (.int x2), .val (.int n1), .val (.int n2), .val (.int (0 : Int32)), .val (.int (1 : Int32)), .val (.ref s1), .val (.ref s2), .val (.ref b271), .val (.ref r1), .val (.ref r2), .val (.ref b307), .val (.int (tl + (1 : Int32))), .unset, .unset] [(.int tl), (.ref b307)]))
            refine Go.bipush (pc' := 213) X326 hx hby at_211 rfl (v := (32 : Int32)) (by decide) ?_
            refine Go.castore (pc' := 214) (i := tl.toInt) X326 hx hby hZ268 e327 At at_213 rfl rfl (by omega) (by omega) ?_
            intro T521 h522 X523 e524 W525 A526
            have f527 : Ar Z h522 r1 .byte (ln1_.toInt + 2) (fun q => .int (Rr1 q)) := Ra.other W525 n315
            have f528 : Ar Z h522 r2 .byte (ln1_.toInt + 2) (fun q => .int (Rr2 q)) := Rb.other W525 n316
            have z529 : h0.size ≤ h522.size := by rw [Wr.size W525]; exact z329
            have hk530 : T264.heap.size ≤ h522.size := by rw [Wr.size W525]; exact hk330
            have f531 : Ar Z h522 b307 .char 10 (fun q => if q = tl.toInt then (.int (nar .char (32 : Int32))) else .int (Tt q)) := A526
            have N532 : Fr h0.size _ := Fr.snoc X523 N328 g317
            show Go p e below _ (T521.setTop (mkF m 214 #[.val (.int x0), .val (.int x1), .val (.int x2), .val (.int n1), .val (.int n2), .val (.int (0 : Int32)), .val (.int (1 : Int32)), .val (.ref s1), .val (.ref s2), .val (.ref b271), .val (.ref r1), .val (.ref r2), .val (.ref b307), .val (.int (tl + (1 : Int32))), .unset, .unset] []))
            rcases d2 with q | q | q | q
            ·
              subst q
              show Go p e below _ (T521.setTop (mkF m 214 #[.val (.int x0), .val (.int x1), .val (.int x2), .val (.int n1), .val (.int (0 : Int32)), .val (.int (0 : Int32)), .val (.int (1 : Int32)), .val (.ref s1), .val (.ref s2), .val (.ref b271), .val (.ref r1), .val (.ref r2), .val (.ref b307), .val (.int (tl + (1 : Int32))), .unset, .unset] []))
              refine Go.iload (pc' := 216) X523 hx hby at_214 rfl rfl ?_
              refine Go.ifY (pc' := 232) X523 hx hby at_216 (by decide) (by decide) (show (0 : Int32) ≤ 0 from by decide) ?_
              refine Go.iload (pc' := 234) X523 hx hby at_232 rfl rfl ?_
              refine Go.iconst (pc' := 235) X523 hx hby at_234 rfl (v := (1 : Int32)) (by decide) ?_
              refine Go.icmpY (pc' := 251) X523 hx hby at_235 (by decide) (by decide) (show (0 : Int32) ≤ (1 : Int32) from by decide) ?_
              refine Go.iload (pc' := 253) X523 hx hby at_251 rfl rfl ?_
              refine Go.iconst (pc' := 254) X523 hx hby at_253 rfl (v := (2 : Int32)) (by decide) ?_
              refine Go.icmpY (pc' := 270) X523 hx hby at_254 (by decide) (by decide) (show (0 : Int32) ≤ (2 : Int32) from by decide) ?_
              have f533 : Ar Z h522 b307 .char 10 (fun q => .int ((fun q => if q = tl.toInt then 32 else Tt q) q)) := f531.congr (fun i h1 h2 => by simp only [apply_ite Value.int, own_nc7 (own_ckr x0 _), own_nc7 (own_ckr x1 _), own_nc32, own_nc13, own_nc10])
              exact jn414 (T521, h522, _, tl + (1 : Int32), (fun q => if q = tl.toInt then 32 else Tt q)) ⟨X523, e524, N532, z529, hk530, by (try dsimp only); rw [e1_, show (0 : Int32).toInt = 0 from by decide]; omega, f533, fun q h1 h2 => by
                    (try dsimp only at h2 ⊢)
                    rw [e1_] at h2
                    unfold own_tb
                    by_cases g : q < tl.toInt
                    · rw [if_neg (by omega), if_pos (by omega)]; exact ct q h1 g
                    · have t : q = tl.toInt + 0 := (by omega)
                      rcases t with g0
                      · rw [if_pos (by omega), if_neg (by omega), if_pos (by omega)], f527, f528⟩
            ·
              subst q
              show Go p e below _ (T521.setTop (mkF m 214 #[.val (.int x0), .val (.int x1), .val (.int x2), .val (.int n1), .val (.int (1 : Int32)), .val (.int (0 : Int32)), .val (.int (1 : Int32)), .val (.ref s1), .val (.ref s2), .val (.ref b271), .val (.ref r1), .val (.ref r2), .val (.ref b307), .val (.int (tl + (1 : Int32))), .unset, .unset] []))
              refine Go.iload (pc' := 216) X523 hx hby at_214 rfl rfl ?_
              refine Go.ifN (pc' := 219) X523 hx hby at_216 rfl (show ¬ ((1 : Int32) ≤ 0) from by decide) ?_
              refine Go.aload (pc' := 221) X523 hx hby at_219 rfl rfl rfl ?_
              refine Go.iload (pc' := 223) X523 hx hby at_221 rfl rfl ?_
              refine Go.iinc (w := (tl + (1 : Int32)) + (1 : Int32)) (Ls' := #[.val (.int x0), .val (.int x1), .val (.int x2), .val (.int n1), .val (.int (1 : Int32)), .val (.int (0 : Int32)), .val (.int (1 : Int32)), .val (.ref s1), .val (.ref s2), .val (.ref b271), .val (.ref r1), .val (.ref r2), .val (.ref b307), .val (.int ((tl + (1 : Int32)) + (1 : Int32))), .unset, .unset]) (pc' := 226) X523 hx hby at_223 rfl rfl rfl rfl ?_
              refine Go.iloadN (pc' := 227) X523 hx hby at_226 rfl rfl ?_
              refine Go.iconst (pc' := 228) X523 hx hby at_227 rfl (v := (0 : Int32)) (by decide) ?_
              refine Go.callS (pc' := 231) (W := 2) (argsL := [(.int x1), (.int (0 : Int32))]) (rest := [(.int (tl + (1 : Int32))), (.ref b307)]) X523 hx hby hZ268 hown269 (hw _ (List.mem_of_getElem? (i := 8) rfl)) (hw _ (List.mem_of_getElem? (i := 9) rfl)) (hw _ (List.mem_of_getElem? (i := 2) rfl)) (hw _ (List.mem_of_getElem? (i := 10) rfl)) (by decide) (rmch l Z a0 hw x1 0 h522) e524 (by decide) (by decide) (by rw [hml]; rfl) pd_10 rfl rfl rfl (Nat.le_of_eq rfl) at_228 rfl (by decide) (by decide) ?_
              rintro r535 T536 L537 X538 ⟨rfl, rfl, e534⟩
              rw [List.append_nil] at X538
              show Go p e below _ (T536.setTop (mkF m 231 #[.val (.int x0), .val (.int x1), .val (.int x2), .val (.int n1), .val (.int (1 : Int32)), .val (.int (0 : Int32)), .val (.int (1 : Int32)), .val (.ref s1), .val (.ref s2), .val (.ref b271), .val (.ref r1), .val (.ref r2), .val (.ref b307), .val (.int ((tl + (1 : Int32)) + (1 : Int32))), .unset, .unset] [(.int (own_ck x1 0)), (.int (tl + (1 : Int32))), (.ref b307)]))
              refine Go.castore (pc' := 232) (i := (tl.toInt + 1)) X538 hx hby hZ268 e534 f531 at_231 rfl e1_ (by omega) (by omega) ?_
              intro T539 h540 X541 e542 W543 A544
              have f545 : Ar Z h540 r1 .byte (ln1_.toInt + 2) (fun q => .int (Rr1 q)) := f527.other W543 n315
              have f546 : Ar Z h540 r2 .byte (ln1_.toInt + 2) (fun q => .int (Rr2 q)) := f528.other W543 n316
              have z547 : h0.size ≤ h540.size := by rw [Wr.size W543]; exact z529
              have hk548 : T264.heap.size ≤ h540.size := by rw [Wr.size W543]; exact hk530
              have f549 : Ar Z h540 b307 .char 10 (fun q => if q = (tl.toInt + 1) then (.int (nar .char (own_ck x1 0))) else if q = tl.toInt then (.int (nar .char (32 : Int32))) else .int (Tt q)) := A544
              have N550 : Fr h0.size _ := Fr.snoc X541 N532 g317
              show Go p e below _ (T539.setTop (mkF m 232 #[.val (.int x0), .val (.int x1), .val (.int x2), .val (.int n1), .val (.int (1 : Int32)), .val (.int (0 : Int32)), .val (.int (1 : Int32)), .val (.ref s1), .val (.ref s2), .val (.ref b271), .val (.ref r1), .val (.ref r2), .val (.ref b307), .val (.int ((tl + (1 : Int32)) + (1 : Int32))), .unset, .unset] []))
              refine Go.iload (pc' := 234) X541 hx hby at_232 rfl rfl ?_
              refine Go.iconst (pc' := 235) X541 hx hby at_234 rfl (v := (1 : Int32)) (by decide) ?_
              refine Go.icmpY (pc' := 251) X541 hx hby at_235 (by decide) (by decide) (show (1 : Int32) ≤ (1 : Int32) from by decide) ?_
              refine Go.iload (pc' := 253) X541 hx hby at_251 rfl rfl ?_
              refine Go.iconst (pc' := 254) X541 hx hby at_253 rfl (v := (2 : Int32)) (by decide) ?_
              refine Go.icmpY (pc' := 270) X541 hx hby at_254 (by decide) (by decide) (show (1 : Int32) ≤ (2 : Int32) from by decide) ?_
              have f551 : Ar Z h540 b307 .char 10 (fun q => .int ((fun q => if q = tl.toInt + 1 then own_ck x1 0 else if q = tl.toInt then 32 else Tt q) q)) := f549.congr (fun i h1 h2 => by simp only [apply_ite Value.int, own_nc7 (own_ckr x0 _), own_nc7 (own_ckr x1 _), own_nc32, own_nc13, own_nc10])
              exact jn414 (T539, h540, _, (tl + (1 : Int32)) + (1 : Int32), (fun q => if q = tl.toInt + 1 then own_ck x1 0 else if q = tl.toInt then 32 else Tt q)) ⟨X541, e542, N550, z547, hk548, by (try dsimp only); rw [e2_, show (1 : Int32).toInt = 1 from by decide]; omega, f551, fun q h1 h2 => by
                    (try dsimp only at h2 ⊢)
                    rw [e2_] at h2
                    unfold own_tb
                    by_cases g : q < tl.toInt
                    · rw [if_neg (by omega), if_neg (by omega), if_pos (by omega)]; exact ct q h1 g
                    · have t : q = tl.toInt + 0 ∨ q = tl.toInt + 1 := (by omega)
                      rcases t with g0 | g1
                      · rw [if_neg (by omega), if_pos (by omega), if_neg (by omega), if_pos (by omega)]
                      · rw [if_pos (by omega), if_neg (by omega), if_neg (by omega)]; rw [show q - (0 + n1.toInt) - (own_sp n1.toInt) = 0 from by omega]; rfl, f545, f546⟩
            ·
              subst q
              show Go p e below _ (T521.setTop (mkF m 214 #[.val (.int x0), .val (.int x1), .val (.int x2), .val (.int n1), .val (.int (2 : Int32)), .val (.int (0 : Int32)), .val (.int (1 : Int32)), .val (.ref s1), .val (.ref s2), .val (.ref b271), .val (.ref r1), .val (.ref r2), .val (.ref b307), .val (.int (tl + (1 : Int32))), .unset, .unset] []))
              refine Go.iload (pc' := 216) X523 hx hby at_214 rfl rfl ?_
              refine Go.ifN (pc' := 219) X523 hx hby at_216 rfl (show ¬ ((2 : Int32) ≤ 0) from by decide) ?_
              refine Go.aload (pc' := 221) X523 hx hby at_219 rfl rfl rfl ?_
              refine Go.iload (pc' := 223) X523 hx hby at_221 rfl rfl ?_
              refine Go.iinc (w := (tl + (1 : Int32)) + (1 : Int32)) (Ls' := #[.val (.int x0), .val (.int x1), .val (.int x2), .val (.int n1), .val (.int (2 : Int32)), .val (.int (0 : Int32)), .val (.int (1 : Int32)), .val (.ref s1), .val (.ref s2), .val (.ref b271), .val (.ref r1), .val (.ref r2), .val (.ref b307), .val (.int ((tl + (1 : Int32)) + (1 : Int32))), .unset, .unset]) (pc' := 226) X523 hx hby at_223 rfl rfl rfl rfl ?_
              refine Go.iloadN (pc' := 227) X523 hx hby at_226 rfl rfl ?_
              refine Go.iconst (pc' := 228) X523 hx hby at_227 rfl (v := (0 : Int32)) (by decide) ?_
              refine Go.callS (pc' := 231) (W := 2) (argsL := [(.int x1), (.int (0 : Int32))]) (rest := [(.int (tl + (1 : Int32))), (.ref b307)]) X523 hx hby hZ268 hown269 (hw _ (List.mem_of_getElem? (i := 8) rfl)) (hw _ (List.mem_of_getElem? (i := 9) rfl)) (hw _ (List.mem_of_getElem? (i := 2) rfl)) (hw _ (List.mem_of_getElem? (i := 10) rfl)) (by decide) (rmch l Z a0 hw x1 0 h522) e524 (by decide) (by decide) (by rw [hml]; rfl) pd_10 rfl rfl rfl (Nat.le_of_eq rfl) at_228 rfl (by decide) (by decide) ?_
              rintro r553 T554 L555 X556 ⟨rfl, rfl, e552⟩
              rw [List.append_nil] at X556
              show Go p e below _ (T554.setTop (mkF m 231 #[.val (.int x0), .val (.int x1), .val (.int x2), .val (.int n1), .val (.int (2 : Int32)), .val (.int (0 : Int32)), .val (.int (1 : Int32)), .val (.ref s1), .val (.ref s2), .val (.ref b271), .val (.ref r1), .val (.ref r2), .val (.ref b307), .val (.int ((tl + (1 : Int32)) + (1 : Int32))), .unset, .unset] [(.int (own_ck x1 0)), (.int (tl + (1 : Int32))), (.ref b307)]))
              refine Go.castore (pc' := 232) (i := (tl.toInt + 1)) X556 hx hby hZ268 e552 f531 at_231 rfl e1_ (by omega) (by omega) ?_
              intro T557 h558 X559 e560 W561 A562
              have f563 : Ar Z h558 r1 .byte (ln1_.toInt + 2) (fun q => .int (Rr1 q)) := f527.other W561 n315
              have f564 : Ar Z h558 r2 .byte (ln1_.toInt + 2) (fun q => .int (Rr2 q)) := f528.other W561 n316
              have z565 : h0.size ≤ h558.size := by rw [Wr.size W561]; exact z529
              have hk566 : T264.heap.size ≤ h558.size := by rw [Wr.size W561]; exact hk530
              have f567 : Ar Z h558 b307 .char 10 (fun q => if q = (tl.toInt + 1) then (.int (nar .char (own_ck x1 0))) else if q = tl.toInt then (.int (nar .char (32 : Int32))) else .int (Tt q)) := A562
              have N568 : Fr h0.size _ := Fr.snoc X559 N532 g317
              show Go p e below _ (T557.setTop (mkF m 232 #[.val (.int x0), .val (.int x1), .val (.int x2), .val (.int n1), .val (.int (2 : Int32)), .val (.int (0 : Int32)), .val (.int (1 : Int32)), .val (.ref s1), .val (.ref s2), .val (.ref b271), .val (.ref r1), .val (.ref r2), .val (.ref b307), .val (.int ((tl + (1 : Int32)) + (1 : Int32))), .unset, .unset] []))
              refine Go.iload (pc' := 234) X559 hx hby at_232 rfl rfl ?_
              refine Go.iconst (pc' := 235) X559 hx hby at_234 rfl (v := (1 : Int32)) (by decide) ?_
              refine Go.icmpN (pc' := 238) X559 hx hby at_235 rfl (show ¬ ((2 : Int32) ≤ (1 : Int32)) from by decide) ?_
              refine Go.aload (pc' := 240) X559 hx hby at_238 rfl rfl rfl ?_
              refine Go.iload (pc' := 242) X559 hx hby at_240 rfl rfl ?_
              refine Go.iinc (w := ((tl + (1 : Int32)) + (1 : Int32)) + (1 : Int32)) (Ls' := #[.val (.int x0), .val (.int x1), .val (.int x2), .val (.int n1), .val (.int (2 : Int32)), .val (.int (0 : Int32)), .val (.int (1 : Int32)), .val (.ref s1), .val (.ref s2), .val (.ref b271), .val (.ref r1), .val (.ref r2), .val (.ref b307), .val (.int (((tl + (1 : Int32)) + (1 : Int32)) + (1 : Int32))), .unset, .unset]) (pc' := 245) X559 hx hby at_242 rfl rfl rfl rfl ?_
              refine Go.iloadN (pc' := 246) X559 hx hby at_245 rfl rfl ?_
              refine Go.iconst (pc' := 247) X559 hx hby at_246 rfl (v := (1 : Int32)) (by decide) ?_
              refine Go.callS (pc' := 250) (W := 2) (argsL := [(.int x1), (.int (1 : Int32))]) (rest := [(.int ((tl + (1 : Int32)) + (1 : Int32))), (.ref b307)]) X559 hx hby hZ268 hown269 (hw _ (List.mem_of_getElem? (i := 8) rfl)) (hw _ (List.mem_of_getElem? (i := 9) rfl)) (hw _ (List.mem_of_getElem? (i := 2) rfl)) (hw _ (List.mem_of_getElem? (i := 10) rfl)) (by decide) (rmch l Z a0 hw x1 1 h558) e560 (by decide) (by decide) (by rw [hml]; rfl) pd_10 rfl rfl rfl (Nat.le_of_eq rfl) at_247 rfl (by decide) (by decide) ?_
              rintro r570 T571 L572 X573 ⟨rfl, rfl, e569⟩
              rw [List.append_nil] at X573
              show Go p e below _ (T571.setTop (mkF m 250 #[.val (.int x0), .val (.int x1), .val (.int x2), .val (.int n1), .val (.int (2 : Int32)), .val (.int (0 : Int32)), .val (.int (1 : Int32)), .val (.ref s1), .val (.ref s2), .val (.ref b271), .val (.ref r1), .val (.ref r2), .val (.ref b307), .val (.int (((tl + (1 : Int32)) + (1 : Int32)) + (1 : Int32))), .unset, .unset] [(.int (own_ck x1 1)), (.int ((tl + (1 : Int32)) + (1 : Int32))), (.ref b307)]))
              refine Go.castore (pc' := 251) (i := (tl.toInt + 2)) X573 hx hby hZ268 e569 f567 at_250 rfl e2_ (by omega) (by omega) ?_
              intro T574 h575 X576 e577 W578 A579
              have f580 : Ar Z h575 r1 .byte (ln1_.toInt + 2) (fun q => .int (Rr1 q)) := f563.other W578 n315
              have f581 : Ar Z h575 r2 .byte (ln1_.toInt + 2) (fun q => .int (Rr2 q)) := f564.other W578 n316
              have z582 : h0.size ≤ h575.size := by rw [Wr.size W578]; exact z565
              have hk583 : T264.heap.size ≤ h575.size := by rw [Wr.size W578]; exact hk566
              have f584 : Ar Z h575 b307 .char 10 (fun q => if q = (tl.toInt + 2) then (.int (nar .char (own_ck x1 1))) else if q = (tl.toInt + 1) then (.int (nar .char (own_ck x1 0))) else if q = tl.toInt then (.int (nar .char (32 : Int32))) else .int (Tt q)) := A579
              have N585 : Fr h0.size _ := Fr.snoc X576 N568 g317
              show Go p e below _ (T574.setTop (mkF m 251 #[.val (.int x0), .val (.int x1), .val (.int x2), .val (.int n1), .val (.int (2 : Int32)), .val (.int (0 : Int32)), .val (.int (1 : Int32)), .val (.ref s1), .val (.ref s2), .val (.ref b271), .val (.ref r1), .val (.ref r2), .val (.ref b307), .val (.int (((tl + (1 : Int32)) + (1 : Int32)) + (1 : Int32))), .unset, .unset] []))
              refine Go.iload (pc' := 253) X576 hx hby at_251 rfl rfl ?_
              refine Go.iconst (pc' := 254) X576 hx hby at_253 rfl (v := (2 : Int32)) (by decide) ?_
              refine Go.icmpY (pc' := 270) X576 hx hby at_254 (by decide) (by decide) (show (2 : Int32) ≤ (2 : Int32) from by decide) ?_
              have f586 : Ar Z h575 b307 .char 10 (fun q => .int ((fun q => if q = tl.toInt + 2 then own_ck x1 1 else if q = tl.toInt + 1 then own_ck x1 0 else if q = tl.toInt then 32 else Tt q) q)) := f584.congr (fun i h1 h2 => by simp only [apply_ite Value.int, own_nc7 (own_ckr x0 _), own_nc7 (own_ckr x1 _), own_nc32, own_nc13, own_nc10])
              exact jn414 (T574, h575, _, ((tl + (1 : Int32)) + (1 : Int32)) + (1 : Int32), (fun q => if q = tl.toInt + 2 then own_ck x1 1 else if q = tl.toInt + 1 then own_ck x1 0 else if q = tl.toInt then 32 else Tt q)) ⟨X576, e577, N585, z582, hk583, by (try dsimp only); rw [e3_, show (2 : Int32).toInt = 2 from by decide]; omega, f586, fun q h1 h2 => by
                    (try dsimp only at h2 ⊢)
                    rw [e3_] at h2
                    unfold own_tb
                    by_cases g : q < tl.toInt
                    · rw [if_neg (by omega), if_neg (by omega), if_neg (by omega), if_pos (by omega)]; exact ct q h1 g
                    · have t : q = tl.toInt + 0 ∨ q = tl.toInt + 1 ∨ q = tl.toInt + 2 := (by omega)
                      rcases t with g0 | g1 | g2
                      · rw [if_neg (by omega), if_neg (by omega), if_pos (by omega), if_neg (by omega), if_pos (by omega)]
                      · rw [if_neg (by omega), if_pos (by omega), if_neg (by omega), if_neg (by omega)]; rw [show q - (0 + n1.toInt) - (own_sp n1.toInt) = 0 from by omega]; rfl
                      · rw [if_pos (by omega), if_neg (by omega), if_neg (by omega)]; rw [show q - (0 + n1.toInt) - (own_sp n1.toInt) = 1 from by omega]; rfl, f580, f581⟩
            ·
              subst q
              show Go p e below _ (T521.setTop (mkF m 214 #[.val (.int x0), .val (.int x1), .val (.int x2), .val (.int n1), .val (.int (3 : Int32)), .val (.int (0 : Int32)), .val (.int (1 : Int32)), .val (.ref s1), .val (.ref s2), .val (.ref b271), .val (.ref r1), .val (.ref r2), .val (.ref b307), .val (.int (tl + (1 : Int32))), .unset, .unset] []))
              refine Go.iload (pc' := 216) X523 hx hby at_214 rfl rfl ?_
              refine Go.ifN (pc' := 219) X523 hx hby at_216 rfl (show ¬ ((3 : Int32) ≤ 0) from by decide) ?_
              refine Go.aload (pc' := 221) X523 hx hby at_219 rfl rfl rfl ?_
              refine Go.iload (pc' := 223) X523 hx hby at_221 rfl rfl ?_
              refine Go.iinc (w := (tl + (1 : Int32)) + (1 : Int32)) (Ls' := #[.val (.int x0), .val (.int x1), .val (.int x2), .val (.int n1), .val (.int (3 : Int32)), .val (.int (0 : Int32)), .val (.int (1 : Int32)), .val (.ref s1), .val (.ref s2), .val (.ref b271), .val (.ref r1), .val (.ref r2), .val (.ref b307), .val (.int ((tl + (1 : Int32)) + (1 : Int32))), .unset, .unset]) (pc' := 226) X523 hx hby at_223 rfl rfl rfl rfl ?_
              refine Go.iloadN (pc' := 227) X523 hx hby at_226 rfl rfl ?_
              refine Go.iconst (pc' := 228) X523 hx hby at_227 rfl (v := (0 : Int32)) (by decide) ?_
              refine Go.callS (pc' := 231) (W := 2) (argsL := [(.int x1), (.int (0 : Int32))]) (rest := [(.int (tl + (1 : Int32))), (.ref b307)]) X523 hx hby hZ268 hown269 (hw _ (List.mem_of_getElem? (i := 8) rfl)) (hw _ (List.mem_of_getElem? (i := 9) rfl)) (hw _ (List.mem_of_getElem? (i := 2) rfl)) (hw _ (List.mem_of_getElem? (i := 10) rfl)) (by decide) (rmch l Z a0 hw x1 0 h522) e524 (by decide) (by decide) (by rw [hml]; rfl) pd_10 rfl rfl rfl (Nat.le_of_eq rfl) at_228 rfl (by decide) (by decide) ?_
              rintro r588 T589 L590 X591 ⟨rfl, rfl, e587⟩
              rw [List.append_nil] at X591
              show Go p e below _ (T589.setTop (mkF m 231 #[.val (.int x0), .val (.int x1), .val (.int x2), .val (.int n1), .val (.int (3 : Int32)), .val (.int (0 : Int32)), .val (.int (1 : Int32)), .val (.ref s1), .val (.ref s2), .val (.ref b271), .val (.ref r1), .val (.ref r2), .val (.ref b307), .val (.int ((tl + (1 : Int32)) + (1 : Int32))), .unset, .unset] [(.int (own_ck x1 0)), (.int (tl + (1 : Int32))), (.ref b307)]))
              refine Go.castore (pc' := 232) (i := (tl.toInt + 1)) X591 hx hby hZ268 e587 f531 at_231 rfl e1_ (by omega) (by omega) ?_
              intro T592 h593 X594 e595 W596 A597
              have f598 : Ar Z h593 r1 .byte (ln1_.toInt + 2) (fun q => .int (Rr1 q)) := f527.other W596 n315
              have f599 : Ar Z h593 r2 .byte (ln1_.toInt + 2) (fun q => .int (Rr2 q)) := f528.other W596 n316
              have z600 : h0.size ≤ h593.size := by rw [Wr.size W596]; exact z529
              have hk601 : T264.heap.size ≤ h593.size := by rw [Wr.size W596]; exact hk530
              have f602 : Ar Z h593 b307 .char 10 (fun q => if q = (tl.toInt + 1) then (.int (nar .char (own_ck x1 0))) else if q = tl.toInt then (.int (nar .char (32 : Int32))) else .int (Tt q)) := A597
              have N603 : Fr h0.size _ := Fr.snoc X594 N532 g317
              show Go p e below _ (T592.setTop (mkF m 232 #[.val (.int x0), .val (.int x1), .val (.int x2), .val (.int n1), .val (.int (3 : Int32)), .val (.int (0 : Int32)), .val (.int (1 : Int32)), .val (.ref s1), .val (.ref s2), .val (.ref b271), .val (.ref r1), .val (.ref r2), .val (.ref b307), .val (.int ((tl + (1 : Int32)) + (1 : Int32))), .unset, .unset] []))
              refine Go.iload (pc' := 234) X594 hx hby at_232 rfl rfl ?_
              refine Go.iconst (pc' := 235) X594 hx hby at_234 rfl (v := (1 : Int32)) (by decide) ?_
              refine Go.icmpN (pc' := 238) X594 hx hby at_235 rfl (show ¬ ((3 : Int32) ≤ (1 : Int32)) from by decide) ?_
              refine Go.aload (pc' := 240) X594 hx hby at_238 rfl rfl rfl ?_
              refine Go.iload (pc' := 242) X594 hx hby at_240 rfl rfl ?_
              refine Go.iinc (w := ((tl + (1 : Int32)) + (1 : Int32)) + (1 : Int32)) (Ls' := #[.val (.int x0), .val (.int x1), .val (.int x2), .val (.int n1), .val (.int (3 : Int32)), .val (.int (0 : Int32)), .val (.int (1 : Int32)), .val (.ref s1), .val (.ref s2), .val (.ref b271), .val (.ref r1), .val (.ref r2), .val (.ref b307), .val (.int (((tl + (1 : Int32)) + (1 : Int32)) + (1 : Int32))), .unset, .unset]) (pc' := 245) X594 hx hby at_242 rfl rfl rfl rfl ?_
              refine Go.iloadN (pc' := 246) X594 hx hby at_245 rfl rfl ?_
              refine Go.iconst (pc' := 247) X594 hx hby at_246 rfl (v := (1 : Int32)) (by decide) ?_
              refine Go.callS (pc' := 250) (W := 2) (argsL := [(.int x1), (.int (1 : Int32))]) (rest := [(.int ((tl + (1 : Int32)) + (1 : Int32))), (.ref b307)]) X594 hx hby hZ268 hown269 (hw _ (List.mem_of_getElem? (i := 8) rfl)) (hw _ (List.mem_of_getElem? (i := 9) rfl)) (hw _ (List.mem_of_getElem? (i := 2) rfl)) (hw _ (List.mem_of_getElem? (i := 10) rfl)) (by decide) (rmch l Z a0 hw x1 1 h593) e595 (by decide) (by decide) (by rw [hml]; rfl) pd_10 rfl rfl rfl (Nat.le_of_eq rfl) at_247 rfl (by decide) (by decide) ?_
              rintro r605 T606 L607 X608 ⟨rfl, rfl, e604⟩
              rw [List.append_nil] at X608
              show Go p e below _ (T606.setTop (mkF m 250 #[.val (.int x0), .val (.int x1), .val (.int x2), .val (.int n1), .val (.int (3 : Int32)), .val (.int (0 : Int32)), .val (.int (1 : Int32)), .val (.ref s1), .val (.ref s2), .val (.ref b271), .val (.ref r1), .val (.ref r2), .val (.ref b307), .val (.int (((tl + (1 : Int32)) + (1 : Int32)) + (1 : Int32))), .unset, .unset] [(.int (own_ck x1 1)), (.int ((tl + (1 : Int32)) + (1 : Int32))), (.ref b307)]))
              refine Go.castore (pc' := 251) (i := (tl.toInt + 2)) X608 hx hby hZ268 e604 f602 at_250 rfl e2_ (by omega) (by omega) ?_
              intro T609 h610 X611 e612 W613 A614
              have f615 : Ar Z h610 r1 .byte (ln1_.toInt + 2) (fun q => .int (Rr1 q)) := f598.other W613 n315
              have f616 : Ar Z h610 r2 .byte (ln1_.toInt + 2) (fun q => .int (Rr2 q)) := f599.other W613 n316
              have z617 : h0.size ≤ h610.size := by rw [Wr.size W613]; exact z600
              have hk618 : T264.heap.size ≤ h610.size := by rw [Wr.size W613]; exact hk601
              have f619 : Ar Z h610 b307 .char 10 (fun q => if q = (tl.toInt + 2) then (.int (nar .char (own_ck x1 1))) else if q = (tl.toInt + 1) then (.int (nar .char (own_ck x1 0))) else if q = tl.toInt then (.int (nar .char (32 : Int32))) else .int (Tt q)) := A614
              have N620 : Fr h0.size _ := Fr.snoc X611 N603 g317
              show Go p e below _ (T609.setTop (mkF m 251 #[.val (.int x0), .val (.int x1), .val (.int x2), .val (.int n1), .val (.int (3 : Int32)), .val (.int (0 : Int32)), .val (.int (1 : Int32)), .val (.ref s1), .val (.ref s2), .val (.ref b271), .val (.ref r1), .val (.ref r2), .val (.ref b307), .val (.int (((tl + (1 : Int32)) + (1 : Int32)) + (1 : Int32))), .unset, .unset] []))
              refine Go.iload (pc' := 253) X611 hx hby at_251 rfl rfl ?_
              refine Go.iconst (pc' := 254) X611 hx hby at_253 rfl (v := (2 : Int32)) (by decide) ?_
              refine Go.icmpN (pc' := 257) X611 hx hby at_254 rfl (show ¬ ((3 : Int32) ≤ (2 : Int32)) from by decide) ?_
              refine Go.aload (pc' := 259) X611 hx hby at_257 rfl rfl rfl ?_
              refine Go.iload (pc' := 261) X611 hx hby at_259 rfl rfl ?_
              refine Go.iinc (w := (((tl + (1 : Int32)) + (1 : Int32)) + (1 : Int32)) + (1 : Int32)) (Ls' := #[.val (.int x0), .val (.int x1), .val (.int x2), .val (.int n1), .val (.int (3 : Int32)), .val (.int (0 : Int32)), .val (.int (1 : Int32)), .val (.ref s1), .val (.ref s2), .val (.ref b271), .val (.ref r1), .val (.ref r2), .val (.ref b307), .val (.int ((((tl + (1 : Int32)) + (1 : Int32)) + (1 : Int32)) + (1 : Int32))), .unset, .unset]) (pc' := 264) X611 hx hby at_261 rfl rfl rfl rfl ?_
              refine Go.iloadN (pc' := 265) X611 hx hby at_264 rfl rfl ?_
              refine Go.iconst (pc' := 266) X611 hx hby at_265 rfl (v := (2 : Int32)) (by decide) ?_
              refine Go.callS (pc' := 269) (W := 2) (argsL := [(.int x1), (.int (2 : Int32))]) (rest := [(.int (((tl + (1 : Int32)) + (1 : Int32)) + (1 : Int32))), (.ref b307)]) X611 hx hby hZ268 hown269 (hw _ (List.mem_of_getElem? (i := 8) rfl)) (hw _ (List.mem_of_getElem? (i := 9) rfl)) (hw _ (List.mem_of_getElem? (i := 2) rfl)) (hw _ (List.mem_of_getElem? (i := 10) rfl)) (by decide) (rmch l Z a0 hw x1 2 h610) e612 (by decide) (by decide) (by rw [hml]; rfl) pd_10 rfl rfl rfl (Nat.le_of_eq rfl) at_266 rfl (by decide) (by decide) ?_
              rintro r622 T623 L624 X625 ⟨rfl, rfl, e621⟩
              rw [List.append_nil] at X625
              show Go p e below _ (T623.setTop (mkF m 269 #[.val (.int x0), .val (.int x1), .val (.int x2), .val (.int n1), .val (.int (3 : Int32)), .val (.int (0 : Int32)), .val (.int (1 : Int32)), .val (.ref s1), .val (.ref s2), .val (.ref b271), .val (.ref r1), .val (.ref r2), .val (.ref b307), .val (.int ((((tl + (1 : Int32)) + (1 : Int32)) + (1 : Int32)) + (1 : Int32))), .unset, .unset] [(.int (own_ck x1 2)), (.int (((tl + (1 : Int32)) + (1 : Int32)) + (1 : Int32))), (.ref b307)]))
              refine Go.castore (pc' := 270) (i := (tl.toInt + 3)) X625 hx hby hZ268 e621 f619 at_269 rfl e3_ (by omega) (by omega) ?_
              intro T626 h627 X628 e629 W630 A631
              have f632 : Ar Z h627 r1 .byte (ln1_.toInt + 2) (fun q => .int (Rr1 q)) := f615.other W630 n315
              have f633 : Ar Z h627 r2 .byte (ln1_.toInt + 2) (fun q => .int (Rr2 q)) := f616.other W630 n316
              have z634 : h0.size ≤ h627.size := by rw [Wr.size W630]; exact z617
              have hk635 : T264.heap.size ≤ h627.size := by rw [Wr.size W630]; exact hk618
              have f636 : Ar Z h627 b307 .char 10 (fun q => if q = (tl.toInt + 3) then (.int (nar .char (own_ck x1 2))) else if q = (tl.toInt + 2) then (.int (nar .char (own_ck x1 1))) else if q = (tl.toInt + 1) then (.int (nar .char (own_ck x1 0))) else if q = tl.toInt then (.int (nar .char (32 : Int32))) else .int (Tt q)) := A631
              have N637 : Fr h0.size _ := Fr.snoc X628 N620 g317
              show Go p e below _ (T626.setTop (mkF m 270 #[.val (.int x0), .val (.int x1), .val (.int x2), .val (.int n1), .val (.int (3 : Int32)), .val (.int (0 : Int32)), .val (.int (1 : Int32)), .val (.ref s1), .val (.ref s2), .val (.ref b271), .val (.ref r1), .val (.ref r2), .val (.ref b307), .val (.int ((((tl + (1 : Int32)) + (1 : Int32)) + (1 : Int32)) + (1 : Int32))), .unset, .unset] []))
              have f638 : Ar Z h627 b307 .char 10 (fun q => .int ((fun q => if q = tl.toInt + 3 then own_ck x1 2 else if q = tl.toInt + 2 then own_ck x1 1 else if q = tl.toInt + 1 then own_ck x1 0 else if q = tl.toInt then 32 else Tt q) q)) := f636.congr (fun i h1 h2 => by simp only [apply_ite Value.int, own_nc7 (own_ckr x0 _), own_nc7 (own_ckr x1 _), own_nc32, own_nc13, own_nc10])
              exact jn414 (T626, h627, _, (((tl + (1 : Int32)) + (1 : Int32)) + (1 : Int32)) + (1 : Int32), (fun q => if q = tl.toInt + 3 then own_ck x1 2 else if q = tl.toInt + 2 then own_ck x1 1 else if q = tl.toInt + 1 then own_ck x1 0 else if q = tl.toInt then 32 else Tt q)) ⟨X628, e629, N637, z634, hk635, by (try dsimp only); rw [e4_, show (3 : Int32).toInt = 3 from by decide]; omega, f638, fun q h1 h2 => by
                    (try dsimp only at h2 ⊢)
                    rw [e4_] at h2
                    unfold own_tb
                    by_cases g : q < tl.toInt
                    · rw [if_neg (by omega), if_neg (by omega), if_neg (by omega), if_neg (by omega), if_pos (by omega)]; exact ct q h1 g
                    · have t : q = tl.toInt + 0 ∨ q = tl.toInt + 1 ∨ q = tl.toInt + 2 ∨ q = tl.toInt + 3 := (by omega)
                      rcases t with g0 | g1 | g2 | g3
                      · rw [if_neg (by omega), if_neg (by omega), if_neg (by omega), if_pos (by omega), if_neg (by omega), if_pos (by omega)]
                      · rw [if_neg (by omega), if_neg (by omega), if_pos (by omega), if_neg (by omega), if_neg (by omega)]; rw [show q - (0 + n1.toInt) - (own_sp n1.toInt) = 0 from by omega]; rfl
                      · rw [if_neg (by omega), if_pos (by omega), if_neg (by omega), if_neg (by omega)]; rw [show q - (0 + n1.toInt) - (own_sp n1.toInt) = 1 from by omega]; rfl
                      · rw [if_pos (by omega), if_neg (by omega), if_neg (by omega)]; rw [show q - (0 + n1.toInt) - (own_sp n1.toInt) = 2 from by omega]; rfl, f632, f633⟩
      ·
        intro jn639
        rcases d1 with q | q | q | q
        ·
          subst q
          show Go p e below _ (T308.setTop (mkF m 137 #[.val (.int x0), .val (.int x1), .val (.int x2), .val (.int (0 : Int32)), .val (.int n2), .val (.int (0 : Int32)), .val (.int (1 : Int32)), .val (.ref s1), .val (.ref s2), .val (.ref b271), .val (.ref r1), .val (.ref r2), .val (.ref b307), .val (.int (0 : Int32)), .unset, .unset] []))
          refine Go.iloadN (pc' := 138) X311 hx hby at_137 rfl rfl ?_
          refine Go.ifY (pc' := 154) X311 hx hby at_138 (by decide) (by decide) (show (0 : Int32) ≤ 0 from by decide) ?_
          refine Go.iloadN (pc' := 155) X311 hx hby at_154 rfl rfl ?_
          refine Go.iconst (pc' := 156) X311 hx hby at_155 rfl (v := (1 : Int32)) (by decide) ?_
          refine Go.icmpY (pc' := 172) X311 hx hby at_156 (by decide) (by decide) (show (0 : Int32) ≤ (1 : Int32) from by decide) ?_
          refine Go.iloadN (pc' := 173) X311 hx hby at_172 rfl rfl ?_
          refine Go.iconst (pc' := 174) X311 hx hby at_173 rfl (v := (2 : Int32)) (by decide) ?_
          refine Go.icmpY (pc' := 190) X311 hx hby at_174 (by decide) (by decide) (show (0 : Int32) ≤ (2 : Int32) from by decide) ?_
          have f640 : Ar Z h309 b307 .char 10 (fun q => .int ((fun q => 0) q)) := f322.congr (fun i h1 h2 => rfl)
          exact jn639 (T308, h309, _, (0 : Int32), (fun q => 0)) ⟨X311, e312, (Fr.app (Fr.app (Fr.app (Fr.app (Fr.app (Fr.app (Fr.app (Fr.nil _) N1) N2) N3) Nw0_) Nw1_) Nr1) Nr2), z320, hk321, by (try dsimp only); decide, f640, fun q h1 h2 => by
          have z : (0 : Int32).toInt = 0 := by decide
          (try dsimp only at h2)
          rw [z] at h2
          omega, f318, f319⟩
        ·
          subst q
          show Go p e below _ (T308.setTop (mkF m 137 #[.val (.int x0), .val (.int x1), .val (.int x2), .val (.int (1 : Int32)), .val (.int n2), .val (.int (0 : Int32)), .val (.int (1 : Int32)), .val (.ref s1), .val (.ref s2), .val (.ref b271), .val (.ref r1), .val (.ref r2), .val (.ref b307), .val (.int (0 : Int32)), .unset, .unset] []))
          refine Go.iloadN (pc' := 138) X311 hx hby at_137 rfl rfl ?_
          refine Go.ifN (pc' := 141) X311 hx hby at_138 rfl (show ¬ ((1 : Int32) ≤ 0) from by decide) ?_
          refine Go.aload (pc' := 143) X311 hx hby at_141 rfl rfl rfl ?_
          refine Go.iload (pc' := 145) X311 hx hby at_143 rfl rfl ?_
          refine Go.iinc (w := (0 : Int32) + (1 : Int32)) (Ls' := #[.val (.int x0), .val (.int x1), .val (.int x2), .val (.int (1 : Int32)), .val (.int n2), .val (.int (0 : Int32)), .val (.int (1 : Int32)), .val (.ref s1), .val (.ref s2), .val (.ref b271), .val (.ref r1), .val (.ref r2), .val (.ref b307), .val (.int ((0 : Int32) + (1 : Int32))), .unset, .unset]) (pc' := 148) X311 hx hby at_145 rfl rfl rfl rfl ?_
          change Go p e below _ (T308.setTop (mkF m 148 #[.val (.int x0), .val (.int x1), .val (.int x2), .val (.int (1 : Int32)), .val (.int n2), .val (.int (0 : Int32)), .val (.int (1 : Int32)), .val (.ref s1), .val (.ref s2), .val (.ref b271), .val (.ref r1), .val (.ref r2), .val (.ref b307), .val (.int (1 : Int32)), .unset, .unset] [(.int (0 : Int32)), (.ref b307)]))
          refine Go.iloadN (pc' := 149) X311 hx hby at_148 rfl rfl ?_
          refine Go.iconst (pc' := 150) X311 hx hby at_149 rfl (v := (0 : Int32)) (by decide) ?_
          refine Go.callS (pc' := 153) (W := 2) (argsL := [(.int x0), (.int (0 : Int32))]) (rest := [(.int (0 : Int32)), (.ref b307)]) X311 hx hby hZ268 hown269 (hw _ (List.mem_of_getElem? (i := 8) rfl)) (hw _ (List.mem_of_getElem? (i := 9) rfl)) (hw _ (List.mem_of_getElem? (i := 2) rfl)) (hw _ (List.mem_of_getElem? (i := 10) rfl)) (by decide) (rmch l Z a0 hw x0 0 h309) e312 (by decide) (by decide) (by rw [hml]; rfl) pd_10 rfl rfl rfl (Nat.le_of_eq rfl) at_150 rfl (by decide) (by decide) ?_
          rintro r642 T643 L644 X645 ⟨rfl, rfl, e641⟩
          rw [List.append_nil] at X645
          show Go p e below _ (T643.setTop (mkF m 153 #[.val (.int x0), .val (.int x1), .val (.int x2), .val (.int (1 : Int32)), .val (.int n2), .val (.int (0 : Int32)), .val (.int (1 : Int32)), .val (.ref s1), .val (.ref s2), .val (.ref b271), .val (.ref r1), .val (.ref r2), .val (.ref b307), .val (.int (1 : Int32)), .unset, .unset] [(.int (own_ck x0 0)), (.int (0 : Int32)), (.ref b307)]))
          refine Go.castore (pc' := 154) (i := 0) X645 hx hby hZ268 e641 f322 at_153 rfl (by decide) (by decide) (by decide) ?_
          intro T646 h647 X648 e649 W650 A651
          have f652 : Ar Z h647 r1 .byte (ln1_.toInt + 2) (fun q => .int (Rr1 q)) := f318.other W650 n315
          have f653 : Ar Z h647 r2 .byte (ln1_.toInt + 2) (fun q => .int (Rr2 q)) := f319.other W650 n316
          have z654 : h0.size ≤ h647.size := by rw [Wr.size W650]; exact z320
          have hk655 : T264.heap.size ≤ h647.size := by rw [Wr.size W650]; exact hk321
          have f656 : Ar Z h647 b307 .char 10 (fun q => if q = 0 then (.int (nar .char (own_ck x0 0))) else (.int 0)) := A651
          have N657 : Fr h0.size _ := Fr.snoc X648 (Fr.app (Fr.app (Fr.app (Fr.app (Fr.app (Fr.app (Fr.app (Fr.nil _) N1) N2) N3) Nw0_) Nw1_) Nr1) Nr2) g317
          show Go p e below _ (T646.setTop (mkF m 154 #[.val (.int x0), .val (.int x1), .val (.int x2), .val (.int (1 : Int32)), .val (.int n2), .val (.int (0 : Int32)), .val (.int (1 : Int32)), .val (.ref s1), .val (.ref s2), .val (.ref b271), .val (.ref r1), .val (.ref r2), .val (.ref b307), .val (.int (1 : Int32)), .unset, .unset] []))
          refine Go.iloadN (pc' := 155) X648 hx hby at_154 rfl rfl ?_
          refine Go.iconst (pc' := 156) X648 hx hby at_155 rfl (v := (1 : Int32)) (by decide) ?_
          refine Go.icmpY (pc' := 172) X648 hx hby at_156 (by decide) (by decide) (show (1 : Int32) ≤ (1 : Int32) from by decide) ?_
          refine Go.iloadN (pc' := 173) X648 hx hby at_172 rfl rfl ?_
          refine Go.iconst (pc' := 174) X648 hx hby at_173 rfl (v := (2 : Int32)) (by decide) ?_
          refine Go.icmpY (pc' := 190) X648 hx hby at_174 (by decide) (by decide) (show (1 : Int32) ≤ (2 : Int32) from by decide) ?_
          have f658 : Ar Z h647 b307 .char 10 (fun q => .int ((fun q => if q = 0 then own_ck x0 0 else 0) q)) := f656.congr (fun i h1 h2 => by simp only [apply_ite Value.int, own_nc7 (own_ckr x0 _), own_nc7 (own_ckr x1 _), own_nc32, own_nc13, own_nc10])
          exact jn639 (T646, h647, _, (1 : Int32), (fun q => if q = 0 then own_ck x0 0 else 0)) ⟨X648, e649, N657, z654, hk655, by (try dsimp only); decide, f658, fun q h1 h2 => by
          have z : (1 : Int32).toInt = 1 := by decide
          (try dsimp only at h2)
          rw [z] at h2
          have t : q = 0 := (by omega)
          rcases t with rfl <;> rfl, f652, f653⟩
        ·
          subst q
          show Go p e below _ (T308.setTop (mkF m 137 #[.val (.int x0), .val (.int x1), .val (.int x2), .val (.int (2 : Int32)), .val (.int n2), .val (.int (0 : Int32)), .val (.int (1 : Int32)), .val (.ref s1), .val (.ref s2), .val (.ref b271), .val (.ref r1), .val (.ref r2), .val (.ref b307), .val (.int (0 : Int32)), .unset, .unset] []))
          refine Go.iloadN (pc' := 138) X311 hx hby at_137 rfl rfl ?_
          refine Go.ifN (pc' := 141) X311 hx hby at_138 rfl (show ¬ ((2 : Int32) ≤ 0) from by decide) ?_
          refine Go.aload (pc' := 143) X311 hx hby at_141 rfl rfl rfl ?_
          refine Go.iload (pc' := 145) X311 hx hby at_143 rfl rfl ?_
          refine Go.iinc (w := (0 : Int32) + (1 : Int32)) (Ls' := #[.val (.int x0), .val (.int x1), .val (.int x2), .val (.int (2 : Int32)), .val (.int n2), .val (.int (0 : Int32)), .val (.int (1 : Int32)), .val (.ref s1), .val (.ref s2), .val (.ref b271), .val (.ref r1), .val (.ref r2), .val (.ref b307), .val (.int ((0 : Int32) + (1 : Int32))), .unset, .unset]) (pc' := 148) X311 hx hby at_145 rfl rfl rfl rfl ?_
          change Go p e below _ (T308.setTop (mkF m 148 #[.val (.int x0), .val (.int x1), .val (.int x2), .val (.int (2 : Int32)), .val (.int n2), .val (.int (0 : Int32)), .val (.int (1 : Int32)), .val (.ref s1), .val (.ref s2), .val (.ref b271), .val (.ref r1), .val (.ref r2), .val (.ref b307), .val (.int (1 : Int32)), .unset, .unset] [(.int (0 : Int32)), (.ref b307)]))
          refine Go.iloadN (pc' := 149) X311 hx hby at_148 rfl rfl ?_
          refine Go.iconst (pc' := 150) X311 hx hby at_149 rfl (v := (0 : Int32)) (by decide) ?_
          refine Go.callS (pc' := 153) (W := 2) (argsL := [(.int x0), (.int (0 : Int32))]) (rest := [(.int (0 : Int32)), (.ref b307)]) X311 hx hby hZ268 hown269 (hw _ (List.mem_of_getElem? (i := 8) rfl)) (hw _ (List.mem_of_getElem? (i := 9) rfl)) (hw _ (List.mem_of_getElem? (i := 2) rfl)) (hw _ (List.mem_of_getElem? (i := 10) rfl)) (by decide) (rmch l Z a0 hw x0 0 h309) e312 (by decide) (by decide) (by rw [hml]; rfl) pd_10 rfl rfl rfl (Nat.le_of_eq rfl) at_150 rfl (by decide) (by decide) ?_
          rintro r660 T661 L662 X663 ⟨rfl, rfl, e659⟩
          rw [List.append_nil] at X663
          show Go p e below _ (T661.setTop (mkF m 153 #[.val (.int x0), .val (.int x1), .val (.int x2), .val (.int (2 : Int32)), .val (.int n2), .val (.int (0 : Int32)), .val (.int (1 : Int32)), .val (.ref s1), .val (.ref s2), .val (.ref b271), .val (.ref r1), .val (.ref r2), .val (.ref b307), .val (.int (1 : Int32)), .unset, .unset] [(.int (own_ck x0 0)), (.int (0 : Int32)), (.ref b307)]))
          refine Go.castore (pc' := 154) (i := 0) X663 hx hby hZ268 e659 f322 at_153 rfl (by decide) (by decide) (by decide) ?_
          intro T664 h665 X666 e667 W668 A669
          have f670 : Ar Z h665 r1 .byte (ln1_.toInt + 2) (fun q => .int (Rr1 q)) := f318.other W668 n315
          have f671 : Ar Z h665 r2 .byte (ln1_.toInt + 2) (fun q => .int (Rr2 q)) := f319.other W668 n316
          have z672 : h0.size ≤ h665.size := by rw [Wr.size W668]; exact z320
          have hk673 : T264.heap.size ≤ h665.size := by rw [Wr.size W668]; exact hk321
          have f674 : Ar Z h665 b307 .char 10 (fun q => if q = 0 then (.int (nar .char (own_ck x0 0))) else (.int 0)) := A669
          have N675 : Fr h0.size _ := Fr.snoc X666 (Fr.app (Fr.app (Fr.app (Fr.app (Fr.app (Fr.app (Fr.app (Fr.nil _) N1) N2) N3) Nw0_) Nw1_) Nr1) Nr2) g317
          show Go p e below _ (T664.setTop (mkF m 154 #[.val (.int x0), .val (.int x1), .val (.int x2), .val (.int (2 : Int32)), .val (.int n2), .val (.int (0 : Int32)), .val (.int (1 : Int32)), .val (.ref s1), .val (.ref s2), .val (.ref b271), .val (.ref r1), .val (.ref r2), .val (.ref b307), .val (.int (1 : Int32)), .unset, .unset] []))
          refine Go.iloadN (pc' := 155) X666 hx hby at_154 rfl rfl ?_
          refine Go.iconst (pc' := 156) X666 hx hby at_155 rfl (v := (1 : Int32)) (by decide) ?_
          refine Go.icmpN (pc' := 159) X666 hx hby at_156 rfl (show ¬ ((2 : Int32) ≤ (1 : Int32)) from by decide) ?_
          refine Go.aload (pc' := 161) X666 hx hby at_159 rfl rfl rfl ?_
          refine Go.iload (pc' := 163) X666 hx hby at_161 rfl rfl ?_
          refine Go.iinc (w := (1 : Int32) + (1 : Int32)) (Ls' := #[.val (.int x0), .val (.int x1), .val (.int x2), .val (.int (2 : Int32)), .val (.int n2), .val (.int (0 : Int32)), .val (.int (1 : Int32)), .val (.ref s1), .val (.ref s2), .val (.ref b271), .val (.ref r1), .val (.ref r2), .val (.ref b307), .val (.int ((1 : Int32) + (1 : Int32))), .unset, .unset]) (pc' := 166) X666 hx hby at_163 rfl rfl rfl rfl ?_
          change Go p e below _ (T664.setTop (mkF m 166 #[.val (.int x0), .val (.int x1), .val (.int x2), .val (.int (2 : Int32)), .val (.int n2), .val (.int (0 : Int32)), .val (.int (1 : Int32)), .val (.ref s1), .val (.ref s2), .val (.ref b271), .val (.ref r1), .val (.ref r2), .val (.ref b307), .val (.int (2 : Int32)), .unset, .unset] [(.int (1 : Int32)), (.ref b307)]))
          refine Go.iloadN (pc' := 167) X666 hx hby at_166 rfl rfl ?_
          refine Go.iconst (pc' := 168) X666 hx hby at_167 rfl (v := (1 : Int32)) (by decide) ?_
          refine Go.callS (pc' := 171) (W := 2) (argsL := [(.int x0), (.int (1 : Int32))]) (rest := [(.int (1 : Int32)), (.ref b307)]) X666 hx hby hZ268 hown269 (hw _ (List.mem_of_getElem? (i := 8) rfl)) (hw _ (List.mem_of_getElem? (i := 9) rfl)) (hw _ (List.mem_of_getElem? (i := 2) rfl)) (hw _ (List.mem_of_getElem? (i := 10) rfl)) (by decide) (rmch l Z a0 hw x0 1 h665) e667 (by decide) (by decide) (by rw [hml]; rfl) pd_10 rfl rfl rfl (Nat.le_of_eq rfl) at_168 rfl (by decide) (by decide) ?_
          rintro r677 T678 L679 X680 ⟨rfl, rfl, e676⟩
          rw [List.append_nil] at X680
          show Go p e below _ (T678.setTop (mkF m 171 #[.val (.int x0), .val (.int x1), .val (.int x2), .val (.int (2 : Int32)), .val (.int n2), .val (.int (0 : Int32)), .val (.int (1 : Int32)), .val (.ref s1), .val (.ref s2), .val (.ref b271), .val (.ref r1), .val (.ref r2), .val (.ref b307), .val (.int (2 : Int32)), .unset, .unset] [(.int (own_ck x0 1)), (.int (1 : Int32)), (.ref b307)]))
          refine Go.castore (pc' := 172) (i := 1) X680 hx hby hZ268 e676 f674 at_171 rfl (by decide) (by decide) (by decide) ?_
          intro T681 h682 X683 e684 W685 A686
          have f687 : Ar Z h682 r1 .byte (ln1_.toInt + 2) (fun q => .int (Rr1 q)) := f670.other W685 n315
          have f688 : Ar Z h682 r2 .byte (ln1_.toInt + 2) (fun q => .int (Rr2 q)) := f671.other W685 n316
          have z689 : h0.size ≤ h682.size := by rw [Wr.size W685]; exact z672
          have hk690 : T264.heap.size ≤ h682.size := by rw [Wr.size W685]; exact hk673
          have f691 : Ar Z h682 b307 .char 10 (fun q => if q = 1 then (.int (nar .char (own_ck x0 1))) else if q = 0 then (.int (nar .char (own_ck x0 0))) else (.int 0)) := A686
          have N692 : Fr h0.size _ := Fr.snoc X683 N675 g317
          show Go p e below _ (T681.setTop (mkF m 172 #[.val (.int x0), .val (.int x1), .val (.int x2), .val (.int (2 : Int32)), .val (.int n2), .val (.int (0 : Int32)), .val (.int (1 : Int32)), .val (.ref s1), .val (.ref s2), .val (.ref b271), .val (.ref r1), .val (.ref r2), .val (.ref b307), .val (.int (2 : Int32)), .unset, .unset] []))
          refine Go.iloadN (pc' := 173) X683 hx hby at_172 rfl rfl ?_
          refine Go.iconst (pc' := 174) X683 hx hby at_173 rfl (v := (2 : Int32)) (by decide) ?_
          refine Go.icmpY (pc' := 190) X683 hx hby at_174 (by decide) (by decide) (show (2 : Int32) ≤ (2 : Int32) from by decide) ?_
          have f693 : Ar Z h682 b307 .char 10 (fun q => .int ((fun q => if q = 1 then own_ck x0 1 else if q = 0 then own_ck x0 0 else 0) q)) := f691.congr (fun i h1 h2 => by simp only [apply_ite Value.int, own_nc7 (own_ckr x0 _), own_nc7 (own_ckr x1 _), own_nc32, own_nc13, own_nc10])
          exact jn639 (T681, h682, _, (2 : Int32), (fun q => if q = 1 then own_ck x0 1 else if q = 0 then own_ck x0 0 else 0)) ⟨X683, e684, N692, z689, hk690, by (try dsimp only); decide, f693, fun q h1 h2 => by
          have z : (2 : Int32).toInt = 2 := by decide
          (try dsimp only at h2)
          rw [z] at h2
          have t : q = 0 ∨ q = 1 := (by omega)
          rcases t with rfl | rfl <;> rfl, f687, f688⟩
        ·
          subst q
          show Go p e below _ (T308.setTop (mkF m 137 #[.val (.int x0), .val (.int x1), .val (.int x2), .val (.int (3 : Int32)), .val (.int n2), .val (.int (0 : Int32)), .val (.int (1 : Int32)), .val (.ref s1), .val (.ref s2), .val (.ref b271), .val (.ref r1), .val (.ref r2), .val (.ref b307), .val (.int (0 : Int32)), .unset, .unset] []))
          refine Go.iloadN (pc' := 138) X311 hx hby at_137 rfl rfl ?_
          refine Go.ifN (pc' := 141) X311 hx hby at_138 rfl (show ¬ ((3 : Int32) ≤ 0) from by decide) ?_
          refine Go.aload (pc' := 143) X311 hx hby at_141 rfl rfl rfl ?_
          refine Go.iload (pc' := 145) X311 hx hby at_143 rfl rfl ?_
          refine Go.iinc (w := (0 : Int32) + (1 : Int32)) (Ls' := #[.val (.int x0), .val (.int x1), .val (.int x2), .val (.int (3 : Int32)), .val (.int n2), .val (.int (0 : Int32)), .val (.int (1 : Int32)), .val (.ref s1), .val (.ref s2), .val (.ref b271), .val (.ref r1), .val (.ref r2), .val (.ref b307), .val (.int ((0 : Int32) + (1 : Int32))), .unset, .unset]) (pc' := 148) X311 hx hby at_145 rfl rfl rfl rfl ?_
          change Go p e below _ (T308.setTop (mkF m 148 #[.val (.int x0), .val (.int x1), .val (.int x2), .val (.int (3 : Int32)), .val (.int n2), .val (.int (0 : Int32)), .val (.int (1 : Int32)), .val (.ref s1), .val (.ref s2), .val (.ref b271), .val (.ref r1), .val (.ref r2), .val (.ref b307), .val (.int (1 : Int32)), .unset, .unset] [(.int (0 : Int32)), (.ref b307)]))
          refine Go.iloadN (pc' := 149) X311 hx hby at_148 rfl rfl ?_
          refine Go.iconst (pc' := 150) X311 hx hby at_149 rfl (v := (0 : Int32)) (by decide) ?_
          refine Go.callS (pc' := 153) (W := 2) (argsL := [(.int x0), (.int (0 : Int32))]) (rest := [(.int (0 : Int32)), (.ref b307)]) X311 hx hby hZ268 hown269 (hw _ (List.mem_of_getElem? (i := 8) rfl)) (hw _ (List.mem_of_getElem? (i := 9) rfl)) (hw _ (List.mem_of_getElem? (i := 2) rfl)) (hw _ (List.mem_of_getElem? (i := 10) rfl)) (by decide) (rmch l Z a0 hw x0 0 h309) e312 (by decide) (by decide) (by rw [hml]; rfl) pd_10 rfl rfl rfl (Nat.le_of_eq rfl) at_150 rfl (by decide) (by decide) ?_
          rintro r695 T696 L697 X698 ⟨rfl, rfl, e694⟩
          rw [List.append_nil] at X698
          show Go p e below _ (T696.setTop (mkF m 153 #[.val (.int x0), .val (.int x1), .val (.int x2), .val (.int (3 : Int32)), .val (.int n2), .val (.int (0 : Int32)), .val (.int (1 : Int32)), .val (.ref s1), .val (.ref s2), .val (.ref b271), .val (.ref r1), .val (.ref r2), .val (.ref b307), .val (.int (1 : Int32)), .unset, .unset] [(.int (own_ck x0 0)), (.int (0 : Int32)), (.ref b307)]))
          refine Go.castore (pc' := 154) (i := 0) X698 hx hby hZ268 e694 f322 at_153 rfl (by decide) (by decide) (by decide) ?_
          intro T699 h700 X701 e702 W703 A704
          have f705 : Ar Z h700 r1 .byte (ln1_.toInt + 2) (fun q => .int (Rr1 q)) := f318.other W703 n315
          have f706 : Ar Z h700 r2 .byte (ln1_.toInt + 2) (fun q => .int (Rr2 q)) := f319.other W703 n316
          have z707 : h0.size ≤ h700.size := by rw [Wr.size W703]; exact z320
          have hk708 : T264.heap.size ≤ h700.size := by rw [Wr.size W703]; exact hk321
          have f709 : Ar Z h700 b307 .char 10 (fun q => if q = 0 then (.int (nar .char (own_ck x0 0))) else (.int 0)) := A704
          have N710 : Fr h0.size _ := Fr.snoc X701 (Fr.app (Fr.app (Fr.app (Fr.app (Fr.app (Fr.app (Fr.app (Fr.nil _) N1) N2) N3) Nw0_) Nw1_) Nr1) Nr2) g317
          show Go p e below _ (T699.setTop (mkF m 154 #[.val (.int x0), .val (.int x1), .val (.int x2), .val (.int (3 : Int32)), .val (.int n2), .val (.int (0 : Int32)), .val (.int (1 : Int32)), .val (.ref s1), .val (.ref s2), .val (.ref b271), .val (.ref r1), .val (.ref r2), .val (.ref b307), .val (.int (1 : Int32)), .unset, .unset] []))
          refine Go.iloadN (pc' := 155) X701 hx hby at_154 rfl rfl ?_
          refine Go.iconst (pc' := 156) X701 hx hby at_155 rfl (v := (1 : Int32)) (by decide) ?_
          refine Go.icmpN (pc' := 159) X701 hx hby at_156 rfl (show ¬ ((3 : Int32) ≤ (1 : Int32)) from by decide) ?_
          refine Go.aload (pc' := 161) X701 hx hby at_159 rfl rfl rfl ?_
          refine Go.iload (pc' := 163) X701 hx hby at_161 rfl rfl ?_
          refine Go.iinc (w := (1 : Int32) + (1 : Int32)) (Ls' := #[.val (.int x0), .val (.int x1), .val (.int x2), .val (.int (3 : Int32)), .val (.int n2), .val (.int (0 : Int32)), .val (.int (1 : Int32)), .val (.ref s1), .val (.ref s2), .val (.ref b271), .val (.ref r1), .val (.ref r2), .val (.ref b307), .val (.int ((1 : Int32) + (1 : Int32))), .unset, .unset]) (pc' := 166) X701 hx hby at_163 rfl rfl rfl rfl ?_
          change Go p e below _ (T699.setTop (mkF m 166 #[.val (.int x0), .val (.int x1), .val (.int x2), .val (.int (3 : Int32)), .val (.int n2), .val (.int (0 : Int32)), .val (.int (1 : Int32)), .val (.ref s1), .val (.ref s2), .val (.ref b271), .val (.ref r1), .val (.ref r2), .val (.ref b307), .val (.int (2 : Int32)), .unset, .unset] [(.int (1 : Int32)), (.ref b307)]))
          refine Go.iloadN (pc' := 167) X701 hx hby at_166 rfl rfl ?_
          refine Go.iconst (pc' := 168) X701 hx hby at_167 rfl (v := (1 : Int32)) (by decide) ?_
          refine Go.callS (pc' := 171) (W := 2) (argsL := [(.int x0), (.int (1 : Int32))]) (rest := [(.int (1 : Int32)), (.ref b307)]) X701 hx hby hZ268 hown269 (hw _ (List.mem_of_getElem? (i := 8) rfl)) (hw _ (List.mem_of_getElem? (i := 9) rfl)) (hw _ (List.mem_of_getElem? (i := 2) rfl)) (hw _ (List.mem_of_getElem? (i := 10) rfl)) (by decide) (rmch l Z a0 hw x0 1 h700) e702 (by decide) (by decide) (by rw [hml]; rfl) pd_10 rfl rfl rfl (Nat.le_of_eq rfl) at_168 rfl (by decide) (by decide) ?_
          rintro r712 T713 L714 X715 ⟨rfl, rfl, e711⟩
          rw [List.append_nil] at X715
          show Go p e below _ (T713.setTop (mkF m 171 #[.val (.int x0), .val (.int x1), .val (.int x2), .val (.int (3 : Int32)), .val (.int n2), .val (.int (0 : Int32)), .val (.int (1 : Int32)), .val (.ref s1), .val (.ref s2), .val (.ref b271), .val (.ref r1), .val (.ref r2), .val (.ref b307), .val (.int (2 : Int32)), .unset, .unset] [(.int (own_ck x0 1)), (.int (1 : Int32)), (.ref b307)]))
          refine Go.castore (pc' := 172) (i := 1) X715 hx hby hZ268 e711 f709 at_171 rfl (by decide) (by decide) (by decide) ?_
          intro T716 h717 X718 e719 W720 A721
          have f722 : Ar Z h717 r1 .byte (ln1_.toInt + 2) (fun q => .int (Rr1 q)) := f705.other W720 n315
          have f723 : Ar Z h717 r2 .byte (ln1_.toInt + 2) (fun q => .int (Rr2 q)) := f706.other W720 n316
          have z724 : h0.size ≤ h717.size := by rw [Wr.size W720]; exact z707
          have hk725 : T264.heap.size ≤ h717.size := by rw [Wr.size W720]; exact hk708
          have f726 : Ar Z h717 b307 .char 10 (fun q => if q = 1 then (.int (nar .char (own_ck x0 1))) else if q = 0 then (.int (nar .char (own_ck x0 0))) else (.int 0)) := A721
          have N727 : Fr h0.size _ := Fr.snoc X718 N710 g317
          show Go p e below _ (T716.setTop (mkF m 172 #[.val (.int x0), .val (.int x1), .val (.int x2), .val (.int (3 : Int32)), .val (.int n2), .val (.int (0 : Int32)), .val (.int (1 : Int32)), .val (.ref s1), .val (.ref s2), .val (.ref b271), .val (.ref r1), .val (.ref r2), .val (.ref b307), .val (.int (2 : Int32)), .unset, .unset] []))
          refine Go.iloadN (pc' := 173) X718 hx hby at_172 rfl rfl ?_
          refine Go.iconst (pc' := 174) X718 hx hby at_173 rfl (v := (2 : Int32)) (by decide) ?_
          refine Go.icmpN (pc' := 177) X718 hx hby at_174 rfl (show ¬ ((3 : Int32) ≤ (2 : Int32)) from by decide) ?_
          refine Go.aload (pc' := 179) X718 hx hby at_177 rfl rfl rfl ?_
          refine Go.iload (pc' := 181) X718 hx hby at_179 rfl rfl ?_
          refine Go.iinc (w := (2 : Int32) + (1 : Int32)) (Ls' := #[.val (.int x0), .val (.int x1), .val (.int x2), .val (.int (3 : Int32)), .val (.int n2), .val (.int (0 : Int32)), .val (.int (1 : Int32)), .val (.ref s1), .val (.ref s2), .val (.ref b271), .val (.ref r1), .val (.ref r2), .val (.ref b307), .val (.int ((2 : Int32) + (1 : Int32))), .unset, .unset]) (pc' := 184) X718 hx hby at_181 rfl rfl rfl rfl ?_
          change Go p e below _ (T716.setTop (mkF m 184 #[.val (.int x0), .val (.int x1), .val (.int x2), .val (.int (3 : Int32)), .val (.int n2), .val (.int (0 : Int32)), .val (.int (1 : Int32)), .val (.ref s1), .val (.ref s2), .val (.ref b271), .val (.ref r1), .val (.ref r2), .val (.ref b307), .val (.int (3 : Int32)), .unset, .unset] [(.int (2 : Int32)), (.ref b307)]))
          refine Go.iloadN (pc' := 185) X718 hx hby at_184 rfl rfl ?_
          refine Go.iconst (pc' := 186) X718 hx hby at_185 rfl (v := (2 : Int32)) (by decide) ?_
          refine Go.callS (pc' := 189) (W := 2) (argsL := [(.int x0), (.int (2 : Int32))]) (rest := [(.int (2 : Int32)), (.ref b307)]) X718 hx hby hZ268 hown269 (hw _ (List.mem_of_getElem? (i := 8) rfl)) (hw _ (List.mem_of_getElem? (i := 9) rfl)) (hw _ (List.mem_of_getElem? (i := 2) rfl)) (hw _ (List.mem_of_getElem? (i := 10) rfl)) (by decide) (rmch l Z a0 hw x0 2 h717) e719 (by decide) (by decide) (by rw [hml]; rfl) pd_10 rfl rfl rfl (Nat.le_of_eq rfl) at_186 rfl (by decide) (by decide) ?_
          rintro r729 T730 L731 X732 ⟨rfl, rfl, e728⟩
          rw [List.append_nil] at X732
          show Go p e below _ (T730.setTop (mkF m 189 #[.val (.int x0), .val (.int x1), .val (.int x2), .val (.int (3 : Int32)), .val (.int n2), .val (.int (0 : Int32)), .val (.int (1 : Int32)), .val (.ref s1), .val (.ref s2), .val (.ref b271), .val (.ref r1), .val (.ref r2), .val (.ref b307), .val (.int (3 : Int32)), .unset, .unset] [(.int (own_ck x0 2)), (.int (2 : Int32)), (.ref b307)]))
          refine Go.castore (pc' := 190) (i := 2) X732 hx hby hZ268 e728 f726 at_189 rfl (by decide) (by decide) (by decide) ?_
          intro T733 h734 X735 e736 W737 A738
          have f739 : Ar Z h734 r1 .byte (ln1_.toInt + 2) (fun q => .int (Rr1 q)) := f722.other W737 n315
          have f740 : Ar Z h734 r2 .byte (ln1_.toInt + 2) (fun q => .int (Rr2 q)) := f723.other W737 n316
          have z741 : h0.size ≤ h734.size := by rw [Wr.size W737]; exact z724
          have hk742 : T264.heap.size ≤ h734.size := by rw [Wr.size W737]; exact hk725
          have f743 : Ar Z h734 b307 .char 10 (fun q => if q = 2 then (.int (nar .char (own_ck x0 2))) else if q = 1 then (.int (nar .char (own_ck x0 1))) else if q = 0 then (.int (nar .char (own_ck x0 0))) else (.int 0)) := A738
          have N744 : Fr h0.size _ := Fr.snoc X735 N727 g317
          show Go p e below _ (T733.setTop (mkF m 190 #[.val (.int x0), .val (.int x1), .val (.int x2), .val (.int (3 : Int32)), .val (.int n2), .val (.int (0 : Int32)), .val (.int (1 : Int32)), .val (.ref s1), .val (.ref s2), .val (.ref b271), .val (.ref r1), .val (.ref r2), .val (.ref b307), .val (.int (3 : Int32)), .unset, .unset] []))
          have f745 : Ar Z h734 b307 .char 10 (fun q => .int ((fun q => if q = 2 then own_ck x0 2 else if q = 1 then own_ck x0 1 else if q = 0 then own_ck x0 0 else 0) q)) := f743.congr (fun i h1 h2 => by simp only [apply_ite Value.int, own_nc7 (own_ckr x0 _), own_nc7 (own_ckr x1 _), own_nc32, own_nc13, own_nc10])
          exact jn639 (T733, h734, _, (3 : Int32), (fun q => if q = 2 then own_ck x0 2 else if q = 1 then own_ck x0 1 else if q = 0 then own_ck x0 0 else 0)) ⟨X735, e736, N744, z741, hk742, by (try dsimp only); decide, f745, fun q h1 h2 => by
          have z : (3 : Int32).toInt = 3 := by decide
          (try dsimp only at h2)
          rw [z] at h2
          have t : q = 0 ∨ q = 1 ∨ q = 2 := (by omega)
          rcases t with rfl | rfl | rfl <;> rfl, f739, f740⟩
  ·
    refine Go.iconst (pc' := 20) X0 hx hby at_19 rfl (v := (1 : Int32)) (by decide) ?_
    refine Go.goto (pc' := 24) X0 hx hby at_20 (by decide) (by decide) ?_
    refine Go.istore (Ls' := #[.val (.int x0), .val (.int x1), .val (.int x2), .val (.int n1), .val (.int n2), .val (.int (1 : Int32)), .unset, .unset, .unset, .unset, .unset, .unset, .unset, .unset, .unset, .unset]) (pc' := 26) X0 hx hby at_24 rfl rfl ?_
    refine Go.iloadN (pc' := 27) X0 hx hby at_26 rfl rfl ?_
    refine Go.iconst (pc' := 28) X0 hx hby at_27 rfl (v := (5 : Int32)) (by decide) ?_
    refine Go.iushr (pc' := 29) X0 hx hby at_28 rfl ?_
    refine Go.iconst (pc' := 30) X0 hx hby at_29 rfl (v := (1 : Int32)) (by decide) ?_
    refine Go.iand (pc' := 31) X0 hx hby at_30 rfl ?_
    refine Go.if_ (pc' := 38) (pn := 34) X0 hx hby at_31 (by decide) (by decide) rfl (fun (ts : (((x2.toUInt32 >>> ((5 : Int32) &&& 31).toUInt32).toInt32) &&& (1 : Int32)) = 0) => ?_) (fun (ts : ¬ ((((x2.toUInt32 >>> ((5 : Int32) &&& 31).toUInt32).toInt32) &&& (1 : Int32)) = 0)) => ?_)
    ·
      refine Go.iconst (pc' := 39) X0 hx hby at_38 rfl (v := (0 : Int32)) (by decide) ?_
      refine Go.istore (Ls' := #[.val (.int x0), .val (.int x1), .val (.int x2), .val (.int n1), .val (.int n2), .val (.int (1 : Int32)), .val (.int (0 : Int32)), .unset, .unset, .unset, .unset, .unset, .unset, .unset, .unset, .unset]) (pc' := 41) X0 hx hby at_39 rfl rfl ?_
      refine Go.iloadN (pc' := 42) X0 hx hby at_41 rfl rfl ?_
      refine Go.iloadN (pc' := 43) X0 hx hby at_42 rfl rfl ?_
      refine Go.callSR (pc' := 46) (W := 0) (argsL := [(.int x0), (.int n1)]) (rest := []) X0 hx hby hZ hown (hw _ (List.mem_of_getElem? (i := 0) rfl)) (hw _ (List.mem_of_getElem? (i := 1) rfl)) (hw _ (List.mem_of_getElem? (i := 2) rfl)) (hw _ (List.mem_of_getElem? (i := 3) rfl)) (by decide) (rmMK l Z a0 hw x0 n1 h0 h0.size kk sf O0 SS (Nat.le_refl _) d1) e0 (by decide) (by decide) (by rw [hml]; rfl) pd_12 rfl rfl rfl (Nat.le_of_eq rfl) at_43 rfl (by decide) (by decide) hS (Nat.zero_le _) (own_ew hw) hC (by simp) ?_
      rintro r746 T747 L748 X749 S750 hZ751 hown752 g753 ⟨⟨s1, t1, rfl, N1, K1, S1⟩, R1⟩
      have O1 := O0.keep K1 all0
      show Go p e below _ (T747.setTop (mkF m 46 #[.val (.int x0), .val (.int x1), .val (.int x2), .val (.int n1), .val (.int n2), .val (.int (1 : Int32)), .val (.int (0 : Int32)), .unset, .unset, .unset, .unset, .unset, .unset, .unset, .unset, .unset] [(.ref s1)]))
      refine Go.astore (Ls' := #[.val (.int x0), .val (.int x1), .val (.int x2), .val (.int n1), .val (.int n2), .val (.int (1 : Int32)), .val (.int (0 : Int32)), .val (.ref s1), .unset, .unset, .unset, .unset, .unset, .unset, .unset, .unset]) (pc' := 48) X749 hx hby at_46 rfl rfl rfl ?_
      refine Go.iloadN (pc' := 49) X749 hx hby at_48 rfl rfl ?_
      refine Go.iload (pc' := 51) X749 hx hby at_49 rfl rfl ?_
      refine Go.callSR (pc' := 54) (W := 0) (argsL := [(.int x1), (.int n2)]) (rest := []) X749 hx hby hZ751 hown752 (hw _ (List.mem_of_getElem? (i := 0) rfl)) (hw _ (List.mem_of_getElem? (i := 1) rfl)) (hw _ (List.mem_of_getElem? (i := 2) rfl)) (hw _ (List.mem_of_getElem? (i := 3) rfl)) (by decide) (rmMK l Z a0 hw x1 n2 T747.heap h0.size kk sf O1 SS K1.1 d2) rfl (by decide) (by decide) (by rw [hml]; rfl) pd_12 rfl rfl rfl (Nat.le_of_eq rfl) at_51 rfl (by decide) (by decide) S750 (Nat.le_refl _) (own_ew hw) R1.1 (by simp) ?_
      rintro r754 T755 L756 X757 S758 hZ759 hown760 g761 ⟨⟨s2, t2, rfl, N2, K2, S2⟩, R2⟩
      replace S1 := S1.keep K2 nin0 nin0
      have O2 := O1.keep K2 all0
      have Z2 : h0.size ≤ T755.heap.size := Nat.le_trans K1.1 K2.1
      show Go p e below _ (T755.setTop (mkF m 54 #[.val (.int x0), .val (.int x1), .val (.int x2), .val (.int n1), .val (.int n2), .val (.int (1 : Int32)), .val (.int (0 : Int32)), .val (.ref s1), .unset, .unset, .unset, .unset, .unset, .unset, .unset, .unset] [(.ref s2)]))
      refine Go.astore (Ls' := #[.val (.int x0), .val (.int x1), .val (.int x2), .val (.int n1), .val (.int n2), .val (.int (1 : Int32)), .val (.int (0 : Int32)), .val (.ref s1), .val (.ref s2), .unset, .unset, .unset, .unset, .unset, .unset, .unset]) (pc' := 56) X757 hx hby at_54 rfl rfl rfl ?_
      refine Go.new_ (pc' := 59) X757 hx hby hZ759 hown760 (hw _ (List.mem_of_getElem? (i := 40) rfl)) (hw _ (List.mem_of_getElem? (i := 41) rfl)) (hw _ (List.mem_of_getElem? (i := 42) rfl)) rfl at_56 rfl (by decide) (by decide) ?_
      intro b762 T763 h764 g765 X766 e767 E768 A769 D770
      have g771 : h0.size ≤ b762 := by rw [g765]; exact Z2
      have f772 : Old Z h0.size h764 := O2.ext E768
      have z773 : h0.size ≤ h764.size := Nat.le_trans Z2 E768.1
      have hk774 : T755.heap.size ≤ h764.size := Nat.le_trans (Nat.le_refl _) E768.1
      have f775 : Exa Z h764 b762 "com/example/vellum_channels/vellumchannels/frame/HeaderLine" := A769
      have f776 : Fld Z h764 b762 "com/example/vellum_channels/vellumchannels/frame/HeaderLine" "octets" "[B" .null := D770 (Or.inl (hw _ (List.mem_of_getElem? (i := 48) rfl))) (ty := (.array .byte)) (by decide)
      have f777 : Fld Z h764 b762 "com/example/vellum_channels/vellumchannels/frame/HeaderLine" "length" "I" (.int 0) := D770 (Or.inl (hw _ (List.mem_of_getElem? (i := 59) rfl))) (ty := .int) (by decide)
      show Go p e below _ (T763.setTop (mkF m 59 #[.val (.int x0), .val (.int x1), .val (.int x2), .val (.int n1), .val (.int n2), .val (.int (1 : Int32)), .val (.int (0 : Int32)), .val (.ref s1), .val (.ref s2), .unset, .unset, .unset, .unset, .unset, .unset, .unset] [(.ref b762)]))
      have gA : T755.heap.size ≤ b762 := by rw [g765]; exact Nat.le_refl _
      replace S1 := S1.ext E768
      replace S2 := S2.ext E768
      refine Go.dup (pc' := 60) X766 hx hby at_59 rfl rfl ?_
      refine Go.callI (pc' := 63) (a := b762) (W := 1) (argsL := []) (rest := [(.ref b762)]) X766 hx hby rfl hZ759 hown760 (hw _ (List.mem_of_getElem? (i := 43) rfl)) (hw _ (List.mem_of_getElem? (i := 44) rfl)) (hw _ (List.mem_of_getElem? (i := 42) rfl)) (hw _ (List.mem_of_getElem? (i := 45) rfl)) (by decide) (rmHI l Z a0 hw b762 h764 h0.size z773 g771 f775 f776 f777) e767 (by decide) (by decide) (by rw [hml]; rfl) pd_2 rfl rfl rfl (Nat.le_of_eq rfl) at_60 rfl (by decide) (by decide) ?_
      rintro r778 T779 L780 X781 ⟨ob, rfl, gf, N3, K3, Ew, Fw, Gw, Aw⟩
      have K24 : Keep T755.heap T779.heap [] := ((Keep.refl T755.heap []).ext E768).trans K3 (allS (Or.inr gA) all0)
      have gob : T755.heap.size ≤ ob := Nat.le_trans E768.1 gf
      have nt1 : t1 ≠ ob := Nat.ne_of_lt (Nat.lt_of_lt_of_le S1.2.2.2.lt gf)
      replace S1 := S1.keep K3 (ninS (Exa.ne S1.1 f775 (by decide)) nin0) (ninS (Ne.symm (Ar.neExa f775 (hw _ (List.mem_of_getElem? (i := 41) rfl)) S1.2.2.2)) nin0)
      have nt2 : t2 ≠ ob := Nat.ne_of_lt (Nat.lt_of_lt_of_le S2.2.2.2.lt gf)
      replace S2 := S2.keep K3 (ninS (Exa.ne S2.1 f775 (by decide)) nin0) (ninS (Ne.symm (Ar.neExa f775 (hw _ (List.mem_of_getElem? (i := 41) rfl)) S2.2.2.2)) nin0)
      have Ow := f772.keep K3 (allS g771 all0)
      have Zw : h0.size ≤ T779.heap.size := Nat.le_trans z773 K3.1
      have hkw : T755.heap.size ≤ T779.heap.size := Nat.le_trans hk774 K3.1
      have gow : h0.size ≤ ob := Nat.le_trans Z2 gob
      show Go p e below _ (T779.setTop (mkF m 63 #[.val (.int x0), .val (.int x1), .val (.int x2), .val (.int n1), .val (.int n2), .val (.int (1 : Int32)), .val (.int (0 : Int32)), .val (.ref s1), .val (.ref s2), .unset, .unset, .unset, .unset, .unset, .unset, .unset] [(.ref b762)]))
      refine Go.astore (Ls' := #[.val (.int x0), .val (.int x1), .val (.int x2), .val (.int n1), .val (.int n2), .val (.int (1 : Int32)), .val (.int (0 : Int32)), .val (.ref s1), .val (.ref s2), .val (.ref b762), .unset, .unset, .unset, .unset, .unset, .unset]) (pc' := 65) X781 hx hby at_63 rfl rfl rfl ?_
      refine Go.iload (pc' := 67) X781 hx hby at_65 rfl rfl ?_
      refine Go.ifN (pc' := 70) X781 hx hby at_67 rfl (show ¬ ((1 : Int32) = 0) from by decide) ?_
      refine Go.aload (pc' := 72) X781 hx hby at_70 rfl rfl rfl ?_
      have HC4 := CHv.keep K24 all0 R2.1
      have sfo := Safe.keep K24 all0 R2.1 (Safe.new gob)
      refine Go.ldcR2 (pc' := 74) (n := 244) (z := 61) (vs := own_pl.map Value.int) (EL := own_EL) X781 hx hby hZ759 hown760 (hw _ (List.mem_of_getElem? (i := 129) rfl)) (own_strs hw) rfl S758 hkw (own_ew hw) (by simp [own_EL]) HC4 ⟨own_pa, own_pt⟩ (by decide) own_pz at_72 rfl own_pn (by decide) (by decide) (by decide) ?_
      intro sl T9 h9 k9 bl kc X9 e9 E9 S9 hk9 hZ9 ho9 Es Cs Vs As CH9 LI9 sf9
      have nbl := Ne.symm (sf9 ob (CH9.safe Aw.lt sfo)).2
      have SL : own_sx Z h9 sl bl (61 : Int32).toInt own_pc := ⟨Es, Vs, Cs, (own_arv As).congr (fun i h1 h2 => own_pv i)⟩
      replace S1 := S1.ext E9
      replace S2 := S2.ext E9
      replace Ow := Ow.ext E9
      replace Aw := Aw.ext E9
      replace Ew := Exa.ext E9 Ew
      replace Fw := Fld.ext E9 Fw
      replace Gw := Fld.ext E9 Gw
      replace Zw : h0.size ≤ h9.size := Nat.le_trans Zw E9.1
      show Go p e below _ (T9.setTop (mkF m 74 #[.val (.int x0), .val (.int x1), .val (.int x2), .val (.int n1), .val (.int n2), .val (.int (1 : Int32)), .val (.int (0 : Int32)), .val (.ref s1), .val (.ref s2), .val (.ref b762), .unset, .unset, .unset, .unset, .unset, .unset] [(.ref sl), (.ref b762)]))
      refine Go.callV (C := "com/example/vellum_channels/vellumchannels/frame/HeaderLine") (pc' := 77) (a := b762) (W := 0) (argsL := [(.ref sl)]) (rest := []) X9 hx hby hZ9 ho9 (hw _ (List.mem_of_getElem? (i := 49) rfl)) (hw _ (List.mem_of_getElem? (i := 50) rfl)) (notFace_of_selects (args := #[]) (mvT hZ9 (hw _ (List.mem_of_getElem? (i := 52) rfl)))) (hw _ (List.mem_of_getElem? (i := 52) rfl)) (hw _ (List.mem_of_getElem? (i := 51) rfl)) (hw _ (List.mem_of_getElem? (i := 42) rfl)) (hw _ (List.mem_of_getElem? (i := 53) rfl)) (by decide) (rmWO l Z a0 hw b762 sl h9 h0.size kk sf (0 : Int32) (62 : Int32) (fun _ => (0 : Int32)) ob bl 61 own_pc Ow SS Zw g771 gow Ew Fw Gw Aw (fun q => by decide) (by omega) (by omega) (by omega) (by omega) SL own_p7 nbl (by omega) (by omega) (by omega) (by first | omega | (unfold own_sp; split <;> omega))) e9 Ew (by decide) (by decide) (by rw [hml]; rfl) pd_15 rfl rfl rfl (Nat.le_of_eq rfl) at_74 rfl (by decide) (by decide) ?_
      rintro r782 T783 L784 X785 ⟨o0_, z0_, C0_, ln0_, rfl, Nw0_, Kw0_, qo0_, lq0_, zq0_, cq0_, go0_, Ex0_, Fx0_, Gx0_, Ax0_, yw0_⟩
      obtain ⟨S1', nt1'⟩ := own_sx.word hw S1 Kw0_ Ew Aw nt1 qo0_
      clear S1 nt1
      have S1 := S1'
      have nt1 := nt1'
      clear S1' nt1'
      obtain ⟨S2', nt2'⟩ := own_sx.word hw S2 Kw0_ Ew Aw nt2 qo0_
      clear S2 nt2
      have S2 := S2'
      have nt2 := nt2'
      clear S2' nt2'
      have lv0_ : ln0_.toInt = 61 := by rw [lq0_]; first | omega | (unfold own_sp; split <;> omega)
      have zv0_ : z0_.toInt = 62 := by rw [zq0_]; unfold own_cap own_rm own_sp; (repeat' split) <;> omega
      replace Ow := Ow.keep Kw0_ (allS g771 (allS gow all0))
      replace Zw : h0.size ≤ T783.heap.size := Nat.le_trans Zw Kw0_.1
      have hkw0_ : k9 ≤ T783.heap.size := Nat.le_trans hk9 Kw0_.1
      clear Ew Fw Gw Aw gow
      have Ew := Ex0_
      have Fw := Fx0_
      have Gw := Gx0_
      have Aw := Ax0_
      have gow := go0_
      show Go p e below _ (T783.setTop (mkF m 77 #[.val (.int x0), .val (.int x1), .val (.int x2), .val (.int n1), .val (.int n2), .val (.int (1 : Int32)), .val (.int (0 : Int32)), .val (.ref s1), .val (.ref s2), .val (.ref b762), .unset, .unset, .unset, .unset, .unset, .unset] [(.ref b762)]))
      refine Go.pop (pc' := 78) X785 hx hby at_77 rfl rfl ?_
      refine Go.aload (pc' := 80) X785 hx hby at_78 rfl rfl rfl ?_
      refine Go.aload (pc' := 82) X785 hx hby at_80 rfl rfl rfl ?_
      refine Go.callV (C := "com/example/vellum_channels/vellumchannels/frame/HeaderLine") (pc' := 85) (a := b762) (W := 0) (argsL := [(.ref s1)]) (rest := []) X785 hx hby hZ9 ho9 (hw _ (List.mem_of_getElem? (i := 49) rfl)) (hw _ (List.mem_of_getElem? (i := 50) rfl)) (notFace_of_selects (args := #[]) (mvT hZ9 (hw _ (List.mem_of_getElem? (i := 52) rfl)))) (hw _ (List.mem_of_getElem? (i := 52) rfl)) (hw _ (List.mem_of_getElem? (i := 51) rfl)) (hw _ (List.mem_of_getElem? (i := 42) rfl)) (hw _ (List.mem_of_getElem? (i := 53) rfl)) (by decide) (rmWO l Z a0 hw b762 s1 T783.heap h0.size kk sf ln0_ z0_ C0_ o0_ t1 n1 (own_cf x0) Ow SS Zw g771 gow Ew Fw Gw Aw yw0_ (by omega) (by omega) (by omega) (by omega) S1 (fun q _ _ => own_cfr x0 q) nt1 (by omega) (by omega) (by omega) (by first | omega | (unfold own_sp; split <;> omega))) rfl Ew (by decide) (by decide) (by rw [hml]; rfl) pd_15 rfl rfl rfl (Nat.le_of_eq rfl) at_82 rfl (by decide) (by decide) ?_
      rintro r786 T787 L788 X789 ⟨o1_, z1_, C1_, ln1_, rfl, Nw1_, Kw1_, qo1_, lq1_, zq1_, cq1_, go1_, Ex1_, Fx1_, Gx1_, Ax1_, yw1_⟩
      obtain ⟨S2', nt2'⟩ := own_sx.word hw S2 Kw1_ Ew Aw nt2 qo1_
      clear S2 nt2
      have S2 := S2'
      have nt2 := nt2'
      clear S2' nt2'
      have lv1_ : ln1_.toInt = 62 + n1.toInt := by rw [lq1_]; first | omega | (unfold own_sp; split <;> omega)
      have zv1_ : (n1.toInt = 0 ∧ z1_.toInt = 62) ∨ (0 < n1.toInt ∧ z1_.toInt = 2 * (62 + n1.toInt)) := by rw [zq1_]; unfold own_cap own_rm own_sp; (repeat' split) <;> omega
      replace Ow := Ow.keep Kw1_ (allS g771 (allS gow all0))
      replace Zw : h0.size ≤ T787.heap.size := Nat.le_trans Zw Kw1_.1
      have hkw1_ : k9 ≤ T787.heap.size := Nat.le_trans hkw0_ Kw1_.1
      clear Ew Fw Gw Aw gow
      have Ew := Ex1_
      have Fw := Fx1_
      have Gw := Gx1_
      have Aw := Ax1_
      have gow := go1_
      show Go p e below _ (T787.setTop (mkF m 85 #[.val (.int x0), .val (.int x1), .val (.int x2), .val (.int n1), .val (.int n2), .val (.int (1 : Int32)), .val (.int (0 : Int32)), .val (.ref s1), .val (.ref s2), .val (.ref b762), .unset, .unset, .unset, .unset, .unset, .unset] [(.ref b762)]))
      refine Go.pop (pc' := 86) X789 hx hby at_85 rfl rfl ?_
      refine Go.iload (pc' := 88) X789 hx hby at_86 rfl rfl ?_
      refine Go.ifY (pc' := 99) X789 hx hby at_88 (by decide) (by decide) (show (0 : Int32) = 0 from by decide) ?_
      refine Go.aload (pc' := 101) X789 hx hby at_99 rfl rfl rfl ?_
      have c1s : ∀ j : Int, 0 ≤ j → j < (1 + n1.toInt) → C1_ (61 + j) = own_t1 x0 j := by
        intro j h1 h2
        rw [cq1_ _ (by omega) (by omega)]
        have spA : own_sp ln0_.toInt = 1 := by unfold own_sp; rw [if_pos (by omega)]
        unfold own_w own_t1; rw [if_neg (by omega), spA]
        by_cases g : j = 0
        · rw [if_pos (by omega), if_pos g]
        · rw [if_neg (by omega), if_neg g]; congr 1; omega
      have pfx : ∀ q : Int, 0 ≤ q → q < 61 → C1_ q = own_pc q := by
        intro q h1 h2
        rw [cq1_ _ (by omega) (by omega)]; unfold own_w; rw [if_pos (by omega)]
        rw [cq0_ _ (by omega) (by omega)]; unfold own_w own_sp; rw [v0, if_neg (by omega), if_neg (by omega), if_neg (by omega)]; congr 1; omega
      refine Go.callV (C := "com/example/vellum_channels/vellumchannels/frame/HeaderLine") (pc' := 104) (a := b762) (W := 0) (argsL := []) (rest := []) X789 hx hby hZ9 ho9 (hw _ (List.mem_of_getElem? (i := 96) rfl)) (hw _ (List.mem_of_getElem? (i := 97) rfl)) (notFace_of_selects (args := #[]) (mvT hZ9 (hw _ (List.mem_of_getElem? (i := 99) rfl)))) (hw _ (List.mem_of_getElem? (i := 99) rfl)) (hw _ (List.mem_of_getElem? (i := 98) rfl)) (hw _ (List.mem_of_getElem? (i := 42) rfl)) (hw _ (List.mem_of_getElem? (i := 100) rfl)) (by decide) (rmTO l Z a0 hw b762 T787.heap h0.size ln1_ z1_ C1_ o1_ Zw g771 gow Ew Fw Gw Aw yw1_ (by omega) (by omega) (by omega) (by omega) (by omega)) rfl Ew (by decide) (by decide) (by rw [hml]; rfl) pd_4 rfl rfl rfl (Nat.le_of_eq rfl) at_101 rfl (by decide) (by decide) ?_
      rintro r790 T791 L792 X793 ⟨r1, Rr1, rfl, gr1, Nr1, Kr1, Ar1, cr1, rl1, rm1⟩
      replace Ew := Ew.keep Kr1
      replace Fw := Fw.keep Kr1 nin0
      replace Gw := Gw.keep Kr1 nin0
      replace Aw := Aw.keep Kr1 nin0
      replace Zw : h0.size ≤ T791.heap.size := Nat.le_trans Zw Kr1.1
      have hkr1 : k9 ≤ T791.heap.size := Nat.le_trans hkw1_ Kr1.1
      show Go p e below _ (T791.setTop (mkF m 104 #[.val (.int x0), .val (.int x1), .val (.int x2), .val (.int n1), .val (.int n2), .val (.int (1 : Int32)), .val (.int (0 : Int32)), .val (.ref s1), .val (.ref s2), .val (.ref b762), .unset, .unset, .unset, .unset, .unset, .unset] [(.ref r1)]))
      refine Go.astore (Ls' := #[.val (.int x0), .val (.int x1), .val (.int x2), .val (.int n1), .val (.int n2), .val (.int (1 : Int32)), .val (.int (0 : Int32)), .val (.ref s1), .val (.ref s2), .val (.ref b762), .val (.ref r1), .unset, .unset, .unset, .unset, .unset]) (pc' := 106) X793 hx hby at_104 rfl rfl rfl ?_
      refine Go.aload (pc' := 108) X793 hx hby at_106 rfl rfl rfl ?_
      refine Go.callV (C := "com/example/vellum_channels/vellumchannels/frame/HeaderLine") (pc' := 111) (a := b762) (W := 0) (argsL := []) (rest := []) X793 hx hby hZ9 ho9 (hw _ (List.mem_of_getElem? (i := 96) rfl)) (hw _ (List.mem_of_getElem? (i := 97) rfl)) (notFace_of_selects (args := #[]) (mvT hZ9 (hw _ (List.mem_of_getElem? (i := 99) rfl)))) (hw _ (List.mem_of_getElem? (i := 99) rfl)) (hw _ (List.mem_of_getElem? (i := 98) rfl)) (hw _ (List.mem_of_getElem? (i := 42) rfl)) (hw _ (List.mem_of_getElem? (i := 100) rfl)) (by decide) (rmTO l Z a0 hw b762 T791.heap h0.size ln1_ z1_ C1_ o1_ Zw g771 gow Ew Fw Gw Aw yw1_ (by omega) (by omega) (by omega) (by omega) (by omega)) rfl Ew (by decide) (by decide) (by rw [hml]; rfl) pd_4 rfl rfl rfl (Nat.le_of_eq rfl) at_108 rfl (by decide) (by decide) ?_
      rintro r794 T795 L796 X797 ⟨r2, Rr2, rfl, gr2, Nr2, Kr2, Ar2, cr2, rl2, rm2⟩
      have nr : r1 ≠ r2 := Nat.ne_of_lt (Nat.lt_of_lt_of_le Ar1.lt gr2)
      replace Ar1 := Ar1.keep Kr2 nin0
      replace Zw : h0.size ≤ T795.heap.size := Nat.le_trans Zw Kr2.1
      have hkr2 : k9 ≤ T795.heap.size := Nat.le_trans hkr1 Kr2.1
      show Go p e below _ (T795.setTop (mkF m 111 #[.val (.int x0), .val (.int x1), .val (.int x2), .val (.int n1), .val (.int n2), .val (.int (1 : Int32)), .val (.int (0 : Int32)), .val (.ref s1), .val (.ref s2), .val (.ref b762), .val (.ref r1), .unset, .unset, .unset, .unset, .unset] [(.ref r2)]))
      refine Go.astore (Ls' := #[.val (.int x0), .val (.int x1), .val (.int x2), .val (.int n1), .val (.int n2), .val (.int (1 : Int32)), .val (.int (0 : Int32)), .val (.ref s1), .val (.ref s2), .val (.ref b762), .val (.ref r1), .val (.ref r2), .unset, .unset, .unset, .unset]) (pc' := 113) X797 hx hby at_111 rfl rfl rfl ?_
      refine Go.bipush (pc' := 115) X797 hx hby at_113 rfl (v := (10 : Int32)) (by decide) ?_
      refine Go.newarr (pc' := 117) (cap := 10) (z := 10) X797 hx hby hZ9 (hw _ (List.mem_of_getElem? (i := 7) rfl)) rfl at_115 rfl (by decide) (by decide) (by decide) (by decide) (by decide) (by decide) ?_
      intro b798 T799 h800 g801 X802 e803 E804 A805
      have n806 : r1 ≠ b798 := Nat.ne_of_lt (by rw [g801]; exact Ar1.lt)
      have n807 : r2 ≠ b798 := Nat.ne_of_lt (by rw [g801]; exact Ar2.lt)
      have g808 : h0.size ≤ b798 := by rw [g801]; exact Zw
      have f809 : Ar Z h800 r1 .byte (ln1_.toInt + 2) (fun q => .int (Rr1 q)) := Ar1.ext E804
      have f810 : Ar Z h800 r2 .byte (ln1_.toInt + 2) (fun q => .int (Rr2 q)) := Ar2.ext E804
      have z811 : h0.size ≤ h800.size := Nat.le_trans Zw E804.1
      have hk812 : k9 ≤ h800.size := Nat.le_trans hkr2 E804.1
      have f813 : Ar Z h800 b798 .char 10 (fun _ => (.int 0)) := A805
      show Go p e below _ (T799.setTop (mkF m 117 #[.val (.int x0), .val (.int x1), .val (.int x2), .val (.int n1), .val (.int n2), .val (.int (1 : Int32)), .val (.int (0 : Int32)), .val (.ref s1), .val (.ref s2), .val (.ref b762), .val (.ref r1), .val (.ref r2), .unset, .unset, .unset, .unset] [(.ref b798)]))
      refine Go.astore (Ls' := #[.val (.int x0), .val (.int x1), .val (.int x2), .val (.int n1), .val (.int n2), .val (.int (1 : Int32)), .val (.int (0 : Int32)), .val (.ref s1), .val (.ref s2), .val (.ref b762), .val (.ref r1), .val (.ref r2), .val (.ref b798), .unset, .unset, .unset]) (pc' := 119) X802 hx hby at_117 rfl rfl rfl ?_
      refine Go.iconst (pc' := 120) X802 hx hby at_119 rfl (v := (0 : Int32)) (by decide) ?_
      refine Go.istore (Ls' := #[.val (.int x0), .val (.int x1), .val (.int x2), .val (.int n1), .val (.int n2), .val (.int (1 : Int32)), .val (.int (0 : Int32)), .val (.ref s1), .val (.ref s2), .val (.ref b762), .val (.ref r1), .val (.ref r2), .val (.ref b798), .val (.int (0 : Int32)), .unset, .unset]) (pc' := 122) X802 hx hby at_120 rfl rfl ?_
      refine Go.iload (pc' := 124) X802 hx hby at_122 rfl rfl ?_
      refine Go.ifN (pc' := 127) X802 hx hby at_124 rfl (show ¬ ((1 : Int32) = 0) from by decide) ?_
      refine Go.aload (pc' := 129) X802 hx hby at_127 rfl rfl rfl ?_
      refine Go.iload (pc' := 131) X802 hx hby at_129 rfl rfl ?_
      refine Go.iinc (w := (0 : Int32) + (1 : Int32)) (Ls' := #[.val (.int x0), .val (.int x1), .val (.int x2), .val (.int n1), .val (.int n2), .val (.int (1 : Int32)), .val (.int (0 : Int32)), .val (.ref s1), .val (.ref s2), .val (.ref b762), .val (.ref r1), .val (.ref r2), .val (.ref b798), .val (.int ((0 : Int32) + (1 : Int32))), .unset, .unset]) (pc' := 134) X802 hx hby at_131 rfl rfl rfl rfl ?_
      change Go p e below _ (T799.setTop (mkF m 134 #[.val (.int x0), .val (.int x1), .val (.int x2), .val (.int n1), .val (.int n2), .val (.int (1 : Int32)), .val (.int (0 : Int32)), .val (.ref s1), .val (.ref s2), .val (.ref b762), .val (.ref r1), .val (.ref r2), .val (.ref b798), .val (.int (1 : Int32)), .unset, .unset] [(.int (0 : Int32)), (.ref b798)]))
      refine Go.bipush (pc' := 136) X802 hx hby at_134 rfl (v := (32 : Int32)) (by decide) ?_
      refine Go.castore (pc' := 137) (i := 0) X802 hx hby hZ9 e803 f813 at_136 rfl (by decide) (by decide) (by decide) ?_
      intro T814 h815 X816 e817 W818 A819
      have f820 : Ar Z h815 r1 .byte (ln1_.toInt + 2) (fun q => .int (Rr1 q)) := f809.other W818 n806
      have f821 : Ar Z h815 r2 .byte (ln1_.toInt + 2) (fun q => .int (Rr2 q)) := f810.other W818 n807
      have z822 : h0.size ≤ h815.size := by rw [Wr.size W818]; exact z811
      have hk823 : k9 ≤ h815.size := by rw [Wr.size W818]; exact hk812
      have f824 : Ar Z h815 b798 .char 10 (fun q => if q = 0 then (.int (nar .char (32 : Int32))) else (.int 0)) := A819
      have N825 : Fr h0.size _ := Fr.snoc X816 (Fr.app (Fr.app (Fr.app (Fr.app (Fr.app (Fr.app (Fr.app (Fr.nil _) N1) N2) N3) Nw0_) Nw1_) Nr1) Nr2) g808
      show Go p e below _ (T814.setTop (mkF m 137 #[.val (.int x0), .val (.int x1), .val (.int x2), .val (.int n1), .val (.int n2), .val (.int (1 : Int32)), .val (.int (0 : Int32)), .val (.ref s1), .val (.ref s2), .val (.ref b762), .val (.ref r1), .val (.ref r2), .val (.ref b798), .val (.int (1 : Int32)), .unset, .unset] []))
      refine Go.cutI (α := State × Heap × List Loc × Int32 × (Int → Int32)) (F := fun y => y.1.setTop (mkF m 190 #[.val (.int x0), .val (.int x1), .val (.int x2), .val (.int n1), .val (.int n2), .val (.int (1 : Int32)), .val (.int (0 : Int32)), .val (.ref s1), .val (.ref s2), .val (.ref b762), .val (.ref r1), .val (.ref r2), .val (.ref b798), .val (.int y.2.2.2.1), .unset, .unset] [])) (I := fun y => (Stand p l e room_1 (s.setVm T9.vm) m #[(.int x0), (.int x1), (.int x2)] below meth c y.1 y.2.2.1 19 1182) ∧ (y.1.heap = y.2.1) ∧ (Fr h0.size y.2.2.1) ∧ (h0.size ≤ y.2.1.size) ∧ (k9 ≤ y.2.1.size) ∧ (y.2.2.2.1.toInt = (1 + n1.toInt)) ∧ (Ar Z y.2.1 b798 .char 10 (fun q => .int (y.2.2.2.2 q))) ∧ (∀ q : Int, 0 ≤ q → q < y.2.2.2.1.toInt → y.2.2.2.2 q = own_t1 x0 q) ∧ (Ar Z y.2.1 r1 .byte (ln1_.toInt + 2) (fun q => .int (Rr1 q))) ∧ (Ar Z y.2.1 r2 .byte (ln1_.toInt + 2) (fun q => .int (Rr2 q)))) ?_ ?_
      ·
        rintro ⟨T826, h827, L828, tl, Tt⟩ ⟨X829, e830, N831, z832, hk833, ht, At, ct, Ra, Rb⟩
        dsimp only at X829 e830 N831 z832 hk833 ht At ct Ra Rb
        show Go p e below _ (T826.setTop (mkF m 190 #[.val (.int x0), .val (.int x1), .val (.int x2), .val (.int n1), .val (.int n2), .val (.int (1 : Int32)), .val (.int (0 : Int32)), .val (.ref s1), .val (.ref s2), .val (.ref b762), .val (.ref r1), .val (.ref r2), .val (.ref b798), .val (.int tl), .unset, .unset] []))
        show Go p e below _ (T826.setTop (mkF m 190 #[.val (.int x0), .val (.int x1), .val (.int x2), .val (.int n1), .val (.int n2), .val (.int (1 : Int32)), .val (.int (0 : Int32)), .val (.ref s1), .val (.ref s2), .val (.ref b762), .val (.ref r1), .val (.ref r2), .val (.ref b798), .val (.int tl), .unset, .unset] []))
        refine Go.iload (pc' := 192) X829 hx hby at_190 rfl rfl ?_
        refine Go.ifY (pc' := 270) X829 hx hby at_192 (by decide) (by decide) (show (0 : Int32) = 0 from by decide) ?_
        show Go p e below _ (T826.setTop (mkF m 270 #[.val (.int x0), .val (.int x1), .val (.int x2), .val (.int n1), .val (.int n2), .val (.int (1 : Int32)), .val (.int (0 : Int32)), .val (.ref s1), .val (.ref s2), .val (.ref b762), .val (.ref r1), .val (.ref r2), .val (.ref b798), .val (.int tl), .unset, .unset] []))
        have tb : 0 ≤ tl.toInt ∧ tl.toInt ≤ 8 := by omega
        have e1_ : (tl + 1).toInt = tl.toInt + 1 := by rw [own_add tl 1 (by omega) (by omega) (by decide) (by decide), own_1]
        have e2_ : (tl + 1 + 1).toInt = tl.toInt + 2 := by rw [own_add _ 1 (by omega) (by omega) (by decide) (by decide), own_1]; omega
        have el : (ln1_ + 2).toInt = ln1_.toInt + 2 := by rw [own_add ln1_ 2 (by omega) (by omega) (by decide) (by decide), own_2]
        refine Go.aload (pc' := 272) X829 hx hby at_270 rfl rfl rfl ?_
        refine Go.iload (pc' := 274) X829 hx hby at_272 rfl rfl ?_
        refine Go.iinc (w := tl + (1 : Int32)) (Ls' := #[.val (.int x0), .val (.int x1), .val (.int x2), .val (.int n1), .val (.int n2), .val (.int (1 : Int32)), .val (.int (0 : Int32)), .val (.ref s1), .val (.ref s2), .val (.ref b762), .val (.ref r1), .val (.ref r2), .val (.ref b798), .val (.int (tl + (1 : Int32))), .unset, .unset]) (pc' := 277) X829 hx hby at_274 rfl rfl rfl rfl ?_
        refine Go.bipush (pc' := 279) X829 hx hby at_277 rfl (v := (13 : Int32)) (by decide) ?_
        refine Go.castore (pc' := 280) (i := tl.toInt) X829 hx hby hZ9 e830 At at_279 rfl rfl (by omega) (by omega) ?_
        intro T834 h835 X836 e837 W838 A839
        have f840 : Ar Z h835 r1 .byte (ln1_.toInt + 2) (fun q => .int (Rr1 q)) := Ra.other W838 n806
        have f841 : Ar Z h835 r2 .byte (ln1_.toInt + 2) (fun q => .int (Rr2 q)) := Rb.other W838 n807
        have z842 : h0.size ≤ h835.size := by rw [Wr.size W838]; exact z832
        have hk843 : k9 ≤ h835.size := by rw [Wr.size W838]; exact hk833
        have f844 : Ar Z h835 b798 .char 10 (fun q => if q = tl.toInt then (.int (nar .char (13 : Int32))) else .int (Tt q)) := A839
        have N845 : Fr h0.size _ := Fr.snoc X836 N831 g808
        show Go p e below _ (T834.setTop (mkF m 280 #[.val (.int x0), .val (.int x1), .val (.int x2), .val (.int n1), .val (.int n2), .val (.int (1 : Int32)), .val (.int (0 : Int32)), .val (.ref s1), .val (.ref s2), .val (.ref b762), .val (.ref r1), .val (.ref r2), .val (.ref b798), .val (.int (tl + (1 : Int32))), .unset, .unset] []))
        refine Go.aload (pc' := 282) X836 hx hby at_280 rfl rfl rfl ?_
        refine Go.iload (pc' := 284) X836 hx hby at_282 rfl rfl ?_
        refine Go.iinc (w := (tl + (1 : Int32)) + (1 : Int32)) (Ls' := #[.val (.int x0), .val (.int x1), .val (.int x2), .val (.int n1), .val (.int n2), .val (.int (1 : Int32)), .val (.int (0 : Int32)), .val (.ref s1), .val (.ref s2), .val (.ref b762), .val (.ref r1), .val (.ref r2), .val (.ref b798), .val (.int ((tl + (1 : Int32)) + (1 : Int32))), .unset, .unset]) (pc' := 287) X836 hx hby at_284 rfl rfl rfl rfl ?_
        refine Go.bipush (pc' := 289) X836 hx hby at_287 rfl (v := (10 : Int32)) (by decide) ?_
        refine Go.castore (pc' := 290) (i := (tl.toInt + 1)) X836 hx hby hZ9 e837 f844 at_289 rfl e1_ (by omega) (by omega) ?_
        intro T846 h847 X848 e849 W850 A851
        have f852 : Ar Z h847 r1 .byte (ln1_.toInt + 2) (fun q => .int (Rr1 q)) := f840.other W850 n806
        have f853 : Ar Z h847 r2 .byte (ln1_.toInt + 2) (fun q => .int (Rr2 q)) := f841.other W850 n807
        have z854 : h0.size ≤ h847.size := by rw [Wr.size W850]; exact z842
        have hk855 : k9 ≤ h847.size := by rw [Wr.size W850]; exact hk843
        have f856 : Ar Z h847 b798 .char 10 (fun q => if q = (tl.toInt + 1) then (.int (nar .char (10 : Int32))) else if q = tl.toInt then (.int (nar .char (13 : Int32))) else .int (Tt q)) := A851
        have N857 : Fr h0.size _ := Fr.snoc X848 N845 g808
        show Go p e below _ (T846.setTop (mkF m 290 #[.val (.int x0), .val (.int x1), .val (.int x2), .val (.int n1), .val (.int n2), .val (.int (1 : Int32)), .val (.int (0 : Int32)), .val (.ref s1), .val (.ref s2), .val (.ref b762), .val (.ref r1), .val (.ref r2), .val (.ref b798), .val (.int ((tl + (1 : Int32)) + (1 : Int32))), .unset, .unset] []))
        have f858 : Ar Z h847 b798 .char 10 (fun q => .int ((fun q => if q = tl.toInt + 1 then 10 else if q = tl.toInt then 13 else Tt q) q)) := f856.congr (fun i h1 h2 => by simp only [apply_ite Value.int, own_nc7 (own_ckr x0 _), own_nc7 (own_ckr x1 _), own_nc32, own_nc13, own_nc10])
        refine Go.iload (pc' := 292) X848 hx hby at_290 rfl rfl ?_
        refine Go.ifN (pc' := 295) X848 hx hby at_292 rfl (show ¬ ((1 : Int32) = 0) from by decide) ?_
        refine Go.bipush (pc' := 297) X848 hx hby at_295 rfl (v := (61 : Int32)) (by decide) ?_
        refine Go.goto (pc' := 301) X848 hx hby at_297 (by decide) (by decide) ?_
        refine Go.istore (Ls' := #[.val (.int x0), .val (.int x1), .val (.int x2), .val (.int n1), .val (.int n2), .val (.int (1 : Int32)), .val (.int (0 : Int32)), .val (.ref s1), .val (.ref s2), .val (.ref b762), .val (.ref r1), .val (.ref r2), .val (.ref b798), .val (.int ((tl + (1 : Int32)) + (1 : Int32))), .val (.int (61 : Int32)), .unset]) (pc' := 303) X848 hx hby at_301 rfl rfl ?_
        refine Go.aload (pc' := 305) X848 hx hby at_303 rfl rfl rfl ?_
        refine Go.alen (pc' := 306) (zv := ln1_ + 2) X848 hx hby hZ9 e849 f852 at_305 rfl el ?_
        refine Go.iload (pc' := 308) X848 hx hby at_306 rfl rfl ?_
        refine Go.iload (pc' := 310) X848 hx hby at_308 rfl rfl ?_
        refine Go.iadd (pc' := 311) X848 hx hby at_310 rfl ?_
        have eo : ((61 : Int32) + (tl + 1 + 1)).toInt = 61 + (tl.toInt + 2) := by rw [own_add _ _ (by decide) (by decide) (by omega) (by omega), e2_, v61]
        refine Go.icmpY (pc' := 316) X848 hx hby at_311 (by decide) (by decide) (show (ln1_ + 2) = ((61 : Int32) + ((tl + (1 : Int32)) + (1 : Int32))) from Int32.toInt_inj.mp (by rw [el]; refine Eq.trans ?_ eo.symm; omega)) ?_
        have hQ : ∀ j : Int, 0 ≤ j → j < (tl + 1 + 1).toInt → Rr1 ((61 : Int32).toInt + j) = (fun q => if q = tl.toInt + 1 then 10 else if q = tl.toInt then 13 else Tt q) j ∧ Own7 ((fun q => if q = tl.toInt + 1 then 10 else if q = tl.toInt then 13 else Tt q) j) := by
          intro j h1 h2
          rw [e2_] at h2; rw [v61]; dsimp only
          by_cases g1 : j = tl.toInt + 1
          · rw [if_pos g1]; refine ⟨?_, by decide⟩; rw [← rm1]; congr 1; omega
          · rw [if_neg g1]
            by_cases g2 : j = tl.toInt
            · rw [if_pos g2]; refine ⟨?_, by decide⟩; rw [← rl1]; congr 1; omega
            · rw [if_neg g2, ct j h1 (by omega), cr1 _ (by omega), c1s j h1 (by omega)]; exact ⟨rfl, (own_t17 x0) j⟩
        refine Go.aload (pc' := 318) X848 hx hby at_316 rfl rfl rfl ?_
        refine Go.iload (pc' := 320) X848 hx hby at_318 rfl rfl ?_
        refine Go.aload (pc' := 322) X848 hx hby at_320 rfl rfl rfl ?_
        refine Go.iload (pc' := 324) X848 hx hby at_322 rfl rfl ?_
        refine Go.iconst (pc' := 325) X848 hx hby at_324 rfl (v := (0 : Int32)) (by decide) ?_
        refine Go.callS (pc' := 328) (W := 0) (argsL := [(.ref r1), (.int (61 : Int32)), (.ref b798), (.int ((tl + (1 : Int32)) + (1 : Int32))), (.int (0 : Int32))]) (rest := []) X848 hx hby hZ9 ho9 (hw _ (List.mem_of_getElem? (i := 113) rfl)) (hw _ (List.mem_of_getElem? (i := 114) rfl)) (hw _ (List.mem_of_getElem? (i := 2) rfl)) (hw _ (List.mem_of_getElem? (i := 115) rfl)) (by decide) (rmSA l Z a0 hw r1 (61 : Int32) b798 (tl + 1 + 1) 0 h847 (ln1_.toInt + 2) 10 Rr1 (fun q => if q = tl.toInt + 1 then 10 else if q = tl.toInt then 13 else Tt q) f852 f858 (by decide) (by decide) (by decide) (by decide) (by rw [e2_, v61]; omega) (by rw [e2_]; omega) (fun h => hQ _ (by decide) h)) e849 (by decide) (by decide) (by rw [hml]; rfl) pd_20 rfl rfl rfl (Nat.le_of_eq rfl) at_325 rfl (by decide) (by decide) ?_
        rintro r860 T861 L862 X863 ⟨rfl, rfl, e859⟩
        rw [List.append_nil] at X863
        show Go p e below _ (T861.setTop (mkF m 328 #[.val (.int x0), .val (.int x1), .val (.int x2), .val (.int n1), .val (.int n2), .val (.int (1 : Int32)), .val (.int (0 : Int32)), .val (.ref s1), .val (.ref s2), .val (.ref b762), .val (.ref r1), .val (.ref r2), .val (.ref b798), .val (.int ((tl + (1 : Int32)) + (1 : Int32))), .val (.int (61 : Int32)), .unset] [(.int (1 : Int32))]))
        refine Go.ifN (pc' := 331) X863 hx hby at_328 rfl (show ¬ ((1 : Int32) = 0) from by decide) ?_
        refine Go.aload (pc' := 333) X863 hx hby at_331 rfl rfl rfl ?_
        refine Go.iload (pc' := 335) X863 hx hby at_333 rfl rfl ?_
        refine Go.aload (pc' := 337) X863 hx hby at_335 rfl rfl rfl ?_
        refine Go.iload (pc' := 339) X863 hx hby at_337 rfl rfl ?_
        refine Go.iconst (pc' := 340) X863 hx hby at_339 rfl (v := (1 : Int32)) (by decide) ?_
        refine Go.callS (pc' := 343) (W := 0) (argsL := [(.ref r1), (.int (61 : Int32)), (.ref b798), (.int ((tl + (1 : Int32)) + (1 : Int32))), (.int (1 : Int32))]) (rest := []) X863 hx hby hZ9 ho9 (hw _ (List.mem_of_getElem? (i := 113) rfl)) (hw _ (List.mem_of_getElem? (i := 114) rfl)) (hw _ (List.mem_of_getElem? (i := 2) rfl)) (hw _ (List.mem_of_getElem? (i := 115) rfl)) (by decide) (rmSA l Z a0 hw r1 (61 : Int32) b798 (tl + 1 + 1) 1 h847 (ln1_.toInt + 2) 10 Rr1 (fun q => if q = tl.toInt + 1 then 10 else if q = tl.toInt then 13 else Tt q) f852 f858 (by decide) (by decide) (by decide) (by decide) (by rw [e2_, v61]; omega) (by rw [e2_]; omega) (fun h => hQ _ (by decide) h)) e859 (by decide) (by decide) (by rw [hml]; rfl) pd_20 rfl rfl rfl (Nat.le_of_eq rfl) at_340 rfl (by decide) (by decide) ?_
        rintro r865 T866 L867 X868 ⟨rfl, rfl, e864⟩
        rw [List.append_nil] at X868
        show Go p e below _ (T866.setTop (mkF m 343 #[.val (.int x0), .val (.int x1), .val (.int x2), .val (.int n1), .val (.int n2), .val (.int (1 : Int32)), .val (.int (0 : Int32)), .val (.ref s1), .val (.ref s2), .val (.ref b762), .val (.ref r1), .val (.ref r2), .val (.ref b798), .val (.int ((tl + (1 : Int32)) + (1 : Int32))), .val (.int (61 : Int32)), .unset] [(.int (1 : Int32))]))
        refine Go.ifN (pc' := 346) X868 hx hby at_343 rfl (show ¬ ((1 : Int32) = 0) from by decide) ?_
        refine Go.aload (pc' := 348) X868 hx hby at_346 rfl rfl rfl ?_
        refine Go.iload (pc' := 350) X868 hx hby at_348 rfl rfl ?_
        refine Go.aload (pc' := 352) X868 hx hby at_350 rfl rfl rfl ?_
        refine Go.iload (pc' := 354) X868 hx hby at_352 rfl rfl ?_
        refine Go.iconst (pc' := 355) X868 hx hby at_354 rfl (v := (2 : Int32)) (by decide) ?_
        refine Go.callS (pc' := 358) (W := 0) (argsL := [(.ref r1), (.int (61 : Int32)), (.ref b798), (.int ((tl + (1 : Int32)) + (1 : Int32))), (.int (2 : Int32))]) (rest := []) X868 hx hby hZ9 ho9 (hw _ (List.mem_of_getElem? (i := 113) rfl)) (hw _ (List.mem_of_getElem? (i := 114) rfl)) (hw _ (List.mem_of_getElem? (i := 2) rfl)) (hw _ (List.mem_of_getElem? (i := 115) rfl)) (by decide) (rmSA l Z a0 hw r1 (61 : Int32) b798 (tl + 1 + 1) 2 h847 (ln1_.toInt + 2) 10 Rr1 (fun q => if q = tl.toInt + 1 then 10 else if q = tl.toInt then 13 else Tt q) f852 f858 (by decide) (by decide) (by decide) (by decide) (by rw [e2_, v61]; omega) (by rw [e2_]; omega) (fun h => hQ _ (by decide) h)) e864 (by decide) (by decide) (by rw [hml]; rfl) pd_20 rfl rfl rfl (Nat.le_of_eq rfl) at_355 rfl (by decide) (by decide) ?_
        rintro r870 T871 L872 X873 ⟨rfl, rfl, e869⟩
        rw [List.append_nil] at X873
        show Go p e below _ (T871.setTop (mkF m 358 #[.val (.int x0), .val (.int x1), .val (.int x2), .val (.int n1), .val (.int n2), .val (.int (1 : Int32)), .val (.int (0 : Int32)), .val (.ref s1), .val (.ref s2), .val (.ref b762), .val (.ref r1), .val (.ref r2), .val (.ref b798), .val (.int ((tl + (1 : Int32)) + (1 : Int32))), .val (.int (61 : Int32)), .unset] [(.int (1 : Int32))]))
        refine Go.ifN (pc' := 361) X873 hx hby at_358 rfl (show ¬ ((1 : Int32) = 0) from by decide) ?_
        refine Go.aload (pc' := 363) X873 hx hby at_361 rfl rfl rfl ?_
        refine Go.iload (pc' := 365) X873 hx hby at_363 rfl rfl ?_
        refine Go.aload (pc' := 367) X873 hx hby at_365 rfl rfl rfl ?_
        refine Go.iload (pc' := 369) X873 hx hby at_367 rfl rfl ?_
        refine Go.iconst (pc' := 370) X873 hx hby at_369 rfl (v := (3 : Int32)) (by decide) ?_
        refine Go.callS (pc' := 373) (W := 0) (argsL := [(.ref r1), (.int (61 : Int32)), (.ref b798), (.int ((tl + (1 : Int32)) + (1 : Int32))), (.int (3 : Int32))]) (rest := []) X873 hx hby hZ9 ho9 (hw _ (List.mem_of_getElem? (i := 113) rfl)) (hw _ (List.mem_of_getElem? (i := 114) rfl)) (hw _ (List.mem_of_getElem? (i := 2) rfl)) (hw _ (List.mem_of_getElem? (i := 115) rfl)) (by decide) (rmSA l Z a0 hw r1 (61 : Int32) b798 (tl + 1 + 1) 3 h847 (ln1_.toInt + 2) 10 Rr1 (fun q => if q = tl.toInt + 1 then 10 else if q = tl.toInt then 13 else Tt q) f852 f858 (by decide) (by decide) (by decide) (by decide) (by rw [e2_, v61]; omega) (by rw [e2_]; omega) (fun h => hQ _ (by decide) h)) e869 (by decide) (by decide) (by rw [hml]; rfl) pd_20 rfl rfl rfl (Nat.le_of_eq rfl) at_370 rfl (by decide) (by decide) ?_
        rintro r875 T876 L877 X878 ⟨rfl, rfl, e874⟩
        rw [List.append_nil] at X878
        show Go p e below _ (T876.setTop (mkF m 373 #[.val (.int x0), .val (.int x1), .val (.int x2), .val (.int n1), .val (.int n2), .val (.int (1 : Int32)), .val (.int (0 : Int32)), .val (.ref s1), .val (.ref s2), .val (.ref b762), .val (.ref r1), .val (.ref r2), .val (.ref b798), .val (.int ((tl + (1 : Int32)) + (1 : Int32))), .val (.int (61 : Int32)), .unset] [(.int (1 : Int32))]))
        refine Go.ifN (pc' := 376) X878 hx hby at_373 rfl (show ¬ ((1 : Int32) = 0) from by decide) ?_
        refine Go.aload (pc' := 378) X878 hx hby at_376 rfl rfl rfl ?_
        refine Go.iload (pc' := 380) X878 hx hby at_378 rfl rfl ?_
        refine Go.aload (pc' := 382) X878 hx hby at_380 rfl rfl rfl ?_
        refine Go.iload (pc' := 384) X878 hx hby at_382 rfl rfl ?_
        refine Go.iconst (pc' := 385) X878 hx hby at_384 rfl (v := (4 : Int32)) (by decide) ?_
        refine Go.callS (pc' := 388) (W := 0) (argsL := [(.ref r1), (.int (61 : Int32)), (.ref b798), (.int ((tl + (1 : Int32)) + (1 : Int32))), (.int (4 : Int32))]) (rest := []) X878 hx hby hZ9 ho9 (hw _ (List.mem_of_getElem? (i := 113) rfl)) (hw _ (List.mem_of_getElem? (i := 114) rfl)) (hw _ (List.mem_of_getElem? (i := 2) rfl)) (hw _ (List.mem_of_getElem? (i := 115) rfl)) (by decide) (rmSA l Z a0 hw r1 (61 : Int32) b798 (tl + 1 + 1) 4 h847 (ln1_.toInt + 2) 10 Rr1 (fun q => if q = tl.toInt + 1 then 10 else if q = tl.toInt then 13 else Tt q) f852 f858 (by decide) (by decide) (by decide) (by decide) (by rw [e2_, v61]; omega) (by rw [e2_]; omega) (fun h => hQ _ (by decide) h)) e874 (by decide) (by decide) (by rw [hml]; rfl) pd_20 rfl rfl rfl (Nat.le_of_eq rfl) at_385 rfl (by decide) (by decide) ?_
        rintro r880 T881 L882 X883 ⟨rfl, rfl, e879⟩
        rw [List.append_nil] at X883
        show Go p e below _ (T881.setTop (mkF m 388 #[.val (.int x0), .val (.int x1), .val (.int x2), .val (.int n1), .val (.int n2), .val (.int (1 : Int32)), .val (.int (0 : Int32)), .val (.ref s1), .val (.ref s2), .val (.ref b762), .val (.ref r1), .val (.ref r2), .val (.ref b798), .val (.int ((tl + (1 : Int32)) + (1 : Int32))), .val (.int (61 : Int32)), .unset] [(.int (1 : Int32))]))
        refine Go.ifN (pc' := 391) X883 hx hby at_388 rfl (show ¬ ((1 : Int32) = 0) from by decide) ?_
        refine Go.aload (pc' := 393) X883 hx hby at_391 rfl rfl rfl ?_
        refine Go.iload (pc' := 395) X883 hx hby at_393 rfl rfl ?_
        refine Go.aload (pc' := 397) X883 hx hby at_395 rfl rfl rfl ?_
        refine Go.iload (pc' := 399) X883 hx hby at_397 rfl rfl ?_
        refine Go.iconst (pc' := 400) X883 hx hby at_399 rfl (v := (5 : Int32)) (by decide) ?_
        refine Go.callS (pc' := 403) (W := 0) (argsL := [(.ref r1), (.int (61 : Int32)), (.ref b798), (.int ((tl + (1 : Int32)) + (1 : Int32))), (.int (5 : Int32))]) (rest := []) X883 hx hby hZ9 ho9 (hw _ (List.mem_of_getElem? (i := 113) rfl)) (hw _ (List.mem_of_getElem? (i := 114) rfl)) (hw _ (List.mem_of_getElem? (i := 2) rfl)) (hw _ (List.mem_of_getElem? (i := 115) rfl)) (by decide) (rmSA l Z a0 hw r1 (61 : Int32) b798 (tl + 1 + 1) 5 h847 (ln1_.toInt + 2) 10 Rr1 (fun q => if q = tl.toInt + 1 then 10 else if q = tl.toInt then 13 else Tt q) f852 f858 (by decide) (by decide) (by decide) (by decide) (by rw [e2_, v61]; omega) (by rw [e2_]; omega) (fun h => hQ _ (by decide) h)) e879 (by decide) (by decide) (by rw [hml]; rfl) pd_20 rfl rfl rfl (Nat.le_of_eq rfl) at_400 rfl (by decide) (by decide) ?_
        rintro r885 T886 L887 X888 ⟨rfl, rfl, e884⟩
        rw [List.append_nil] at X888
        show Go p e below _ (T886.setTop (mkF m 403 #[.val (.int x0), .val (.int x1), .val (.int x2), .val (.int n1), .val (.int n2), .val (.int (1 : Int32)), .val (.int (0 : Int32)), .val (.ref s1), .val (.ref s2), .val (.ref b762), .val (.ref r1), .val (.ref r2), .val (.ref b798), .val (.int ((tl + (1 : Int32)) + (1 : Int32))), .val (.int (61 : Int32)), .unset] [(.int (1 : Int32))]))
        refine Go.ifN (pc' := 406) X888 hx hby at_403 rfl (show ¬ ((1 : Int32) = 0) from by decide) ?_
        refine Go.aload (pc' := 408) X888 hx hby at_406 rfl rfl rfl ?_
        refine Go.iload (pc' := 410) X888 hx hby at_408 rfl rfl ?_
        refine Go.aload (pc' := 412) X888 hx hby at_410 rfl rfl rfl ?_
        refine Go.iload (pc' := 414) X888 hx hby at_412 rfl rfl ?_
        refine Go.bipush (pc' := 416) X888 hx hby at_414 rfl (v := (6 : Int32)) (by decide) ?_
        refine Go.callS (pc' := 419) (W := 0) (argsL := [(.ref r1), (.int (61 : Int32)), (.ref b798), (.int ((tl + (1 : Int32)) + (1 : Int32))), (.int (6 : Int32))]) (rest := []) X888 hx hby hZ9 ho9 (hw _ (List.mem_of_getElem? (i := 113) rfl)) (hw _ (List.mem_of_getElem? (i := 114) rfl)) (hw _ (List.mem_of_getElem? (i := 2) rfl)) (hw _ (List.mem_of_getElem? (i := 115) rfl)) (by decide) (rmSA l Z a0 hw r1 (61 : Int32) b798 (tl + 1 + 1) 6 h847 (ln1_.toInt + 2) 10 Rr1 (fun q => if q = tl.toInt + 1 then 10 else if q = tl.toInt then 13 else Tt q) f852 f858 (by decide) (by decide) (by decide) (by decide) (by rw [e2_, v61]; omega) (by rw [e2_]; omega) (fun h => hQ _ (by decide) h)) e884 (by decide) (by decide) (by rw [hml]; rfl) pd_20 rfl rfl rfl (Nat.le_of_eq rfl) at_416 rfl (by decide) (by decide) ?_
        rintro r890 T891 L892 X893 ⟨rfl, rfl, e889⟩
        rw [List.append_nil] at X893
        show Go p e below _ (T891.setTop (mkF m 419 #[.val (.int x0), .val (.int x1), .val (.int x2), .val (.int n1), .val (.int n2), .val (.int (1 : Int32)), .val (.int (0 : Int32)), .val (.ref s1), .val (.ref s2), .val (.ref b762), .val (.ref r1), .val (.ref r2), .val (.ref b798), .val (.int ((tl + (1 : Int32)) + (1 : Int32))), .val (.int (61 : Int32)), .unset] [(.int (1 : Int32))]))
        refine Go.ifN (pc' := 422) X893 hx hby at_419 rfl (show ¬ ((1 : Int32) = 0) from by decide) ?_
        refine Go.aload (pc' := 424) X893 hx hby at_422 rfl rfl rfl ?_
        refine Go.iload (pc' := 426) X893 hx hby at_424 rfl rfl ?_
        refine Go.aload (pc' := 428) X893 hx hby at_426 rfl rfl rfl ?_
        refine Go.iload (pc' := 430) X893 hx hby at_428 rfl rfl ?_
        refine Go.bipush (pc' := 432) X893 hx hby at_430 rfl (v := (7 : Int32)) (by decide) ?_
        refine Go.callS (pc' := 435) (W := 0) (argsL := [(.ref r1), (.int (61 : Int32)), (.ref b798), (.int ((tl + (1 : Int32)) + (1 : Int32))), (.int (7 : Int32))]) (rest := []) X893 hx hby hZ9 ho9 (hw _ (List.mem_of_getElem? (i := 113) rfl)) (hw _ (List.mem_of_getElem? (i := 114) rfl)) (hw _ (List.mem_of_getElem? (i := 2) rfl)) (hw _ (List.mem_of_getElem? (i := 115) rfl)) (by decide) (rmSA l Z a0 hw r1 (61 : Int32) b798 (tl + 1 + 1) 7 h847 (ln1_.toInt + 2) 10 Rr1 (fun q => if q = tl.toInt + 1 then 10 else if q = tl.toInt then 13 else Tt q) f852 f858 (by decide) (by decide) (by decide) (by decide) (by rw [e2_, v61]; omega) (by rw [e2_]; omega) (fun h => hQ _ (by decide) h)) e889 (by decide) (by decide) (by rw [hml]; rfl) pd_20 rfl rfl rfl (Nat.le_of_eq rfl) at_432 rfl (by decide) (by decide) ?_
        rintro r895 T896 L897 X898 ⟨rfl, rfl, e894⟩
        rw [List.append_nil] at X898
        show Go p e below _ (T896.setTop (mkF m 435 #[.val (.int x0), .val (.int x1), .val (.int x2), .val (.int n1), .val (.int n2), .val (.int (1 : Int32)), .val (.int (0 : Int32)), .val (.ref s1), .val (.ref s2), .val (.ref b762), .val (.ref r1), .val (.ref r2), .val (.ref b798), .val (.int ((tl + (1 : Int32)) + (1 : Int32))), .val (.int (61 : Int32)), .unset] [(.int (1 : Int32))]))
        refine Go.ifN (pc' := 438) X898 hx hby at_435 rfl (show ¬ ((1 : Int32) = 0) from by decide) ?_
        refine Go.aload (pc' := 440) X898 hx hby at_438 rfl rfl rfl ?_
        refine Go.iload (pc' := 442) X898 hx hby at_440 rfl rfl ?_
        refine Go.aload (pc' := 444) X898 hx hby at_442 rfl rfl rfl ?_
        refine Go.iload (pc' := 446) X898 hx hby at_444 rfl rfl ?_
        refine Go.bipush (pc' := 448) X898 hx hby at_446 rfl (v := (8 : Int32)) (by decide) ?_
        refine Go.callS (pc' := 451) (W := 0) (argsL := [(.ref r1), (.int (61 : Int32)), (.ref b798), (.int ((tl + (1 : Int32)) + (1 : Int32))), (.int (8 : Int32))]) (rest := []) X898 hx hby hZ9 ho9 (hw _ (List.mem_of_getElem? (i := 113) rfl)) (hw _ (List.mem_of_getElem? (i := 114) rfl)) (hw _ (List.mem_of_getElem? (i := 2) rfl)) (hw _ (List.mem_of_getElem? (i := 115) rfl)) (by decide) (rmSA l Z a0 hw r1 (61 : Int32) b798 (tl + 1 + 1) 8 h847 (ln1_.toInt + 2) 10 Rr1 (fun q => if q = tl.toInt + 1 then 10 else if q = tl.toInt then 13 else Tt q) f852 f858 (by decide) (by decide) (by decide) (by decide) (by rw [e2_, v61]; omega) (by rw [e2_]; omega) (fun h => hQ _ (by decide) h)) e894 (by decide) (by decide) (by rw [hml]; rfl) pd_20 rfl rfl rfl (Nat.le_of_eq rfl) at_448 rfl (by decide) (by decide) ?_
        rintro r900 T901 L902 X903 ⟨rfl, rfl, e899⟩
        rw [List.append_nil] at X903
        show Go p e below _ (T901.setTop (mkF m 451 #[.val (.int x0), .val (.int x1), .val (.int x2), .val (.int n1), .val (.int n2), .val (.int (1 : Int32)), .val (.int (0 : Int32)), .val (.ref s1), .val (.ref s2), .val (.ref b762), .val (.ref r1), .val (.ref r2), .val (.ref b798), .val (.int ((tl + (1 : Int32)) + (1 : Int32))), .val (.int (61 : Int32)), .unset] [(.int (1 : Int32))]))
        refine Go.ifN (pc' := 454) X903 hx hby at_451 rfl (show ¬ ((1 : Int32) = 0) from by decide) ?_
        refine Go.aload (pc' := 456) X903 hx hby at_454 rfl rfl rfl ?_
        refine Go.iload (pc' := 458) X903 hx hby at_456 rfl rfl ?_
        refine Go.aload (pc' := 460) X903 hx hby at_458 rfl rfl rfl ?_
        refine Go.iload (pc' := 462) X903 hx hby at_460 rfl rfl ?_
        refine Go.bipush (pc' := 464) X903 hx hby at_462 rfl (v := (9 : Int32)) (by decide) ?_
        refine Go.callS (pc' := 467) (W := 0) (argsL := [(.ref r1), (.int (61 : Int32)), (.ref b798), (.int ((tl + (1 : Int32)) + (1 : Int32))), (.int (9 : Int32))]) (rest := []) X903 hx hby hZ9 ho9 (hw _ (List.mem_of_getElem? (i := 113) rfl)) (hw _ (List.mem_of_getElem? (i := 114) rfl)) (hw _ (List.mem_of_getElem? (i := 2) rfl)) (hw _ (List.mem_of_getElem? (i := 115) rfl)) (by decide) (rmSA l Z a0 hw r1 (61 : Int32) b798 (tl + 1 + 1) 9 h847 (ln1_.toInt + 2) 10 Rr1 (fun q => if q = tl.toInt + 1 then 10 else if q = tl.toInt then 13 else Tt q) f852 f858 (by decide) (by decide) (by decide) (by decide) (by rw [e2_, v61]; omega) (by rw [e2_]; omega) (fun h => hQ _ (by decide) h)) e899 (by decide) (by decide) (by rw [hml]; rfl) pd_20 rfl rfl rfl (Nat.le_of_eq rfl) at_464 rfl (by decide) (by decide) ?_
        rintro r905 T906 L907 X908 ⟨rfl, rfl, e904⟩
        rw [List.append_nil] at X908
        show Go p e below _ (T906.setTop (mkF m 467 #[.val (.int x0), .val (.int x1), .val (.int x2), .val (.int n1), .val (.int n2), .val (.int (1 : Int32)), .val (.int (0 : Int32)), .val (.ref s1), .val (.ref s2), .val (.ref b762), .val (.ref r1), .val (.ref r2), .val (.ref b798), .val (.int ((tl + (1 : Int32)) + (1 : Int32))), .val (.int (61 : Int32)), .unset] [(.int (1 : Int32))]))
        refine Go.ifN (pc' := 470) X908 hx hby at_467 rfl (show ¬ ((1 : Int32) = 0) from by decide) ?_
        refine Go.iconst (pc' := 471) X908 hx hby at_470 rfl (v := (1 : Int32)) (by decide) ?_
        refine Go.goto (pc' := 475) X908 hx hby at_471 (by decide) (by decide) ?_
        refine Go.istore (Ls' := #[.val (.int x0), .val (.int x1), .val (.int x2), .val (.int n1), .val (.int n2), .val (.int (1 : Int32)), .val (.int (0 : Int32)), .val (.ref s1), .val (.ref s2), .val (.ref b762), .val (.ref r1), .val (.ref r2), .val (.ref b798), .val (.int ((tl + (1 : Int32)) + (1 : Int32))), .val (.int (61 : Int32)), .val (.int (1 : Int32))]) (pc' := 477) X908 hx hby at_475 rfl rfl ?_
        refine Go.iload (pc' := 479) X908 hx hby at_477 rfl rfl ?_
        refine Go.ifN (pc' := 482) X908 hx hby at_479 rfl (show ¬ ((1 : Int32) = 0) from by decide) ?_
        refine Go.iload (pc' := 484) X908 hx hby at_482 rfl rfl ?_
        refine Go.ifN (pc' := 487) X908 hx hby at_484 rfl (show ¬ ((1 : Int32) = 0) from by decide) ?_
        refine Go.aload (pc' := 489) X908 hx hby at_487 rfl rfl rfl ?_
        refine Go.iconst (pc' := 490) X908 hx hby at_489 rfl (v := (0 : Int32)) (by decide) ?_
        refine Go.baload (pc' := 491) (i := 0) (v := (.int (Rr1 0))) X908 hx hby hZ9 e904 f852 at_490 rfl (by decide) (by decide) (by omega) rfl ?_
        refine Go.bipush (pc' := 493) X908 hx hby at_491 rfl (v := (65 : Int32)) (by decide) ?_
        refine Go.icmpN (pc' := 496) X908 hx hby at_493 rfl (show ¬ ((Rr1 0) ≠ (65 : Int32)) from fun q => q (by rw [cr1 0 (by omega), pfx 0 (by omega) (by omega)]; decide +kernel)) ?_
        refine Go.aload (pc' := 498) X908 hx hby at_496 rfl rfl rfl ?_
        refine Go.bipush (pc' := 500) X908 hx hby at_498 rfl (v := (30 : Int32)) (by decide) ?_
        refine Go.baload (pc' := 501) (i := 30) (v := (.int (Rr1 30))) X908 hx hby hZ9 e904 f852 at_500 rfl (by decide) (by decide) (by omega) rfl ?_
        refine Go.bipush (pc' := 503) X908 hx hby at_501 rfl (v := (101 : Int32)) (by decide) ?_
        refine Go.icmpN (pc' := 506) X908 hx hby at_503 rfl (show ¬ ((Rr1 30) ≠ (101 : Int32)) from fun q => q (by rw [cr1 30 (by omega), pfx 30 (by omega) (by omega)]; decide +kernel)) ?_
        refine Go.aload (pc' := 508) X908 hx hby at_506 rfl rfl rfl ?_
        refine Go.bipush (pc' := 510) X908 hx hby at_508 rfl (v := (60 : Int32)) (by decide) ?_
        refine Go.baload (pc' := 511) (i := 60) (v := (.int (Rr1 60))) X908 hx hby hZ9 e904 f852 at_510 rfl (by decide) (by decide) (by omega) rfl ?_
        refine Go.bipush (pc' := 513) X908 hx hby at_511 rfl (v := (56 : Int32)) (by decide) ?_
        refine Go.icmpN (pc' := 516) X908 hx hby at_513 rfl (show ¬ ((Rr1 60) ≠ (56 : Int32)) from fun q => q (by rw [cr1 60 (by omega), pfx 60 (by omega) (by omega)]; decide +kernel)) ?_
        refine Go.iconst (pc' := 517) X908 hx hby at_516 rfl (v := (1 : Int32)) (by decide) ?_
        refine Go.goto (pc' := 521) X908 hx hby at_517 (by decide) (by decide) ?_
        refine Go.istore (Ls' := #[.val (.int x0), .val (.int x1), .val (.int x2), .val (.int n1), .val (.int n2), .val (.int (1 : Int32)), .val (.int (0 : Int32)), .val (.ref s1), .val (.ref s2), .val (.ref b762), .val (.ref r1), .val (.ref r2), .val (.ref b798), .val (.int ((tl + (1 : Int32)) + (1 : Int32))), .val (.int (61 : Int32)), .val (.int (1 : Int32))]) (pc' := 523) X908 hx hby at_521 rfl rfl ?_
        refine Go.iload (pc' := 525) X908 hx hby at_523 rfl rfl ?_
        refine Go.ifN (pc' := 528) X908 hx hby at_525 rfl (show ¬ ((1 : Int32) = 0) from by decide) ?_
        refine Go.aload (pc' := 530) X908 hx hby at_528 rfl rfl rfl ?_
        refine Go.aload (pc' := 532) X908 hx hby at_530 rfl rfl rfl ?_
        refine Go.acmpN (pc' := 535) X908 hx hby at_532 (by decide) rfl (Ne.symm nr) ?_
        refine Go.aload (pc' := 537) X908 hx hby at_535 rfl rfl rfl ?_
        refine Go.alen (pc' := 538) (zv := ln1_ + 2) X908 hx hby hZ9 e904 f853 at_537 rfl el ?_
        refine Go.aload (pc' := 540) X908 hx hby at_538 rfl rfl rfl ?_
        refine Go.alen (pc' := 541) (zv := ln1_ + 2) X908 hx hby hZ9 e904 f852 at_540 rfl el ?_
        refine Go.icmpN (pc' := 544) X908 hx hby at_541 rfl (show ¬ ((ln1_ + 2) ≠ (ln1_ + 2)) from fun q => q rfl) ?_
        refine Go.aload (pc' := 546) X908 hx hby at_544 rfl rfl rfl ?_
        refine Go.aload (pc' := 548) X908 hx hby at_546 rfl rfl rfl ?_
        refine Go.alen (pc' := 549) (zv := ln1_ + 2) X908 hx hby hZ9 e904 f852 at_548 rfl el ?_
        refine Go.iconst (pc' := 550) X908 hx hby at_549 rfl (v := (2 : Int32)) (by decide) ?_
        refine Go.isub (pc' := 551) X908 hx hby at_550 rfl ?_
        have ea_ : (ln1_ + 2 - 2).toInt = ln1_.toInt := by have q1 := c_isub (ln1_ + 2) 2; have q2 := rng32 (ln1_ + 2 - 2); rw [el, own_2] at q1; omega
        have eb_ : (ln1_ + 2 - 1).toInt = ln1_.toInt + 1 := by have q1 := c_isub (ln1_ + 2) 1; have q2 := rng32 (ln1_ + 2 - 1); rw [el, own_1] at q1; omega
        refine Go.baload (pc' := 552) (i := ln1_.toInt) (v := (.int (Rr2 ln1_.toInt))) X908 hx hby hZ9 e904 f853 at_551 rfl ea_ (by omega) (by omega) rfl ?_
        refine Go.bipush (pc' := 554) X908 hx hby at_552 rfl (v := (13 : Int32)) (by decide) ?_
        refine Go.icmpN (pc' := 557) X908 hx hby at_554 rfl (show ¬ ((Rr2 ln1_.toInt) ≠ (13 : Int32)) from fun q => q rl2) ?_
        refine Go.aload (pc' := 559) X908 hx hby at_557 rfl rfl rfl ?_
        refine Go.aload (pc' := 561) X908 hx hby at_559 rfl rfl rfl ?_
        refine Go.alen (pc' := 562) (zv := ln1_ + 2) X908 hx hby hZ9 e904 f852 at_561 rfl el ?_
        refine Go.iconst (pc' := 563) X908 hx hby at_562 rfl (v := (1 : Int32)) (by decide) ?_
        refine Go.isub (pc' := 564) X908 hx hby at_563 rfl ?_
        refine Go.baload (pc' := 565) (i := (ln1_.toInt + 1)) (v := (.int (Rr2 (ln1_.toInt + 1)))) X908 hx hby hZ9 e904 f853 at_564 rfl eb_ (by omega) (by omega) rfl ?_
        refine Go.bipush (pc' := 567) X908 hx hby at_565 rfl (v := (10 : Int32)) (by decide) ?_
        refine Go.icmpN (pc' := 570) X908 hx hby at_567 rfl (show ¬ ((Rr2 (ln1_.toInt + 1)) ≠ (10 : Int32)) from fun q => q rm2) ?_
        refine Go.iconst (pc' := 571) X908 hx hby at_570 rfl (v := (1 : Int32)) (by decide) ?_
        refine Go.goto (pc' := 575) X908 hx hby at_571 (by decide) (by decide) ?_
        refine Go.istore (Ls' := #[.val (.int x0), .val (.int x1), .val (.int x2), .val (.int n1), .val (.int n2), .val (.int (1 : Int32)), .val (.int (0 : Int32)), .val (.ref s1), .val (.ref s2), .val (.ref b762), .val (.ref r1), .val (.ref r2), .val (.ref b798), .val (.int ((tl + (1 : Int32)) + (1 : Int32))), .val (.int (61 : Int32)), .val (.int (1 : Int32))]) (pc' := 577) X908 hx hby at_575 rfl rfl ?_
        refine Go.iload (pc' := 579) X908 hx hby at_577 rfl rfl ?_
        exact Go.retZW X908 hx hby hlk hret (by simp) at_579 (by decide) (by decide) S9 (by rw [e904]; exact hk855) ⟨rfl, N857⟩
      ·
        intro jn909
        rcases d1 with q | q | q | q
        ·
          subst q
          show Go p e below _ (T814.setTop (mkF m 137 #[.val (.int x0), .val (.int x1), .val (.int x2), .val (.int (0 : Int32)), .val (.int n2), .val (.int (1 : Int32)), .val (.int (0 : Int32)), .val (.ref s1), .val (.ref s2), .val (.ref b762), .val (.ref r1), .val (.ref r2), .val (.ref b798), .val (.int (1 : Int32)), .unset, .unset] []))
          refine Go.iloadN (pc' := 138) X816 hx hby at_137 rfl rfl ?_
          refine Go.ifY (pc' := 154) X816 hx hby at_138 (by decide) (by decide) (show (0 : Int32) ≤ 0 from by decide) ?_
          refine Go.iloadN (pc' := 155) X816 hx hby at_154 rfl rfl ?_
          refine Go.iconst (pc' := 156) X816 hx hby at_155 rfl (v := (1 : Int32)) (by decide) ?_
          refine Go.icmpY (pc' := 172) X816 hx hby at_156 (by decide) (by decide) (show (0 : Int32) ≤ (1 : Int32) from by decide) ?_
          refine Go.iloadN (pc' := 173) X816 hx hby at_172 rfl rfl ?_
          refine Go.iconst (pc' := 174) X816 hx hby at_173 rfl (v := (2 : Int32)) (by decide) ?_
          refine Go.icmpY (pc' := 190) X816 hx hby at_174 (by decide) (by decide) (show (0 : Int32) ≤ (2 : Int32) from by decide) ?_
          have f910 : Ar Z h815 b798 .char 10 (fun q => .int ((fun q => if q = 0 then 32 else 0) q)) := f824.congr (fun i h1 h2 => by simp only [apply_ite Value.int, own_nc7 (own_ckr x0 _), own_nc7 (own_ckr x1 _), own_nc32, own_nc13, own_nc10])
          exact jn909 (T814, h815, _, (1 : Int32), (fun q => if q = 0 then 32 else 0)) ⟨X816, e817, N825, z822, hk823, by (try dsimp only); decide, f910, fun q h1 h2 => by
          have z : (1 : Int32).toInt = 1 := by decide
          (try dsimp only at h2)
          rw [z] at h2
          have t : q = 0 := (by omega)
          rcases t with rfl <;> rfl, f820, f821⟩
        ·
          subst q
          show Go p e below _ (T814.setTop (mkF m 137 #[.val (.int x0), .val (.int x1), .val (.int x2), .val (.int (1 : Int32)), .val (.int n2), .val (.int (1 : Int32)), .val (.int (0 : Int32)), .val (.ref s1), .val (.ref s2), .val (.ref b762), .val (.ref r1), .val (.ref r2), .val (.ref b798), .val (.int (1 : Int32)), .unset, .unset] []))
          refine Go.iloadN (pc' := 138) X816 hx hby at_137 rfl rfl ?_
          refine Go.ifN (pc' := 141) X816 hx hby at_138 rfl (show ¬ ((1 : Int32) ≤ 0) from by decide) ?_
          refine Go.aload (pc' := 143) X816 hx hby at_141 rfl rfl rfl ?_
          refine Go.iload (pc' := 145) X816 hx hby at_143 rfl rfl ?_
          refine Go.iinc (w := (1 : Int32) + (1 : Int32)) (Ls' := #[.val (.int x0), .val (.int x1), .val (.int x2), .val (.int (1 : Int32)), .val (.int n2), .val (.int (1 : Int32)), .val (.int (0 : Int32)), .val (.ref s1), .val (.ref s2), .val (.ref b762), .val (.ref r1), .val (.ref r2), .val (.ref b798), .val (.int ((1 : Int32) + (1 : Int32))), .unset, .unset]) (pc' := 148) X816 hx hby at_145 rfl rfl rfl rfl ?_
          change Go p e below _ (T814.setTop (mkF m 148 #[.val (.int x0), .val (.int x1), .val (.int x2), .val (.int (1 : Int32)), .val (.int n2), .val (.int (1 : Int32)), .val (.int (0 : Int32)), .val (.ref s1), .val (.ref s2), .val (.ref b762), .val (.ref r1), .val (.ref r2), .val (.ref b798), .val (.int (2 : Int32)), .unset, .unset] [(.int (1 : Int32)), (.ref b798)]))
          refine Go.iloadN (pc' := 149) X816 hx hby at_148 rfl rfl ?_
          refine Go.iconst (pc' := 150) X816 hx hby at_149 rfl (v := (0 : Int32)) (by decide) ?_
          refine Go.callS (pc' := 153) (W := 2) (argsL := [(.int x0), (.int (0 : Int32))]) (rest := [(.int (1 : Int32)), (.ref b798)]) X816 hx hby hZ9 ho9 (hw _ (List.mem_of_getElem? (i := 8) rfl)) (hw _ (List.mem_of_getElem? (i := 9) rfl)) (hw _ (List.mem_of_getElem? (i := 2) rfl)) (hw _ (List.mem_of_getElem? (i := 10) rfl)) (by decide) (rmch l Z a0 hw x0 0 h815) e817 (by decide) (by decide) (by rw [hml]; rfl) pd_10 rfl rfl rfl (Nat.le_of_eq rfl) at_150 rfl (by decide) (by decide) ?_
          rintro r912 T913 L914 X915 ⟨rfl, rfl, e911⟩
          rw [List.append_nil] at X915
          show Go p e below _ (T913.setTop (mkF m 153 #[.val (.int x0), .val (.int x1), .val (.int x2), .val (.int (1 : Int32)), .val (.int n2), .val (.int (1 : Int32)), .val (.int (0 : Int32)), .val (.ref s1), .val (.ref s2), .val (.ref b762), .val (.ref r1), .val (.ref r2), .val (.ref b798), .val (.int (2 : Int32)), .unset, .unset] [(.int (own_ck x0 0)), (.int (1 : Int32)), (.ref b798)]))
          refine Go.castore (pc' := 154) (i := 1) X915 hx hby hZ9 e911 f824 at_153 rfl (by decide) (by decide) (by decide) ?_
          intro T916 h917 X918 e919 W920 A921
          have f922 : Ar Z h917 r1 .byte (ln1_.toInt + 2) (fun q => .int (Rr1 q)) := f820.other W920 n806
          have f923 : Ar Z h917 r2 .byte (ln1_.toInt + 2) (fun q => .int (Rr2 q)) := f821.other W920 n807
          have z924 : h0.size ≤ h917.size := by rw [Wr.size W920]; exact z822
          have hk925 : k9 ≤ h917.size := by rw [Wr.size W920]; exact hk823
          have f926 : Ar Z h917 b798 .char 10 (fun q => if q = 1 then (.int (nar .char (own_ck x0 0))) else if q = 0 then (.int (nar .char (32 : Int32))) else (.int 0)) := A921
          have N927 : Fr h0.size _ := Fr.snoc X918 N825 g808
          show Go p e below _ (T916.setTop (mkF m 154 #[.val (.int x0), .val (.int x1), .val (.int x2), .val (.int (1 : Int32)), .val (.int n2), .val (.int (1 : Int32)), .val (.int (0 : Int32)), .val (.ref s1), .val (.ref s2), .val (.ref b762), .val (.ref r1), .val (.ref r2), .val (.ref b798), .val (.int (2 : Int32)), .unset, .unset] []))
          refine Go.iloadN (pc' := 155) X918 hx hby at_154 rfl rfl ?_
          refine Go.iconst (pc' := 156) X918 hx hby at_155 rfl (v := (1 : Int32)) (by decide) ?_
          refine Go.icmpY (pc' := 172) X918 hx hby at_156 (by decide) (by decide) (show (1 : Int32) ≤ (1 : Int32) from by decide) ?_
          refine Go.iloadN (pc' := 173) X918 hx hby at_172 rfl rfl ?_
          refine Go.iconst (pc' := 174) X918 hx hby at_173 rfl (v := (2 : Int32)) (by decide) ?_
          refine Go.icmpY (pc' := 190) X918 hx hby at_174 (by decide) (by decide) (show (1 : Int32) ≤ (2 : Int32) from by decide) ?_
          have f928 : Ar Z h917 b798 .char 10 (fun q => .int ((fun q => if q = 1 then own_ck x0 0 else if q = 0 then 32 else 0) q)) := f926.congr (fun i h1 h2 => by simp only [apply_ite Value.int, own_nc7 (own_ckr x0 _), own_nc7 (own_ckr x1 _), own_nc32, own_nc13, own_nc10])
          exact jn909 (T916, h917, _, (2 : Int32), (fun q => if q = 1 then own_ck x0 0 else if q = 0 then 32 else 0)) ⟨X918, e919, N927, z924, hk925, by (try dsimp only); decide, f928, fun q h1 h2 => by
          have z : (2 : Int32).toInt = 2 := by decide
          (try dsimp only at h2)
          rw [z] at h2
          have t : q = 0 ∨ q = 1 := (by omega)
          rcases t with rfl | rfl <;> rfl, f922, f923⟩
        ·
          subst q
          show Go p e below _ (T814.setTop (mkF m 137 #[.val (.int x0), .val (.int x1), .val (.int x2), .val (.int (2 : Int32)), .val (.int n2), .val (.int (1 : Int32)), .val (.int (0 : Int32)), .val (.ref s1), .val (.ref s2), .val (.ref b762), .val (.ref r1), .val (.ref r2), .val (.ref b798), .val (.int (1 : Int32)), .unset, .unset] []))
          refine Go.iloadN (pc' := 138) X816 hx hby at_137 rfl rfl ?_
          refine Go.ifN (pc' := 141) X816 hx hby at_138 rfl (show ¬ ((2 : Int32) ≤ 0) from by decide) ?_
          refine Go.aload (pc' := 143) X816 hx hby at_141 rfl rfl rfl ?_
          refine Go.iload (pc' := 145) X816 hx hby at_143 rfl rfl ?_
          refine Go.iinc (w := (1 : Int32) + (1 : Int32)) (Ls' := #[.val (.int x0), .val (.int x1), .val (.int x2), .val (.int (2 : Int32)), .val (.int n2), .val (.int (1 : Int32)), .val (.int (0 : Int32)), .val (.ref s1), .val (.ref s2), .val (.ref b762), .val (.ref r1), .val (.ref r2), .val (.ref b798), .val (.int ((1 : Int32) + (1 : Int32))), .unset, .unset]) (pc' := 148) X816 hx hby at_145 rfl rfl rfl rfl ?_
          change Go p e below _ (T814.setTop (mkF m 148 #[.val (.int x0), .val (.int x1), .val (.int x2), .val (.int (2 : Int32)), .val (.int n2), .val (.int (1 : Int32)), .val (.int (0 : Int32)), .val (.ref s1), .val (.ref s2), .val (.ref b762), .val (.ref r1), .val (.ref r2), .val (.ref b798), .val (.int (2 : Int32)), .unset, .unset] [(.int (1 : Int32)), (.ref b798)]))
          refine Go.iloadN (pc' := 149) X816 hx hby at_148 rfl rfl ?_
          refine Go.iconst (pc' := 150) X816 hx hby at_149 rfl (v := (0 : Int32)) (by decide) ?_
          refine Go.callS (pc' := 153) (W := 2) (argsL := [(.int x0), (.int (0 : Int32))]) (rest := [(.int (1 : Int32)), (.ref b798)]) X816 hx hby hZ9 ho9 (hw _ (List.mem_of_getElem? (i := 8) rfl)) (hw _ (List.mem_of_getElem? (i := 9) rfl)) (hw _ (List.mem_of_getElem? (i := 2) rfl)) (hw _ (List.mem_of_getElem? (i := 10) rfl)) (by decide) (rmch l Z a0 hw x0 0 h815) e817 (by decide) (by decide) (by rw [hml]; rfl) pd_10 rfl rfl rfl (Nat.le_of_eq rfl) at_150 rfl (by decide) (by decide) ?_
          rintro r930 T931 L932 X933 ⟨rfl, rfl, e929⟩
          rw [List.append_nil] at X933
          show Go p e below _ (T931.setTop (mkF m 153 #[.val (.int x0), .val (.int x1), .val (.int x2), .val (.int (2 : Int32)), .val (.int n2), .val (.int (1 : Int32)), .val (.int (0 : Int32)), .val (.ref s1), .val (.ref s2), .val (.ref b762), .val (.ref r1), .val (.ref r2), .val (.ref b798), .val (.int (2 : Int32)), .unset, .unset] [(.int (own_ck x0 0)), (.int (1 : Int32)), (.ref b798)]))
          refine Go.castore (pc' := 154) (i := 1) X933 hx hby hZ9 e929 f824 at_153 rfl (by decide) (by decide) (by decide) ?_
          intro T934 h935 X936 e937 W938 A939
          have f940 : Ar Z h935 r1 .byte (ln1_.toInt + 2) (fun q => .int (Rr1 q)) := f820.other W938 n806
          have f941 : Ar Z h935 r2 .byte (ln1_.toInt + 2) (fun q => .int (Rr2 q)) := f821.other W938 n807
          have z942 : h0.size ≤ h935.size := by rw [Wr.size W938]; exact z822
          have hk943 : k9 ≤ h935.size := by rw [Wr.size W938]; exact hk823
          have f944 : Ar Z h935 b798 .char 10 (fun q => if q = 1 then (.int (nar .char (own_ck x0 0))) else if q = 0 then (.int (nar .char (32 : Int32))) else (.int 0)) := A939
          have N945 : Fr h0.size _ := Fr.snoc X936 N825 g808
          show Go p e below _ (T934.setTop (mkF m 154 #[.val (.int x0), .val (.int x1), .val (.int x2), .val (.int (2 : Int32)), .val (.int n2), .val (.int (1 : Int32)), .val (.int (0 : Int32)), .val (.ref s1), .val (.ref s2), .val (.ref b762), .val (.ref r1), .val (.ref r2), .val (.ref b798), .val (.int (2 : Int32)), .unset, .unset] []))
          refine Go.iloadN (pc' := 155) X936 hx hby at_154 rfl rfl ?_
          refine Go.iconst (pc' := 156) X936 hx hby at_155 rfl (v := (1 : Int32)) (by decide) ?_
          refine Go.icmpN (pc' := 159) X936 hx hby at_156 rfl (show ¬ ((2 : Int32) ≤ (1 : Int32)) from by decide) ?_
          refine Go.aload (pc' := 161) X936 hx hby at_159 rfl rfl rfl ?_
          refine Go.iload (pc' := 163) X936 hx hby at_161 rfl rfl ?_
          refine Go.iinc (w := (2 : Int32) + (1 : Int32)) (Ls' := #[.val (.int x0), .val (.int x1), .val (.int x2), .val (.int (2 : Int32)), .val (.int n2), .val (.int (1 : Int32)), .val (.int (0 : Int32)), .val (.ref s1), .val (.ref s2), .val (.ref b762), .val (.ref r1), .val (.ref r2), .val (.ref b798), .val (.int ((2 : Int32) + (1 : Int32))), .unset, .unset]) (pc' := 166) X936 hx hby at_163 rfl rfl rfl rfl ?_
          change Go p e below _ (T934.setTop (mkF m 166 #[.val (.int x0), .val (.int x1), .val (.int x2), .val (.int (2 : Int32)), .val (.int n2), .val (.int (1 : Int32)), .val (.int (0 : Int32)), .val (.ref s1), .val (.ref s2), .val (.ref b762), .val (.ref r1), .val (.ref r2), .val (.ref b798), .val (.int (3 : Int32)), .unset, .unset] [(.int (2 : Int32)), (.ref b798)]))
          refine Go.iloadN (pc' := 167) X936 hx hby at_166 rfl rfl ?_
          refine Go.iconst (pc' := 168) X936 hx hby at_167 rfl (v := (1 : Int32)) (by decide) ?_
          refine Go.callS (pc' := 171) (W := 2) (argsL := [(.int x0), (.int (1 : Int32))]) (rest := [(.int (2 : Int32)), (.ref b798)]) X936 hx hby hZ9 ho9 (hw _ (List.mem_of_getElem? (i := 8) rfl)) (hw _ (List.mem_of_getElem? (i := 9) rfl)) (hw _ (List.mem_of_getElem? (i := 2) rfl)) (hw _ (List.mem_of_getElem? (i := 10) rfl)) (by decide) (rmch l Z a0 hw x0 1 h935) e937 (by decide) (by decide) (by rw [hml]; rfl) pd_10 rfl rfl rfl (Nat.le_of_eq rfl) at_168 rfl (by decide) (by decide) ?_
          rintro r947 T948 L949 X950 ⟨rfl, rfl, e946⟩
          rw [List.append_nil] at X950
          show Go p e below _ (T948.setTop (mkF m 171 #[.val (.int x0), .val (.int x1), .val (.int x2), .val (.int (2 : Int32)), .val (.int n2), .val (.int (1 : Int32)), .val (.int (0 : Int32)), .val (.ref s1), .val (.ref s2), .val (.ref b762), .val (.ref r1), .val (.ref r2), .val (.ref b798), .val (.int (3 : Int32)), .unset, .unset] [(.int (own_ck x0 1)), (.int (2 : Int32)), (.ref b798)]))
          refine Go.castore (pc' := 172) (i := 2) X950 hx hby hZ9 e946 f944 at_171 rfl (by decide) (by decide) (by decide) ?_
          intro T951 h952 X953 e954 W955 A956
          have f957 : Ar Z h952 r1 .byte (ln1_.toInt + 2) (fun q => .int (Rr1 q)) := f940.other W955 n806
          have f958 : Ar Z h952 r2 .byte (ln1_.toInt + 2) (fun q => .int (Rr2 q)) := f941.other W955 n807
          have z959 : h0.size ≤ h952.size := by rw [Wr.size W955]; exact z942
          have hk960 : k9 ≤ h952.size := by rw [Wr.size W955]; exact hk943
          have f961 : Ar Z h952 b798 .char 10 (fun q => if q = 2 then (.int (nar .char (own_ck x0 1))) else if q = 1 then (.int (nar .char (own_ck x0 0))) else if q = 0 then (.int (nar .char (32 : Int32))) else (.int 0)) := A956
          have N962 : Fr h0.size _ := Fr.snoc X953 N945 g808
          show Go p e below _ (T951.setTop (mkF m 172 #[.val (.int x0), .val (.int x1), .val (.int x2), .val (.int (2 : Int32)), .val (.int n2), .val (.int (1 : Int32)), .val (.int (0 : Int32)), .val (.ref s1), .val (.ref s2), .val (.ref b762), .val (.ref r1), .val (.ref r2), .val (.ref b798), .val (.int (3 : Int32)), .unset, .unset] []))
          refine Go.iloadN (pc' := 173) X953 hx hby at_172 rfl rfl ?_
          refine Go.iconst (pc' := 174) X953 hx hby at_173 rfl (v := (2 : Int32)) (by decide) ?_
          refine Go.icmpY (pc' := 190) X953 hx hby at_174 (by decide) (by decide) (show (2 : Int32) ≤ (2 : Int32) from by decide) ?_
          have f963 : Ar Z h952 b798 .char 10 (fun q => .int ((fun q => if q = 2 then own_ck x0 1 else if q = 1 then own_ck x0 0 else if q = 0 then 32 else 0) q)) := f961.congr (fun i h1 h2 => by simp only [apply_ite Value.int, own_nc7 (own_ckr x0 _), own_nc7 (own_ckr x1 _), own_nc32, own_nc13, own_nc10])
          exact jn909 (T951, h952, _, (3 : Int32), (fun q => if q = 2 then own_ck x0 1 else if q = 1 then own_ck x0 0 else if q = 0 then 32 else 0)) ⟨X953, e954, N962, z959, hk960, by (try dsimp only); decide, f963, fun q h1 h2 => by
          have z : (3 : Int32).toInt = 3 := by decide
          (try dsimp only at h2)
          rw [z] at h2
          have t : q = 0 ∨ q = 1 ∨ q = 2 := (by omega)
          rcases t with rfl | rfl | rfl <;> rfl, f957, f958⟩
        ·
          subst q
          show Go p e below _ (T814.setTop (mkF m 137 #[.val (.int x0), .val (.int x1), .val (.int x2), .val (.int (3 : Int32)), .val (.int n2), .val (.int (1 : Int32)), .val (.int (0 : Int32)), .val (.ref s1), .val (.ref s2), .val (.ref b762), .val (.ref r1), .val (.ref r2), .val (.ref b798), .val (.int (1 : Int32)), .unset, .unset] []))
          refine Go.iloadN (pc' := 138) X816 hx hby at_137 rfl rfl ?_
          refine Go.ifN (pc' := 141) X816 hx hby at_138 rfl (show ¬ ((3 : Int32) ≤ 0) from by decide) ?_
          refine Go.aload (pc' := 143) X816 hx hby at_141 rfl rfl rfl ?_
          refine Go.iload (pc' := 145) X816 hx hby at_143 rfl rfl ?_
          refine Go.iinc (w := (1 : Int32) + (1 : Int32)) (Ls' := #[.val (.int x0), .val (.int x1), .val (.int x2), .val (.int (3 : Int32)), .val (.int n2), .val (.int (1 : Int32)), .val (.int (0 : Int32)), .val (.ref s1), .val (.ref s2), .val (.ref b762), .val (.ref r1), .val (.ref r2), .val (.ref b798), .val (.int ((1 : Int32) + (1 : Int32))), .unset, .unset]) (pc' := 148) X816 hx hby at_145 rfl rfl rfl rfl ?_
          change Go p e below _ (T814.setTop (mkF m 148 #[.val (.int x0), .val (.int x1), .val (.int x2), .val (.int (3 : Int32)), .val (.int n2), .val (.int (1 : Int32)), .val (.int (0 : Int32)), .val (.ref s1), .val (.ref s2), .val (.ref b762), .val (.ref r1), .val (.ref r2), .val (.ref b798), .val (.int (2 : Int32)), .unset, .unset] [(.int (1 : Int32)), (.ref b798)]))
          refine Go.iloadN (pc' := 149) X816 hx hby at_148 rfl rfl ?_
          refine Go.iconst (pc' := 150) X816 hx hby at_149 rfl (v := (0 : Int32)) (by decide) ?_
          refine Go.callS (pc' := 153) (W := 2) (argsL := [(.int x0), (.int (0 : Int32))]) (rest := [(.int (1 : Int32)), (.ref b798)]) X816 hx hby hZ9 ho9 (hw _ (List.mem_of_getElem? (i := 8) rfl)) (hw _ (List.mem_of_getElem? (i := 9) rfl)) (hw _ (List.mem_of_getElem? (i := 2) rfl)) (hw _ (List.mem_of_getElem? (i := 10) rfl)) (by decide) (rmch l Z a0 hw x0 0 h815) e817 (by decide) (by decide) (by rw [hml]; rfl) pd_10 rfl rfl rfl (Nat.le_of_eq rfl) at_150 rfl (by decide) (by decide) ?_
          rintro r965 T966 L967 X968 ⟨rfl, rfl, e964⟩
          rw [List.append_nil] at X968
          show Go p e below _ (T966.setTop (mkF m 153 #[.val (.int x0), .val (.int x1), .val (.int x2), .val (.int (3 : Int32)), .val (.int n2), .val (.int (1 : Int32)), .val (.int (0 : Int32)), .val (.ref s1), .val (.ref s2), .val (.ref b762), .val (.ref r1), .val (.ref r2), .val (.ref b798), .val (.int (2 : Int32)), .unset, .unset] [(.int (own_ck x0 0)), (.int (1 : Int32)), (.ref b798)]))
          refine Go.castore (pc' := 154) (i := 1) X968 hx hby hZ9 e964 f824 at_153 rfl (by decide) (by decide) (by decide) ?_
          intro T969 h970 X971 e972 W973 A974
          have f975 : Ar Z h970 r1 .byte (ln1_.toInt + 2) (fun q => .int (Rr1 q)) := f820.other W973 n806
          have f976 : Ar Z h970 r2 .byte (ln1_.toInt + 2) (fun q => .int (Rr2 q)) := f821.other W973 n807
          have z977 : h0.size ≤ h970.size := by rw [Wr.size W973]; exact z822
          have hk978 : k9 ≤ h970.size := by rw [Wr.size W973]; exact hk823
          have f979 : Ar Z h970 b798 .char 10 (fun q => if q = 1 then (.int (nar .char (own_ck x0 0))) else if q = 0 then (.int (nar .char (32 : Int32))) else (.int 0)) := A974
          have N980 : Fr h0.size _ := Fr.snoc X971 N825 g808
          show Go p e below _ (T969.setTop (mkF m 154 #[.val (.int x0), .val (.int x1), .val (.int x2), .val (.int (3 : Int32)), .val (.int n2), .val (.int (1 : Int32)), .val (.int (0 : Int32)), .val (.ref s1), .val (.ref s2), .val (.ref b762), .val (.ref r1), .val (.ref r2), .val (.ref b798), .val (.int (2 : Int32)), .unset, .unset] []))
          refine Go.iloadN (pc' := 155) X971 hx hby at_154 rfl rfl ?_
          refine Go.iconst (pc' := 156) X971 hx hby at_155 rfl (v := (1 : Int32)) (by decide) ?_
          refine Go.icmpN (pc' := 159) X971 hx hby at_156 rfl (show ¬ ((3 : Int32) ≤ (1 : Int32)) from by decide) ?_
          refine Go.aload (pc' := 161) X971 hx hby at_159 rfl rfl rfl ?_
          refine Go.iload (pc' := 163) X971 hx hby at_161 rfl rfl ?_
          refine Go.iinc (w := (2 : Int32) + (1 : Int32)) (Ls' := #[.val (.int x0), .val (.int x1), .val (.int x2), .val (.int (3 : Int32)), .val (.int n2), .val (.int (1 : Int32)), .val (.int (0 : Int32)), .val (.ref s1), .val (.ref s2), .val (.ref b762), .val (.ref r1), .val (.ref r2), .val (.ref b798), .val (.int ((2 : Int32) + (1 : Int32))), .unset, .unset]) (pc' := 166) X971 hx hby at_163 rfl rfl rfl rfl ?_
          change Go p e below _ (T969.setTop (mkF m 166 #[.val (.int x0), .val (.int x1), .val (.int x2), .val (.int (3 : Int32)), .val (.int n2), .val (.int (1 : Int32)), .val (.int (0 : Int32)), .val (.ref s1), .val (.ref s2), .val (.ref b762), .val (.ref r1), .val (.ref r2), .val (.ref b798), .val (.int (3 : Int32)), .unset, .unset] [(.int (2 : Int32)), (.ref b798)]))
          refine Go.iloadN (pc' := 167) X971 hx hby at_166 rfl rfl ?_
          refine Go.iconst (pc' := 168) X971 hx hby at_167 rfl (v := (1 : Int32)) (by decide) ?_
          refine Go.callS (pc' := 171) (W := 2) (argsL := [(.int x0), (.int (1 : Int32))]) (rest := [(.int (2 : Int32)), (.ref b798)]) X971 hx hby hZ9 ho9 (hw _ (List.mem_of_getElem? (i := 8) rfl)) (hw _ (List.mem_of_getElem? (i := 9) rfl)) (hw _ (List.mem_of_getElem? (i := 2) rfl)) (hw _ (List.mem_of_getElem? (i := 10) rfl)) (by decide) (rmch l Z a0 hw x0 1 h970) e972 (by decide) (by decide) (by rw [hml]; rfl) pd_10 rfl rfl rfl (Nat.le_of_eq rfl) at_168 rfl (by decide) (by decide) ?_
          rintro r982 T983 L984 X985 ⟨rfl, rfl, e981⟩
          rw [List.append_nil] at X985
          show Go p e below _ (T983.setTop (mkF m 171 #[.val (.int x0), .val (.int x1), .val (.int x2), .val (.int (3 : Int32)), .val (.int n2), .val (.int (1 : Int32)), .val (.int (0 : Int32)), .val (.ref s1), .val (.ref s2), .val (.ref b762), .val (.ref r1), .val (.ref r2), .val (.ref b798), .val (.int (3 : Int32)), .unset, .unset] [(.int (own_ck x0 1)), (.int (2 : Int32)), (.ref b798)]))
          refine Go.castore (pc' := 172) (i := 2) X985 hx hby hZ9 e981 f979 at_171 rfl (by decide) (by decide) (by decide) ?_
          intro T986 h987 X988 e989 W990 A991
          have f992 : Ar Z h987 r1 .byte (ln1_.toInt + 2) (fun q => .int (Rr1 q)) := f975.other W990 n806
          have f993 : Ar Z h987 r2 .byte (ln1_.toInt + 2) (fun q => .int (Rr2 q)) := f976.other W990 n807
          have z994 : h0.size ≤ h987.size := by rw [Wr.size W990]; exact z977
          have hk995 : k9 ≤ h987.size := by rw [Wr.size W990]; exact hk978
          have f996 : Ar Z h987 b798 .char 10 (fun q => if q = 2 then (.int (nar .char (own_ck x0 1))) else if q = 1 then (.int (nar .char (own_ck x0 0))) else if q = 0 then (.int (nar .char (32 : Int32))) else (.int 0)) := A991
          have N997 : Fr h0.size _ := Fr.snoc X988 N980 g808
          show Go p e below _ (T986.setTop (mkF m 172 #[.val (.int x0), .val (.int x1), .val (.int x2), .val (.int (3 : Int32)), .val (.int n2), .val (.int (1 : Int32)), .val (.int (0 : Int32)), .val (.ref s1), .val (.ref s2), .val (.ref b762), .val (.ref r1), .val (.ref r2), .val (.ref b798), .val (.int (3 : Int32)), .unset, .unset] []))
          refine Go.iloadN (pc' := 173) X988 hx hby at_172 rfl rfl ?_
          refine Go.iconst (pc' := 174) X988 hx hby at_173 rfl (v := (2 : Int32)) (by decide) ?_
          refine Go.icmpN (pc' := 177) X988 hx hby at_174 rfl (show ¬ ((3 : Int32) ≤ (2 : Int32)) from by decide) ?_
          refine Go.aload (pc' := 179) X988 hx hby at_177 rfl rfl rfl ?_
          refine Go.iload (pc' := 181) X988 hx hby at_179 rfl rfl ?_
          refine Go.iinc (w := (3 : Int32) + (1 : Int32)) (Ls' := #[.val (.int x0), .val (.int x1), .val (.int x2), .val (.int (3 : Int32)), .val (.int n2), .val (.int (1 : Int32)), .val (.int (0 : Int32)), .val (.ref s1), .val (.ref s2), .val (.ref b762), .val (.ref r1), .val (.ref r2), .val (.ref b798), .val (.int ((3 : Int32) + (1 : Int32))), .unset, .unset]) (pc' := 184) X988 hx hby at_181 rfl rfl rfl rfl ?_
          change Go p e below _ (T986.setTop (mkF m 184 #[.val (.int x0), .val (.int x1), .val (.int x2), .val (.int (3 : Int32)), .val (.int n2), .val (.int (1 : Int32)), .val (.int (0 : Int32)), .val (.ref s1), .val (.ref s2), .val (.ref b762), .val (.ref r1), .val (.ref r2), .val (.ref b798), .val (.int (4 : Int32)), .unset, .unset] [(.int (3 : Int32)), (.ref b798)]))
          refine Go.iloadN (pc' := 185) X988 hx hby at_184 rfl rfl ?_
          refine Go.iconst (pc' := 186) X988 hx hby at_185 rfl (v := (2 : Int32)) (by decide) ?_
          refine Go.callS (pc' := 189) (W := 2) (argsL := [(.int x0), (.int (2 : Int32))]) (rest := [(.int (3 : Int32)), (.ref b798)]) X988 hx hby hZ9 ho9 (hw _ (List.mem_of_getElem? (i := 8) rfl)) (hw _ (List.mem_of_getElem? (i := 9) rfl)) (hw _ (List.mem_of_getElem? (i := 2) rfl)) (hw _ (List.mem_of_getElem? (i := 10) rfl)) (by decide) (rmch l Z a0 hw x0 2 h987) e989 (by decide) (by decide) (by rw [hml]; rfl) pd_10 rfl rfl rfl (Nat.le_of_eq rfl) at_186 rfl (by decide) (by decide) ?_
          rintro r999 T1000 L1001 X1002 ⟨rfl, rfl, e998⟩
          rw [List.append_nil] at X1002
          show Go p e below _ (T1000.setTop (mkF m 189 #[.val (.int x0), .val (.int x1), .val (.int x2), .val (.int (3 : Int32)), .val (.int n2), .val (.int (1 : Int32)), .val (.int (0 : Int32)), .val (.ref s1), .val (.ref s2), .val (.ref b762), .val (.ref r1), .val (.ref r2), .val (.ref b798), .val (.int (4 : Int32)), .unset, .unset] [(.int (own_ck x0 2)), (.int (3 : Int32)), (.ref b798)]))
          refine Go.castore (pc' := 190) (i := 3) X1002 hx hby hZ9 e998 f996 at_189 rfl (by decide) (by decide) (by decide) ?_
          intro T1003 h1004 X1005 e1006 W1007 A1008
          have f1009 : Ar Z h1004 r1 .byte (ln1_.toInt + 2) (fun q => .int (Rr1 q)) := f992.other W1007 n806
          have f1010 : Ar Z h1004 r2 .byte (ln1_.toInt + 2) (fun q => .int (Rr2 q)) := f993.other W1007 n807
          have z1011 : h0.size ≤ h1004.size := by rw [Wr.size W1007]; exact z994
          have hk1012 : k9 ≤ h1004.size := by rw [Wr.size W1007]; exact hk995
          have f1013 : Ar Z h1004 b798 .char 10 (fun q => if q = 3 then (.int (nar .char (own_ck x0 2))) else if q = 2 then (.int (nar .char (own_ck x0 1))) else if q = 1 then (.int (nar .char (own_ck x0 0))) else if q = 0 then (.int (nar .char (32 : Int32))) else (.int 0)) := A1008
          have N1014 : Fr h0.size _ := Fr.snoc X1005 N997 g808
          show Go p e below _ (T1003.setTop (mkF m 190 #[.val (.int x0), .val (.int x1), .val (.int x2), .val (.int (3 : Int32)), .val (.int n2), .val (.int (1 : Int32)), .val (.int (0 : Int32)), .val (.ref s1), .val (.ref s2), .val (.ref b762), .val (.ref r1), .val (.ref r2), .val (.ref b798), .val (.int (4 : Int32)), .unset, .unset] []))
          have f1015 : Ar Z h1004 b798 .char 10 (fun q => .int ((fun q => if q = 3 then own_ck x0 2 else if q = 2 then own_ck x0 1 else if q = 1 then own_ck x0 0 else if q = 0 then 32 else 0) q)) := f1013.congr (fun i h1 h2 => by simp only [apply_ite Value.int, own_nc7 (own_ckr x0 _), own_nc7 (own_ckr x1 _), own_nc32, own_nc13, own_nc10])
          exact jn909 (T1003, h1004, _, (4 : Int32), (fun q => if q = 3 then own_ck x0 2 else if q = 2 then own_ck x0 1 else if q = 1 then own_ck x0 0 else if q = 0 then 32 else 0)) ⟨X1005, e1006, N1014, z1011, hk1012, by (try dsimp only); decide, f1015, fun q h1 h2 => by
          have z : (4 : Int32).toInt = 4 := by decide
          (try dsimp only at h2)
          rw [z] at h2
          have t : q = 0 ∨ q = 1 ∨ q = 2 ∨ q = 3 := (by omega)
          rcases t with rfl | rfl | rfl | rfl <;> rfl, f1009, f1010⟩
    ·
      refine Go.iconst (pc' := 35) X0 hx hby at_34 rfl (v := (1 : Int32)) (by decide) ?_
      refine Go.goto (pc' := 39) X0 hx hby at_35 (by decide) (by decide) ?_
      refine Go.istore (Ls' := #[.val (.int x0), .val (.int x1), .val (.int x2), .val (.int n1), .val (.int n2), .val (.int (1 : Int32)), .val (.int (1 : Int32)), .unset, .unset, .unset, .unset, .unset, .unset, .unset, .unset, .unset]) (pc' := 41) X0 hx hby at_39 rfl rfl ?_
      refine Go.iloadN (pc' := 42) X0 hx hby at_41 rfl rfl ?_
      refine Go.iloadN (pc' := 43) X0 hx hby at_42 rfl rfl ?_
      refine Go.callSR (pc' := 46) (W := 0) (argsL := [(.int x0), (.int n1)]) (rest := []) X0 hx hby hZ hown (hw _ (List.mem_of_getElem? (i := 0) rfl)) (hw _ (List.mem_of_getElem? (i := 1) rfl)) (hw _ (List.mem_of_getElem? (i := 2) rfl)) (hw _ (List.mem_of_getElem? (i := 3) rfl)) (by decide) (rmMK l Z a0 hw x0 n1 h0 h0.size kk sf O0 SS (Nat.le_refl _) d1) e0 (by decide) (by decide) (by rw [hml]; rfl) pd_12 rfl rfl rfl (Nat.le_of_eq rfl) at_43 rfl (by decide) (by decide) hS (Nat.zero_le _) (own_ew hw) hC (by simp) ?_
      rintro r1016 T1017 L1018 X1019 S1020 hZ1021 hown1022 g1023 ⟨⟨s1, t1, rfl, N1, K1, S1⟩, R1⟩
      have O1 := O0.keep K1 all0
      show Go p e below _ (T1017.setTop (mkF m 46 #[.val (.int x0), .val (.int x1), .val (.int x2), .val (.int n1), .val (.int n2), .val (.int (1 : Int32)), .val (.int (1 : Int32)), .unset, .unset, .unset, .unset, .unset, .unset, .unset, .unset, .unset] [(.ref s1)]))
      refine Go.astore (Ls' := #[.val (.int x0), .val (.int x1), .val (.int x2), .val (.int n1), .val (.int n2), .val (.int (1 : Int32)), .val (.int (1 : Int32)), .val (.ref s1), .unset, .unset, .unset, .unset, .unset, .unset, .unset, .unset]) (pc' := 48) X1019 hx hby at_46 rfl rfl rfl ?_
      refine Go.iloadN (pc' := 49) X1019 hx hby at_48 rfl rfl ?_
      refine Go.iload (pc' := 51) X1019 hx hby at_49 rfl rfl ?_
      refine Go.callSR (pc' := 54) (W := 0) (argsL := [(.int x1), (.int n2)]) (rest := []) X1019 hx hby hZ1021 hown1022 (hw _ (List.mem_of_getElem? (i := 0) rfl)) (hw _ (List.mem_of_getElem? (i := 1) rfl)) (hw _ (List.mem_of_getElem? (i := 2) rfl)) (hw _ (List.mem_of_getElem? (i := 3) rfl)) (by decide) (rmMK l Z a0 hw x1 n2 T1017.heap h0.size kk sf O1 SS K1.1 d2) rfl (by decide) (by decide) (by rw [hml]; rfl) pd_12 rfl rfl rfl (Nat.le_of_eq rfl) at_51 rfl (by decide) (by decide) S1020 (Nat.le_refl _) (own_ew hw) R1.1 (by simp) ?_
      rintro r1024 T1025 L1026 X1027 S1028 hZ1029 hown1030 g1031 ⟨⟨s2, t2, rfl, N2, K2, S2⟩, R2⟩
      replace S1 := S1.keep K2 nin0 nin0
      have O2 := O1.keep K2 all0
      have Z2 : h0.size ≤ T1025.heap.size := Nat.le_trans K1.1 K2.1
      show Go p e below _ (T1025.setTop (mkF m 54 #[.val (.int x0), .val (.int x1), .val (.int x2), .val (.int n1), .val (.int n2), .val (.int (1 : Int32)), .val (.int (1 : Int32)), .val (.ref s1), .unset, .unset, .unset, .unset, .unset, .unset, .unset, .unset] [(.ref s2)]))
      refine Go.astore (Ls' := #[.val (.int x0), .val (.int x1), .val (.int x2), .val (.int n1), .val (.int n2), .val (.int (1 : Int32)), .val (.int (1 : Int32)), .val (.ref s1), .val (.ref s2), .unset, .unset, .unset, .unset, .unset, .unset, .unset]) (pc' := 56) X1027 hx hby at_54 rfl rfl rfl ?_
      refine Go.new_ (pc' := 59) X1027 hx hby hZ1029 hown1030 (hw _ (List.mem_of_getElem? (i := 40) rfl)) (hw _ (List.mem_of_getElem? (i := 41) rfl)) (hw _ (List.mem_of_getElem? (i := 42) rfl)) rfl at_56 rfl (by decide) (by decide) ?_
      intro b1032 T1033 h1034 g1035 X1036 e1037 E1038 A1039 D1040
      have g1041 : h0.size ≤ b1032 := by rw [g1035]; exact Z2
      have f1042 : Old Z h0.size h1034 := O2.ext E1038
      have z1043 : h0.size ≤ h1034.size := Nat.le_trans Z2 E1038.1
      have hk1044 : T1025.heap.size ≤ h1034.size := Nat.le_trans (Nat.le_refl _) E1038.1
      have f1045 : Exa Z h1034 b1032 "com/example/vellum_channels/vellumchannels/frame/HeaderLine" := A1039
      have f1046 : Fld Z h1034 b1032 "com/example/vellum_channels/vellumchannels/frame/HeaderLine" "octets" "[B" .null := D1040 (Or.inl (hw _ (List.mem_of_getElem? (i := 48) rfl))) (ty := (.array .byte)) (by decide)
      have f1047 : Fld Z h1034 b1032 "com/example/vellum_channels/vellumchannels/frame/HeaderLine" "length" "I" (.int 0) := D1040 (Or.inl (hw _ (List.mem_of_getElem? (i := 59) rfl))) (ty := .int) (by decide)
      show Go p e below _ (T1033.setTop (mkF m 59 #[.val (.int x0), .val (.int x1), .val (.int x2), .val (.int n1), .val (.int n2), .val (.int (1 : Int32)), .val (.int (1 : Int32)), .val (.ref s1), .val (.ref s2), .unset, .unset, .unset, .unset, .unset, .unset, .unset] [(.ref b1032)]))
      have gA : T1025.heap.size ≤ b1032 := by rw [g1035]; exact Nat.le_refl _
      replace S1 := S1.ext E1038
      replace S2 := S2.ext E1038
      refine Go.dup (pc' := 60) X1036 hx hby at_59 rfl rfl ?_
      refine Go.callI (pc' := 63) (a := b1032) (W := 1) (argsL := []) (rest := [(.ref b1032)]) X1036 hx hby rfl hZ1029 hown1030 (hw _ (List.mem_of_getElem? (i := 43) rfl)) (hw _ (List.mem_of_getElem? (i := 44) rfl)) (hw _ (List.mem_of_getElem? (i := 42) rfl)) (hw _ (List.mem_of_getElem? (i := 45) rfl)) (by decide) (rmHI l Z a0 hw b1032 h1034 h0.size z1043 g1041 f1045 f1046 f1047) e1037 (by decide) (by decide) (by rw [hml]; rfl) pd_2 rfl rfl rfl (Nat.le_of_eq rfl) at_60 rfl (by decide) (by decide) ?_
      rintro r1048 T1049 L1050 X1051 ⟨ob, rfl, gf, N3, K3, Ew, Fw, Gw, Aw⟩
      have K24 : Keep T1025.heap T1049.heap [] := ((Keep.refl T1025.heap []).ext E1038).trans K3 (allS (Or.inr gA) all0)
      have gob : T1025.heap.size ≤ ob := Nat.le_trans E1038.1 gf
      have nt1 : t1 ≠ ob := Nat.ne_of_lt (Nat.lt_of_lt_of_le S1.2.2.2.lt gf)
      replace S1 := S1.keep K3 (ninS (Exa.ne S1.1 f1045 (by decide)) nin0) (ninS (Ne.symm (Ar.neExa f1045 (hw _ (List.mem_of_getElem? (i := 41) rfl)) S1.2.2.2)) nin0)
      have nt2 : t2 ≠ ob := Nat.ne_of_lt (Nat.lt_of_lt_of_le S2.2.2.2.lt gf)
      replace S2 := S2.keep K3 (ninS (Exa.ne S2.1 f1045 (by decide)) nin0) (ninS (Ne.symm (Ar.neExa f1045 (hw _ (List.mem_of_getElem? (i := 41) rfl)) S2.2.2.2)) nin0)
      have Ow := f1042.keep K3 (allS g1041 all0)
      have Zw : h0.size ≤ T1049.heap.size := Nat.le_trans z1043 K3.1
      have hkw : T1025.heap.size ≤ T1049.heap.size := Nat.le_trans hk1044 K3.1
      have gow : h0.size ≤ ob := Nat.le_trans Z2 gob
      show Go p e below _ (T1049.setTop (mkF m 63 #[.val (.int x0), .val (.int x1), .val (.int x2), .val (.int n1), .val (.int n2), .val (.int (1 : Int32)), .val (.int (1 : Int32)), .val (.ref s1), .val (.ref s2), .unset, .unset, .unset, .unset, .unset, .unset, .unset] [(.ref b1032)]))
      refine Go.astore (Ls' := #[.val (.int x0), .val (.int x1), .val (.int x2), .val (.int n1), .val (.int n2), .val (.int (1 : Int32)), .val (.int (1 : Int32)), .val (.ref s1), .val (.ref s2), .val (.ref b1032), .unset, .unset, .unset, .unset, .unset, .unset]) (pc' := 65) X1051 hx hby at_63 rfl rfl rfl ?_
      refine Go.iload (pc' := 67) X1051 hx hby at_65 rfl rfl ?_
      refine Go.ifN (pc' := 70) X1051 hx hby at_67 rfl (show ¬ ((1 : Int32) = 0) from by decide) ?_
      refine Go.aload (pc' := 72) X1051 hx hby at_70 rfl rfl rfl ?_
      have HC4 := CHv.keep K24 all0 R2.1
      have sfo := Safe.keep K24 all0 R2.1 (Safe.new gob)
      refine Go.ldcR2 (pc' := 74) (n := 244) (z := 61) (vs := own_pl.map Value.int) (EL := own_EL) X1051 hx hby hZ1029 hown1030 (hw _ (List.mem_of_getElem? (i := 129) rfl)) (own_strs hw) rfl S1028 hkw (own_ew hw) (by simp [own_EL]) HC4 ⟨own_pa, own_pt⟩ (by decide) own_pz at_72 rfl own_pn (by decide) (by decide) (by decide) ?_
      intro sl T9 h9 k9 bl kc X9 e9 E9 S9 hk9 hZ9 ho9 Es Cs Vs As CH9 LI9 sf9
      have nbl := Ne.symm (sf9 ob (CH9.safe Aw.lt sfo)).2
      have SL : own_sx Z h9 sl bl (61 : Int32).toInt own_pc := ⟨Es, Vs, Cs, (own_arv As).congr (fun i h1 h2 => own_pv i)⟩
      replace S1 := S1.ext E9
      replace S2 := S2.ext E9
      replace Ow := Ow.ext E9
      replace Aw := Aw.ext E9
      replace Ew := Exa.ext E9 Ew
      replace Fw := Fld.ext E9 Fw
      replace Gw := Fld.ext E9 Gw
      replace Zw : h0.size ≤ h9.size := Nat.le_trans Zw E9.1
      show Go p e below _ (T9.setTop (mkF m 74 #[.val (.int x0), .val (.int x1), .val (.int x2), .val (.int n1), .val (.int n2), .val (.int (1 : Int32)), .val (.int (1 : Int32)), .val (.ref s1), .val (.ref s2), .val (.ref b1032), .unset, .unset, .unset, .unset, .unset, .unset] [(.ref sl), (.ref b1032)]))
      refine Go.callV (C := "com/example/vellum_channels/vellumchannels/frame/HeaderLine") (pc' := 77) (a := b1032) (W := 0) (argsL := [(.ref sl)]) (rest := []) X9 hx hby hZ9 ho9 (hw _ (List.mem_of_getElem? (i := 49) rfl)) (hw _ (List.mem_of_getElem? (i := 50) rfl)) (notFace_of_selects (args := #[]) (mvT hZ9 (hw _ (List.mem_of_getElem? (i := 52) rfl)))) (hw _ (List.mem_of_getElem? (i := 52) rfl)) (hw _ (List.mem_of_getElem? (i := 51) rfl)) (hw _ (List.mem_of_getElem? (i := 42) rfl)) (hw _ (List.mem_of_getElem? (i := 53) rfl)) (by decide) (rmWO l Z a0 hw b1032 sl h9 h0.size kk sf (0 : Int32) (62 : Int32) (fun _ => (0 : Int32)) ob bl 61 own_pc Ow SS Zw g1041 gow Ew Fw Gw Aw (fun q => by decide) (by omega) (by omega) (by omega) (by omega) SL own_p7 nbl (by omega) (by omega) (by omega) (by first | omega | (unfold own_sp; split <;> omega))) e9 Ew (by decide) (by decide) (by rw [hml]; rfl) pd_15 rfl rfl rfl (Nat.le_of_eq rfl) at_74 rfl (by decide) (by decide) ?_
      rintro r1052 T1053 L1054 X1055 ⟨o0_, z0_, C0_, ln0_, rfl, Nw0_, Kw0_, qo0_, lq0_, zq0_, cq0_, go0_, Ex0_, Fx0_, Gx0_, Ax0_, yw0_⟩
      obtain ⟨S1', nt1'⟩ := own_sx.word hw S1 Kw0_ Ew Aw nt1 qo0_
      clear S1 nt1
      have S1 := S1'
      have nt1 := nt1'
      clear S1' nt1'
      obtain ⟨S2', nt2'⟩ := own_sx.word hw S2 Kw0_ Ew Aw nt2 qo0_
      clear S2 nt2
      have S2 := S2'
      have nt2 := nt2'
      clear S2' nt2'
      have lv0_ : ln0_.toInt = 61 := by rw [lq0_]; first | omega | (unfold own_sp; split <;> omega)
      have zv0_ : z0_.toInt = 62 := by rw [zq0_]; unfold own_cap own_rm own_sp; (repeat' split) <;> omega
      replace Ow := Ow.keep Kw0_ (allS g1041 (allS gow all0))
      replace Zw : h0.size ≤ T1053.heap.size := Nat.le_trans Zw Kw0_.1
      have hkw0_ : k9 ≤ T1053.heap.size := Nat.le_trans hk9 Kw0_.1
      clear Ew Fw Gw Aw gow
      have Ew := Ex0_
      have Fw := Fx0_
      have Gw := Gx0_
      have Aw := Ax0_
      have gow := go0_
      show Go p e below _ (T1053.setTop (mkF m 77 #[.val (.int x0), .val (.int x1), .val (.int x2), .val (.int n1), .val (.int n2), .val (.int (1 : Int32)), .val (.int (1 : Int32)), .val (.ref s1), .val (.ref s2), .val (.ref b1032), .unset, .unset, .unset, .unset, .unset, .unset] [(.ref b1032)]))
      refine Go.pop (pc' := 78) X1055 hx hby at_77 rfl rfl ?_
      refine Go.aload (pc' := 80) X1055 hx hby at_78 rfl rfl rfl ?_
      refine Go.aload (pc' := 82) X1055 hx hby at_80 rfl rfl rfl ?_
      refine Go.callV (C := "com/example/vellum_channels/vellumchannels/frame/HeaderLine") (pc' := 85) (a := b1032) (W := 0) (argsL := [(.ref s1)]) (rest := []) X1055 hx hby hZ9 ho9 (hw _ (List.mem_of_getElem? (i := 49) rfl)) (hw _ (List.mem_of_getElem? (i := 50) rfl)) (notFace_of_selects (args := #[]) (mvT hZ9 (hw _ (List.mem_of_getElem? (i := 52) rfl)))) (hw _ (List.mem_of_getElem? (i := 52) rfl)) (hw _ (List.mem_of_getElem? (i := 51) rfl)) (hw _ (List.mem_of_getElem? (i := 42) rfl)) (hw _ (List.mem_of_getElem? (i := 53) rfl)) (by decide) (rmWO l Z a0 hw b1032 s1 T1053.heap h0.size kk sf ln0_ z0_ C0_ o0_ t1 n1 (own_cf x0) Ow SS Zw g1041 gow Ew Fw Gw Aw yw0_ (by omega) (by omega) (by omega) (by omega) S1 (fun q _ _ => own_cfr x0 q) nt1 (by omega) (by omega) (by omega) (by first | omega | (unfold own_sp; split <;> omega))) rfl Ew (by decide) (by decide) (by rw [hml]; rfl) pd_15 rfl rfl rfl (Nat.le_of_eq rfl) at_82 rfl (by decide) (by decide) ?_
      rintro r1056 T1057 L1058 X1059 ⟨o1_, z1_, C1_, ln1_, rfl, Nw1_, Kw1_, qo1_, lq1_, zq1_, cq1_, go1_, Ex1_, Fx1_, Gx1_, Ax1_, yw1_⟩
      obtain ⟨S2', nt2'⟩ := own_sx.word hw S2 Kw1_ Ew Aw nt2 qo1_
      clear S2 nt2
      have S2 := S2'
      have nt2 := nt2'
      clear S2' nt2'
      have lv1_ : ln1_.toInt = 62 + n1.toInt := by rw [lq1_]; first | omega | (unfold own_sp; split <;> omega)
      have zv1_ : (n1.toInt = 0 ∧ z1_.toInt = 62) ∨ (0 < n1.toInt ∧ z1_.toInt = 2 * (62 + n1.toInt)) := by rw [zq1_]; unfold own_cap own_rm own_sp; (repeat' split) <;> omega
      replace Ow := Ow.keep Kw1_ (allS g1041 (allS gow all0))
      replace Zw : h0.size ≤ T1057.heap.size := Nat.le_trans Zw Kw1_.1
      have hkw1_ : k9 ≤ T1057.heap.size := Nat.le_trans hkw0_ Kw1_.1
      clear Ew Fw Gw Aw gow
      have Ew := Ex1_
      have Fw := Fx1_
      have Gw := Gx1_
      have Aw := Ax1_
      have gow := go1_
      show Go p e below _ (T1057.setTop (mkF m 85 #[.val (.int x0), .val (.int x1), .val (.int x2), .val (.int n1), .val (.int n2), .val (.int (1 : Int32)), .val (.int (1 : Int32)), .val (.ref s1), .val (.ref s2), .val (.ref b1032), .unset, .unset, .unset, .unset, .unset, .unset] [(.ref b1032)]))
      refine Go.pop (pc' := 86) X1059 hx hby at_85 rfl rfl ?_
      refine Go.iload (pc' := 88) X1059 hx hby at_86 rfl rfl ?_
      refine Go.ifN (pc' := 91) X1059 hx hby at_88 rfl (show ¬ ((1 : Int32) = 0) from by decide) ?_
      refine Go.aload (pc' := 93) X1059 hx hby at_91 rfl rfl rfl ?_
      refine Go.aload (pc' := 95) X1059 hx hby at_93 rfl rfl rfl ?_
      refine Go.callV (C := "com/example/vellum_channels/vellumchannels/frame/HeaderLine") (pc' := 98) (a := b1032) (W := 0) (argsL := [(.ref s2)]) (rest := []) X1059 hx hby hZ9 ho9 (hw _ (List.mem_of_getElem? (i := 49) rfl)) (hw _ (List.mem_of_getElem? (i := 50) rfl)) (notFace_of_selects (args := #[]) (mvT hZ9 (hw _ (List.mem_of_getElem? (i := 52) rfl)))) (hw _ (List.mem_of_getElem? (i := 52) rfl)) (hw _ (List.mem_of_getElem? (i := 51) rfl)) (hw _ (List.mem_of_getElem? (i := 42) rfl)) (hw _ (List.mem_of_getElem? (i := 53) rfl)) (by decide) (rmWO l Z a0 hw b1032 s2 T1057.heap h0.size kk sf ln1_ z1_ C1_ o1_ t2 n2 (own_cf x1) Ow SS Zw g1041 gow Ew Fw Gw Aw yw1_ (by omega) (by omega) (by omega) (by omega) S2 (fun q _ _ => own_cfr x1 q) nt2 (by omega) (by omega) (by omega) (by first | omega | (unfold own_sp; split <;> omega))) rfl Ew (by decide) (by decide) (by rw [hml]; rfl) pd_15 rfl rfl rfl (Nat.le_of_eq rfl) at_95 rfl (by decide) (by decide) ?_
      rintro r1060 T1061 L1062 X1063 ⟨o2_, z2_, C2_, ln2_, rfl, Nw2_, Kw2_, qo2_, lq2_, zq2_, cq2_, go2_, Ex2_, Fx2_, Gx2_, Ax2_, yw2_⟩
      have lv2_ : ln2_.toInt = 63 + n1.toInt + n2.toInt := by rw [lq2_]; first | omega | (unfold own_sp; split <;> omega)
      have zv2_ : 126 ≤ z2_.toInt ∧ z2_.toInt ≤ 130 := by rw [zq2_]; unfold own_cap own_rm own_sp; (repeat' split) <;> omega
      replace Ow := Ow.keep Kw2_ (allS g1041 (allS gow all0))
      replace Zw : h0.size ≤ T1061.heap.size := Nat.le_trans Zw Kw2_.1
      have hkw2_ : k9 ≤ T1061.heap.size := Nat.le_trans hkw1_ Kw2_.1
      clear Ew Fw Gw Aw gow
      have Ew := Ex2_
      have Fw := Fx2_
      have Gw := Gx2_
      have Aw := Ax2_
      have gow := go2_
      show Go p e below _ (T1061.setTop (mkF m 98 #[.val (.int x0), .val (.int x1), .val (.int x2), .val (.int n1), .val (.int n2), .val (.int (1 : Int32)), .val (.int (1 : Int32)), .val (.ref s1), .val (.ref s2), .val (.ref b1032), .unset, .unset, .unset, .unset, .unset, .unset] [(.ref b1032)]))
      refine Go.pop (pc' := 99) X1063 hx hby at_98 rfl rfl ?_
      refine Go.aload (pc' := 101) X1063 hx hby at_99 rfl rfl rfl ?_
      have c1s : ∀ j : Int, 0 ≤ j → j < (1 + n1.toInt) → C1_ (61 + j) = own_t1 x0 j := by
        intro j h1 h2
        rw [cq1_ _ (by omega) (by omega)]
        have spA : own_sp ln0_.toInt = 1 := by unfold own_sp; rw [if_pos (by omega)]
        unfold own_w own_t1; rw [if_neg (by omega), spA]
        by_cases g : j = 0
        · rw [if_pos (by omega), if_pos g]
        · rw [if_neg (by omega), if_neg g]; congr 1; omega
      have pfx : ∀ q : Int, 0 ≤ q → q < 61 → C2_ q = own_pc q := by
        intro q h1 h2
        rw [cq2_ _ (by omega) (by omega)]; unfold own_w; rw [if_pos (by omega)]
        rw [cq1_ _ (by omega) (by omega)]; unfold own_w; rw [if_pos (by omega)]
        rw [cq0_ _ (by omega) (by omega)]; unfold own_w own_sp; rw [v0, if_neg (by omega), if_neg (by omega), if_neg (by omega)]; congr 1; omega
      have spB : own_sp ln1_.toInt = 1 := by unfold own_sp; rw [if_pos (by omega)]
      have c2s : ∀ j : Int, 0 ≤ j → j < (1 + n1.toInt) + 1 + n2.toInt → C2_ (61 + j) = own_tb (1 + n1.toInt) 1 (own_t1 x0) x1 j := by
        intro j h1 h2
        rw [cq2_ _ (by omega) (by omega)]
        unfold own_w own_tb; rw [spB]
        by_cases g : j < (1 + n1.toInt)
        · rw [if_pos (by omega), if_pos g]; exact c1s j h1 g
        · rw [if_neg (by omega), if_neg g]
          by_cases g2 : j < (1 + n1.toInt) + 1
          · rw [if_pos (by omega), if_pos g2]
          · rw [if_neg (by omega), if_neg g2]; congr 1; omega
      refine Go.callV (C := "com/example/vellum_channels/vellumchannels/frame/HeaderLine") (pc' := 104) (a := b1032) (W := 0) (argsL := []) (rest := []) X1063 hx hby hZ9 ho9 (hw _ (List.mem_of_getElem? (i := 96) rfl)) (hw _ (List.mem_of_getElem? (i := 97) rfl)) (notFace_of_selects (args := #[]) (mvT hZ9 (hw _ (List.mem_of_getElem? (i := 99) rfl)))) (hw _ (List.mem_of_getElem? (i := 99) rfl)) (hw _ (List.mem_of_getElem? (i := 98) rfl)) (hw _ (List.mem_of_getElem? (i := 42) rfl)) (hw _ (List.mem_of_getElem? (i := 100) rfl)) (by decide) (rmTO l Z a0 hw b1032 T1061.heap h0.size ln2_ z2_ C2_ o2_ Zw g1041 gow Ew Fw Gw Aw yw2_ (by omega) (by omega) (by omega) (by omega) (by omega)) rfl Ew (by decide) (by decide) (by rw [hml]; rfl) pd_4 rfl rfl rfl (Nat.le_of_eq rfl) at_101 rfl (by decide) (by decide) ?_
      rintro r1064 T1065 L1066 X1067 ⟨r1, Rr1, rfl, gr1, Nr1, Kr1, Ar1, cr1, rl1, rm1⟩
      replace Ew := Ew.keep Kr1
      replace Fw := Fw.keep Kr1 nin0
      replace Gw := Gw.keep Kr1 nin0
      replace Aw := Aw.keep Kr1 nin0
      replace Zw : h0.size ≤ T1065.heap.size := Nat.le_trans Zw Kr1.1
      have hkr1 : k9 ≤ T1065.heap.size := Nat.le_trans hkw2_ Kr1.1
      show Go p e below _ (T1065.setTop (mkF m 104 #[.val (.int x0), .val (.int x1), .val (.int x2), .val (.int n1), .val (.int n2), .val (.int (1 : Int32)), .val (.int (1 : Int32)), .val (.ref s1), .val (.ref s2), .val (.ref b1032), .unset, .unset, .unset, .unset, .unset, .unset] [(.ref r1)]))
      refine Go.astore (Ls' := #[.val (.int x0), .val (.int x1), .val (.int x2), .val (.int n1), .val (.int n2), .val (.int (1 : Int32)), .val (.int (1 : Int32)), .val (.ref s1), .val (.ref s2), .val (.ref b1032), .val (.ref r1), .unset, .unset, .unset, .unset, .unset]) (pc' := 106) X1067 hx hby at_104 rfl rfl rfl ?_
      refine Go.aload (pc' := 108) X1067 hx hby at_106 rfl rfl rfl ?_
      refine Go.callV (C := "com/example/vellum_channels/vellumchannels/frame/HeaderLine") (pc' := 111) (a := b1032) (W := 0) (argsL := []) (rest := []) X1067 hx hby hZ9 ho9 (hw _ (List.mem_of_getElem? (i := 96) rfl)) (hw _ (List.mem_of_getElem? (i := 97) rfl)) (notFace_of_selects (args := #[]) (mvT hZ9 (hw _ (List.mem_of_getElem? (i := 99) rfl)))) (hw _ (List.mem_of_getElem? (i := 99) rfl)) (hw _ (List.mem_of_getElem? (i := 98) rfl)) (hw _ (List.mem_of_getElem? (i := 42) rfl)) (hw _ (List.mem_of_getElem? (i := 100) rfl)) (by decide) (rmTO l Z a0 hw b1032 T1065.heap h0.size ln2_ z2_ C2_ o2_ Zw g1041 gow Ew Fw Gw Aw yw2_ (by omega) (by omega) (by omega) (by omega) (by omega)) rfl Ew (by decide) (by decide) (by rw [hml]; rfl) pd_4 rfl rfl rfl (Nat.le_of_eq rfl) at_108 rfl (by decide) (by decide) ?_
      rintro r1068 T1069 L1070 X1071 ⟨r2, Rr2, rfl, gr2, Nr2, Kr2, Ar2, cr2, rl2, rm2⟩
      have nr : r1 ≠ r2 := Nat.ne_of_lt (Nat.lt_of_lt_of_le Ar1.lt gr2)
      replace Ar1 := Ar1.keep Kr2 nin0
      replace Zw : h0.size ≤ T1069.heap.size := Nat.le_trans Zw Kr2.1
      have hkr2 : k9 ≤ T1069.heap.size := Nat.le_trans hkr1 Kr2.1
      show Go p e below _ (T1069.setTop (mkF m 111 #[.val (.int x0), .val (.int x1), .val (.int x2), .val (.int n1), .val (.int n2), .val (.int (1 : Int32)), .val (.int (1 : Int32)), .val (.ref s1), .val (.ref s2), .val (.ref b1032), .val (.ref r1), .unset, .unset, .unset, .unset, .unset] [(.ref r2)]))
      refine Go.astore (Ls' := #[.val (.int x0), .val (.int x1), .val (.int x2), .val (.int n1), .val (.int n2), .val (.int (1 : Int32)), .val (.int (1 : Int32)), .val (.ref s1), .val (.ref s2), .val (.ref b1032), .val (.ref r1), .val (.ref r2), .unset, .unset, .unset, .unset]) (pc' := 113) X1071 hx hby at_111 rfl rfl rfl ?_
      refine Go.bipush (pc' := 115) X1071 hx hby at_113 rfl (v := (10 : Int32)) (by decide) ?_
      refine Go.newarr (pc' := 117) (cap := 10) (z := 10) X1071 hx hby hZ9 (hw _ (List.mem_of_getElem? (i := 7) rfl)) rfl at_115 rfl (by decide) (by decide) (by decide) (by decide) (by decide) (by decide) ?_
      intro b1072 T1073 h1074 g1075 X1076 e1077 E1078 A1079
      have n1080 : r1 ≠ b1072 := Nat.ne_of_lt (by rw [g1075]; exact Ar1.lt)
      have n1081 : r2 ≠ b1072 := Nat.ne_of_lt (by rw [g1075]; exact Ar2.lt)
      have g1082 : h0.size ≤ b1072 := by rw [g1075]; exact Zw
      have f1083 : Ar Z h1074 r1 .byte (ln2_.toInt + 2) (fun q => .int (Rr1 q)) := Ar1.ext E1078
      have f1084 : Ar Z h1074 r2 .byte (ln2_.toInt + 2) (fun q => .int (Rr2 q)) := Ar2.ext E1078
      have z1085 : h0.size ≤ h1074.size := Nat.le_trans Zw E1078.1
      have hk1086 : k9 ≤ h1074.size := Nat.le_trans hkr2 E1078.1
      have f1087 : Ar Z h1074 b1072 .char 10 (fun _ => (.int 0)) := A1079
      show Go p e below _ (T1073.setTop (mkF m 117 #[.val (.int x0), .val (.int x1), .val (.int x2), .val (.int n1), .val (.int n2), .val (.int (1 : Int32)), .val (.int (1 : Int32)), .val (.ref s1), .val (.ref s2), .val (.ref b1032), .val (.ref r1), .val (.ref r2), .unset, .unset, .unset, .unset] [(.ref b1072)]))
      refine Go.astore (Ls' := #[.val (.int x0), .val (.int x1), .val (.int x2), .val (.int n1), .val (.int n2), .val (.int (1 : Int32)), .val (.int (1 : Int32)), .val (.ref s1), .val (.ref s2), .val (.ref b1032), .val (.ref r1), .val (.ref r2), .val (.ref b1072), .unset, .unset, .unset]) (pc' := 119) X1076 hx hby at_117 rfl rfl rfl ?_
      refine Go.iconst (pc' := 120) X1076 hx hby at_119 rfl (v := (0 : Int32)) (by decide) ?_
      refine Go.istore (Ls' := #[.val (.int x0), .val (.int x1), .val (.int x2), .val (.int n1), .val (.int n2), .val (.int (1 : Int32)), .val (.int (1 : Int32)), .val (.ref s1), .val (.ref s2), .val (.ref b1032), .val (.ref r1), .val (.ref r2), .val (.ref b1072), .val (.int (0 : Int32)), .unset, .unset]) (pc' := 122) X1076 hx hby at_120 rfl rfl ?_
      refine Go.iload (pc' := 124) X1076 hx hby at_122 rfl rfl ?_
      refine Go.ifN (pc' := 127) X1076 hx hby at_124 rfl (show ¬ ((1 : Int32) = 0) from by decide) ?_
      refine Go.aload (pc' := 129) X1076 hx hby at_127 rfl rfl rfl ?_
      refine Go.iload (pc' := 131) X1076 hx hby at_129 rfl rfl ?_
      refine Go.iinc (w := (0 : Int32) + (1 : Int32)) (Ls' := #[.val (.int x0), .val (.int x1), .val (.int x2), .val (.int n1), .val (.int n2), .val (.int (1 : Int32)), .val (.int (1 : Int32)), .val (.ref s1), .val (.ref s2), .val (.ref b1032), .val (.ref r1), .val (.ref r2), .val (.ref b1072), .val (.int ((0 : Int32) + (1 : Int32))), .unset, .unset]) (pc' := 134) X1076 hx hby at_131 rfl rfl rfl rfl ?_
      change Go p e below _ (T1073.setTop (mkF m 134 #[.val (.int x0), .val (.int x1), .val (.int x2), .val (.int n1), .val (.int n2), .val (.int (1 : Int32)), .val (.int (1 : Int32)), .val (.ref s1), .val (.ref s2), .val (.ref b1032), .val (.ref r1), .val (.ref r2), .val (.ref b1072), .val (.int (1 : Int32)), .unset, .unset] [(.int (0 : Int32)), (.ref b1072)]))
      refine Go.bipush (pc' := 136) X1076 hx hby at_134 rfl (v := (32 : Int32)) (by decide) ?_
      refine Go.castore (pc' := 137) (i := 0) X1076 hx hby hZ9 e1077 f1087 at_136 rfl (by decide) (by decide) (by decide) ?_
      intro T1088 h1089 X1090 e1091 W1092 A1093
      have f1094 : Ar Z h1089 r1 .byte (ln2_.toInt + 2) (fun q => .int (Rr1 q)) := f1083.other W1092 n1080
      have f1095 : Ar Z h1089 r2 .byte (ln2_.toInt + 2) (fun q => .int (Rr2 q)) := f1084.other W1092 n1081
      have z1096 : h0.size ≤ h1089.size := by rw [Wr.size W1092]; exact z1085
      have hk1097 : k9 ≤ h1089.size := by rw [Wr.size W1092]; exact hk1086
      have f1098 : Ar Z h1089 b1072 .char 10 (fun q => if q = 0 then (.int (nar .char (32 : Int32))) else (.int 0)) := A1093
      have N1099 : Fr h0.size _ := Fr.snoc X1090 (Fr.app (Fr.app (Fr.app (Fr.app (Fr.app (Fr.app (Fr.app (Fr.app (Fr.nil _) N1) N2) N3) Nw0_) Nw1_) Nw2_) Nr1) Nr2) g1082
      show Go p e below _ (T1088.setTop (mkF m 137 #[.val (.int x0), .val (.int x1), .val (.int x2), .val (.int n1), .val (.int n2), .val (.int (1 : Int32)), .val (.int (1 : Int32)), .val (.ref s1), .val (.ref s2), .val (.ref b1032), .val (.ref r1), .val (.ref r2), .val (.ref b1072), .val (.int (1 : Int32)), .unset, .unset] []))
      refine Go.cutI (α := State × Heap × List Loc × Int32 × (Int → Int32)) (F := fun y => y.1.setTop (mkF m 190 #[.val (.int x0), .val (.int x1), .val (.int x2), .val (.int n1), .val (.int n2), .val (.int (1 : Int32)), .val (.int (1 : Int32)), .val (.ref s1), .val (.ref s2), .val (.ref b1032), .val (.ref r1), .val (.ref r2), .val (.ref b1072), .val (.int y.2.2.2.1), .unset, .unset] [])) (I := fun y => (Stand p l e room_1 (s.setVm T9.vm) m #[(.int x0), (.int x1), (.int x2)] below meth c y.1 y.2.2.1 21 1462) ∧ (y.1.heap = y.2.1) ∧ (Fr h0.size y.2.2.1) ∧ (h0.size ≤ y.2.1.size) ∧ (k9 ≤ y.2.1.size) ∧ (y.2.2.2.1.toInt = (1 + n1.toInt)) ∧ (Ar Z y.2.1 b1072 .char 10 (fun q => .int (y.2.2.2.2 q))) ∧ (∀ q : Int, 0 ≤ q → q < y.2.2.2.1.toInt → y.2.2.2.2 q = own_t1 x0 q) ∧ (Ar Z y.2.1 r1 .byte (ln2_.toInt + 2) (fun q => .int (Rr1 q))) ∧ (Ar Z y.2.1 r2 .byte (ln2_.toInt + 2) (fun q => .int (Rr2 q)))) ?_ ?_
      ·
        rintro ⟨T1100, h1101, L1102, tl, Tt⟩ ⟨X1103, e1104, N1105, z1106, hk1107, ht, At, ct, Ra, Rb⟩
        dsimp only at X1103 e1104 N1105 z1106 hk1107 ht At ct Ra Rb
        show Go p e below _ (T1100.setTop (mkF m 190 #[.val (.int x0), .val (.int x1), .val (.int x2), .val (.int n1), .val (.int n2), .val (.int (1 : Int32)), .val (.int (1 : Int32)), .val (.ref s1), .val (.ref s2), .val (.ref b1032), .val (.ref r1), .val (.ref r2), .val (.ref b1072), .val (.int tl), .unset, .unset] []))
        show Go p e below _ (T1100.setTop (mkF m 190 #[.val (.int x0), .val (.int x1), .val (.int x2), .val (.int n1), .val (.int n2), .val (.int (1 : Int32)), .val (.int (1 : Int32)), .val (.ref s1), .val (.ref s2), .val (.ref b1032), .val (.ref r1), .val (.ref r2), .val (.ref b1072), .val (.int tl), .unset, .unset] []))
        have tb : 0 ≤ tl.toInt ∧ tl.toInt ≤ 4 := by omega
        refine Go.cutI (α := State × Heap × List Loc × Int32 × (Int → Int32)) (F := fun y => y.1.setTop (mkF m 270 #[.val (.int x0), .val (.int x1), .val (.int x2), .val (.int n1), .val (.int n2), .val (.int (1 : Int32)), .val (.int (1 : Int32)), .val (.ref s1), .val (.ref s2), .val (.ref b1032), .val (.ref r1), .val (.ref r2), .val (.ref b1072), .val (.int y.2.2.2.1), .unset, .unset] [])) (I := fun y => (Stand p l e room_1 (s.setVm T9.vm) m #[(.int x0), (.int x1), (.int x2)] below meth c y.1 y.2.2.1 21 1462) ∧ (y.1.heap = y.2.1) ∧ (Fr h0.size y.2.2.1) ∧ (h0.size ≤ y.2.1.size) ∧ (k9 ≤ y.2.1.size) ∧ (y.2.2.2.1.toInt = (1 + n1.toInt) + 1 + n2.toInt) ∧ (Ar Z y.2.1 b1072 .char 10 (fun q => .int (y.2.2.2.2 q))) ∧ (∀ q : Int, 0 ≤ q → q < y.2.2.2.1.toInt → y.2.2.2.2 q = own_tb (1 + n1.toInt) 1 (own_t1 x0) x1 q) ∧ (Ar Z y.2.1 r1 .byte (ln2_.toInt + 2) (fun q => .int (Rr1 q))) ∧ (Ar Z y.2.1 r2 .byte (ln2_.toInt + 2) (fun q => .int (Rr2 q)))) ?_ ?_
        ·
          rintro ⟨T1108, h1109, L1110, tl, Tt⟩ ⟨X1111, e1112, N1113, z1114, hk1115, ht, At, ct, Ra, Rb⟩
          dsimp only at X1111 e1112 N1113 z1114 hk1115 ht At ct Ra Rb
          show Go p e below _ (T1108.setTop (mkF m 270 #[.val (.int x0), .val (.int x1), .val (.int x2), .val (.int n1), .val (.int n2), .val (.int (1 : Int32)), .val (.int (1 : Int32)), .val (.ref s1), .val (.ref s2), .val (.ref b1032), .val (.ref r1), .val (.ref r2), .val (.ref b1072), .val (.int tl), .unset, .unset] []))
          show Go p e below _ (T1108.setTop (mkF m 270 #[.val (.int x0), .val (.int x1), .val (.int x2), .val (.int n1), .val (.int n2), .val (.int (1 : Int32)), .val (.int (1 : Int32)), .val (.ref s1), .val (.ref s2), .val (.ref b1032), .val (.ref r1), .val (.ref r2), .val (.ref b1072), .val (.int tl), .unset, .unset] []))
          have tb : 0 ≤ tl.toInt ∧ tl.toInt ≤ 8 := by omega
          have e1_ : (tl + 1).toInt = tl.toInt + 1 := by rw [own_add tl 1 (by omega) (by omega) (by decide) (by decide), own_1]
          have e2_ : (tl + 1 + 1).toInt = tl.toInt + 2 := by rw [own_add _ 1 (by omega) (by omega) (by decide) (by decide), own_1]; omega
          have el : (ln2_ + 2).toInt = ln2_.toInt + 2 := by rw [own_add ln2_ 2 (by omega) (by omega) (by decide) (by decide), own_2]
          refine Go.aload (pc' := 272) X1111 hx hby at_270 rfl rfl rfl ?_
          refine Go.iload (pc' := 274) X1111 hx hby at_272 rfl rfl ?_
          refine Go.iinc (w := tl + (1 : Int32)) (Ls' := #[.val (.int x0), .val (.int x1), .val (.int x2), .val (.int n1), .val (.int n2), .val (.int (1 : Int32)), .val (.int (1 : Int32)), .val (.ref s1), .val (.ref s2), .val (.ref b1032), .val (.ref r1), .val (.ref r2), .val (.ref b1072), .val (.int (tl + (1 : Int32))), .unset, .unset]) (pc' := 277) X1111 hx hby at_274 rfl rfl rfl rfl ?_
          refine Go.bipush (pc' := 279) X1111 hx hby at_277 rfl (v := (13 : Int32)) (by decide) ?_
          refine Go.castore (pc' := 280) (i := tl.toInt) X1111 hx hby hZ9 e1112 At at_279 rfl rfl (by omega) (by omega) ?_
          intro T1116 h1117 X1118 e1119 W1120 A1121
          have f1122 : Ar Z h1117 r1 .byte (ln2_.toInt + 2) (fun q => .int (Rr1 q)) := Ra.other W1120 n1080
          have f1123 : Ar Z h1117 r2 .byte (ln2_.toInt + 2) (fun q => .int (Rr2 q)) := Rb.other W1120 n1081
          have z1124 : h0.size ≤ h1117.size := by rw [Wr.size W1120]; exact z1114
          have hk1125 : k9 ≤ h1117.size := by rw [Wr.size W1120]; exact hk1115
          have f1126 : Ar Z h1117 b1072 .char 10 (fun q => if q = tl.toInt then (.int (nar .char (13 : Int32))) else .int (Tt q)) := A1121
          have N1127 : Fr h0.size _ := Fr.snoc X1118 N1113 g1082
          show Go p e below _ (T1116.setTop (mkF m 280 #[.val (.int x0), .val (.int x1), .val (.int x2), .val (.int n1), .val (.int n2), .val (.int (1 : Int32)), .val (.int (1 : Int32)), .val (.ref s1), .val (.ref s2), .val (.ref b1032), .val (.ref r1), .val (.ref r2), .val (.ref b1072), .val (.int (tl + (1 : Int32))), .unset, .unset] []))
          refine Go.aload (pc' := 282) X1118 hx hby at_280 rfl rfl rfl ?_
          refine Go.iload (pc' := 284) X1118 hx hby at_282 rfl rfl ?_
          refine Go.iinc (w := (tl + (1 : Int32)) + (1 : Int32)) (Ls' := #[.val (.int x0), .val (.int x1), .val (.int x2), .val (.int n1), .val (.int n2), .val (.int (1 : Int32)), .val (.int (1 : Int32)), .val (.ref s1), .val (.ref s2), .val (.ref b1032), .val (.ref r1), .val (.ref r2), .val (.ref b1072), .val (.int ((tl + (1 : Int32)) + (1 : Int32))), .unset, .unset]) (pc' := 287) X1118 hx hby at_284 rfl rfl rfl rfl ?_
          refine Go.bipush (pc' := 289) X1118 hx hby at_287 rfl (v := (10 : Int32)) (by decide) ?_
          refine Go.castore (pc' := 290) (i := (tl.toInt + 1)) X1118 hx hby hZ9 e1119 f1126 at_289 rfl e1_ (by omega) (by omega) ?_
          intro T1128 h1129 X1130 e1131 W1132 A1133
          have f1134 : Ar Z h1129 r1 .byte (ln2_.toInt + 2) (fun q => .int (Rr1 q)) := f1122.other W1132 n1080
          have f1135 : Ar Z h1129 r2 .byte (ln2_.toInt + 2) (fun q => .int (Rr2 q)) := f1123.other W1132 n1081
          have z1136 : h0.size ≤ h1129.size := by rw [Wr.size W1132]; exact z1124
          have hk1137 : k9 ≤ h1129.size := by rw [Wr.size W1132]; exact hk1125
          have f1138 : Ar Z h1129 b1072 .char 10 (fun q => if q = (tl.toInt + 1) then (.int (nar .char (10 : Int32))) else if q = tl.toInt then (.int (nar .char (13 : Int32))) else .int (Tt q)) := A1133
          have N1139 : Fr h0.size _ := Fr.snoc X1130 N1127 g1082
          show Go p e below _ (T1128.setTop (mkF m 290 #[.val (.int x0), .val (.int x1), .val (.int x2), .val (.int n1), .val (.int n2), .val (.int (1 : Int32)), .val (.int (1 : Int32)), .val (.ref s1), .val (.ref s2), .val (.ref b1032), .val (.ref r1), .val (.ref r2), .val (.ref b1072), .val (.int ((tl + (1 : Int32)) + (1 : Int32))), .unset, .unset] []))
          have f1140 : Ar Z h1129 b1072 .char 10 (fun q => .int ((fun q => if q = tl.toInt + 1 then 10 else if q = tl.toInt then 13 else Tt q) q)) := f1138.congr (fun i h1 h2 => by simp only [apply_ite Value.int, own_nc7 (own_ckr x0 _), own_nc7 (own_ckr x1 _), own_nc32, own_nc13, own_nc10])
          refine Go.iload (pc' := 292) X1130 hx hby at_290 rfl rfl ?_
          refine Go.ifN (pc' := 295) X1130 hx hby at_292 rfl (show ¬ ((1 : Int32) = 0) from by decide) ?_
          refine Go.bipush (pc' := 297) X1130 hx hby at_295 rfl (v := (61 : Int32)) (by decide) ?_
          refine Go.goto (pc' := 301) X1130 hx hby at_297 (by decide) (by decide) ?_
          refine Go.istore (Ls' := #[.val (.int x0), .val (.int x1), .val (.int x2), .val (.int n1), .val (.int n2), .val (.int (1 : Int32)), .val (.int (1 : Int32)), .val (.ref s1), .val (.ref s2), .val (.ref b1032), .val (.ref r1), .val (.ref r2), .val (.ref b1072), .val (.int ((tl + (1 : Int32)) + (1 : Int32))), .val (.int (61 : Int32)), .unset]) (pc' := 303) X1130 hx hby at_301 rfl rfl ?_
          refine Go.aload (pc' := 305) X1130 hx hby at_303 rfl rfl rfl ?_
          refine Go.alen (pc' := 306) (zv := ln2_ + 2) X1130 hx hby hZ9 e1131 f1134 at_305 rfl el ?_
          refine Go.iload (pc' := 308) X1130 hx hby at_306 rfl rfl ?_
          refine Go.iload (pc' := 310) X1130 hx hby at_308 rfl rfl ?_
          refine Go.iadd (pc' := 311) X1130 hx hby at_310 rfl ?_
          have eo : ((61 : Int32) + (tl + 1 + 1)).toInt = 61 + (tl.toInt + 2) := by rw [own_add _ _ (by decide) (by decide) (by omega) (by omega), e2_, v61]
          refine Go.icmpY (pc' := 316) X1130 hx hby at_311 (by decide) (by decide) (show (ln2_ + 2) = ((61 : Int32) + ((tl + (1 : Int32)) + (1 : Int32))) from Int32.toInt_inj.mp (by rw [el]; refine Eq.trans ?_ eo.symm; omega)) ?_
          have hQ : ∀ j : Int, 0 ≤ j → j < (tl + 1 + 1).toInt → Rr1 ((61 : Int32).toInt + j) = (fun q => if q = tl.toInt + 1 then 10 else if q = tl.toInt then 13 else Tt q) j ∧ Own7 ((fun q => if q = tl.toInt + 1 then 10 else if q = tl.toInt then 13 else Tt q) j) := by
            intro j h1 h2
            rw [e2_] at h2; rw [v61]; dsimp only
            by_cases g1 : j = tl.toInt + 1
            · rw [if_pos g1]; refine ⟨?_, by decide⟩; rw [← rm1]; congr 1; omega
            · rw [if_neg g1]
              by_cases g2 : j = tl.toInt
              · rw [if_pos g2]; refine ⟨?_, by decide⟩; rw [← rl1]; congr 1; omega
              · rw [if_neg g2, ct j h1 (by omega), cr1 _ (by omega), c2s j h1 (by omega)]; exact ⟨rfl, (own_tb7 _ _ _ _ (own_t17 x0)) j⟩
          refine Go.aload (pc' := 318) X1130 hx hby at_316 rfl rfl rfl ?_
          refine Go.iload (pc' := 320) X1130 hx hby at_318 rfl rfl ?_
          refine Go.aload (pc' := 322) X1130 hx hby at_320 rfl rfl rfl ?_
          refine Go.iload (pc' := 324) X1130 hx hby at_322 rfl rfl ?_
          refine Go.iconst (pc' := 325) X1130 hx hby at_324 rfl (v := (0 : Int32)) (by decide) ?_
          refine Go.callS (pc' := 328) (W := 0) (argsL := [(.ref r1), (.int (61 : Int32)), (.ref b1072), (.int ((tl + (1 : Int32)) + (1 : Int32))), (.int (0 : Int32))]) (rest := []) X1130 hx hby hZ9 ho9 (hw _ (List.mem_of_getElem? (i := 113) rfl)) (hw _ (List.mem_of_getElem? (i := 114) rfl)) (hw _ (List.mem_of_getElem? (i := 2) rfl)) (hw _ (List.mem_of_getElem? (i := 115) rfl)) (by decide) (rmSA l Z a0 hw r1 (61 : Int32) b1072 (tl + 1 + 1) 0 h1129 (ln2_.toInt + 2) 10 Rr1 (fun q => if q = tl.toInt + 1 then 10 else if q = tl.toInt then 13 else Tt q) f1134 f1140 (by decide) (by decide) (by decide) (by decide) (by rw [e2_, v61]; omega) (by rw [e2_]; omega) (fun h => hQ _ (by decide) h)) e1131 (by decide) (by decide) (by rw [hml]; rfl) pd_20 rfl rfl rfl (Nat.le_of_eq rfl) at_325 rfl (by decide) (by decide) ?_
          rintro r1142 T1143 L1144 X1145 ⟨rfl, rfl, e1141⟩
          rw [List.append_nil] at X1145
          show Go p e below _ (T1143.setTop (mkF m 328 #[.val (.int x0), .val (.int x1), .val (.int x2), .val (.int n1), .val (.int n2), .val (.int (1 : Int32)), .val (.int (1 : Int32)), .val (.ref s1), .val (.ref s2), .val (.ref b1032), .val (.ref r1), .val (.ref r2), .val (.ref b1072), .val (.int ((tl + (1 : Int32)) + (1 : Int32))), .val (.int (61 : Int32)), .unset] [(.int (1 : Int32))]))
          refine Go.ifN (pc' := 331) X1145 hx hby at_328 rfl (show ¬ ((1 : Int32) = 0) from by decide) ?_
          refine Go.aload (pc' := 333) X1145 hx hby at_331 rfl rfl rfl ?_
          refine Go.iload (pc' := 335) X1145 hx hby at_333 rfl rfl ?_
          refine Go.aload (pc' := 337) X1145 hx hby at_335 rfl rfl rfl ?_
          refine Go.iload (pc' := 339) X1145 hx hby at_337 rfl rfl ?_
          refine Go.iconst (pc' := 340) X1145 hx hby at_339 rfl (v := (1 : Int32)) (by decide) ?_
          refine Go.callS (pc' := 343) (W := 0) (argsL := [(.ref r1), (.int (61 : Int32)), (.ref b1072), (.int ((tl + (1 : Int32)) + (1 : Int32))), (.int (1 : Int32))]) (rest := []) X1145 hx hby hZ9 ho9 (hw _ (List.mem_of_getElem? (i := 113) rfl)) (hw _ (List.mem_of_getElem? (i := 114) rfl)) (hw _ (List.mem_of_getElem? (i := 2) rfl)) (hw _ (List.mem_of_getElem? (i := 115) rfl)) (by decide) (rmSA l Z a0 hw r1 (61 : Int32) b1072 (tl + 1 + 1) 1 h1129 (ln2_.toInt + 2) 10 Rr1 (fun q => if q = tl.toInt + 1 then 10 else if q = tl.toInt then 13 else Tt q) f1134 f1140 (by decide) (by decide) (by decide) (by decide) (by rw [e2_, v61]; omega) (by rw [e2_]; omega) (fun h => hQ _ (by decide) h)) e1141 (by decide) (by decide) (by rw [hml]; rfl) pd_20 rfl rfl rfl (Nat.le_of_eq rfl) at_340 rfl (by decide) (by decide) ?_
          rintro r1147 T1148 L1149 X1150 ⟨rfl, rfl, e1146⟩
          rw [List.append_nil] at X1150
          show Go p e below _ (T1148.setTop (mkF m 343 #[.val (.int x0), .val (.int x1), .val (.int x2), .val (.int n1), .val (.int n2), .val (.int (1 : Int32)), .val (.int (1 : Int32)), .val (.ref s1), .val (.ref s2), .val (.ref b1032), .val (.ref r1), .val (.ref r2), .val (.ref b1072), .val (.int ((tl + (1 : Int32)) + (1 : Int32))), .val (.int (61 : Int32)), .unset] [(.int (1 : Int32))]))
          refine Go.ifN (pc' := 346) X1150 hx hby at_343 rfl (show ¬ ((1 : Int32) = 0) from by decide) ?_
          refine Go.aload (pc' := 348) X1150 hx hby at_346 rfl rfl rfl ?_
          refine Go.iload (pc' := 350) X1150 hx hby at_348 rfl rfl ?_
          refine Go.aload (pc' := 352) X1150 hx hby at_350 rfl rfl rfl ?_
          refine Go.iload (pc' := 354) X1150 hx hby at_352 rfl rfl ?_
          refine Go.iconst (pc' := 355) X1150 hx hby at_354 rfl (v := (2 : Int32)) (by decide) ?_
          refine Go.callS (pc' := 358) (W := 0) (argsL := [(.ref r1), (.int (61 : Int32)), (.ref b1072), (.int ((tl + (1 : Int32)) + (1 : Int32))), (.int (2 : Int32))]) (rest := []) X1150 hx hby hZ9 ho9 (hw _ (List.mem_of_getElem? (i := 113) rfl)) (hw _ (List.mem_of_getElem? (i := 114) rfl)) (hw _ (List.mem_of_getElem? (i := 2) rfl)) (hw _ (List.mem_of_getElem? (i := 115) rfl)) (by decide) (rmSA l Z a0 hw r1 (61 : Int32) b1072 (tl + 1 + 1) 2 h1129 (ln2_.toInt + 2) 10 Rr1 (fun q => if q = tl.toInt + 1 then 10 else if q = tl.toInt then 13 else Tt q) f1134 f1140 (by decide) (by decide) (by decide) (by decide) (by rw [e2_, v61]; omega) (by rw [e2_]; omega) (fun h => hQ _ (by decide) h)) e1146 (by decide) (by decide) (by rw [hml]; rfl) pd_20 rfl rfl rfl (Nat.le_of_eq rfl) at_355 rfl (by decide) (by decide) ?_
          rintro r1152 T1153 L1154 X1155 ⟨rfl, rfl, e1151⟩
          rw [List.append_nil] at X1155
          show Go p e below _ (T1153.setTop (mkF m 358 #[.val (.int x0), .val (.int x1), .val (.int x2), .val (.int n1), .val (.int n2), .val (.int (1 : Int32)), .val (.int (1 : Int32)), .val (.ref s1), .val (.ref s2), .val (.ref b1032), .val (.ref r1), .val (.ref r2), .val (.ref b1072), .val (.int ((tl + (1 : Int32)) + (1 : Int32))), .val (.int (61 : Int32)), .unset] [(.int (1 : Int32))]))
          refine Go.ifN (pc' := 361) X1155 hx hby at_358 rfl (show ¬ ((1 : Int32) = 0) from by decide) ?_
          refine Go.aload (pc' := 363) X1155 hx hby at_361 rfl rfl rfl ?_
          refine Go.iload (pc' := 365) X1155 hx hby at_363 rfl rfl ?_
          refine Go.aload (pc' := 367) X1155 hx hby at_365 rfl rfl rfl ?_
          refine Go.iload (pc' := 369) X1155 hx hby at_367 rfl rfl ?_
          refine Go.iconst (pc' := 370) X1155 hx hby at_369 rfl (v := (3 : Int32)) (by decide) ?_
          refine Go.callS (pc' := 373) (W := 0) (argsL := [(.ref r1), (.int (61 : Int32)), (.ref b1072), (.int ((tl + (1 : Int32)) + (1 : Int32))), (.int (3 : Int32))]) (rest := []) X1155 hx hby hZ9 ho9 (hw _ (List.mem_of_getElem? (i := 113) rfl)) (hw _ (List.mem_of_getElem? (i := 114) rfl)) (hw _ (List.mem_of_getElem? (i := 2) rfl)) (hw _ (List.mem_of_getElem? (i := 115) rfl)) (by decide) (rmSA l Z a0 hw r1 (61 : Int32) b1072 (tl + 1 + 1) 3 h1129 (ln2_.toInt + 2) 10 Rr1 (fun q => if q = tl.toInt + 1 then 10 else if q = tl.toInt then 13 else Tt q) f1134 f1140 (by decide) (by decide) (by decide) (by decide) (by rw [e2_, v61]; omega) (by rw [e2_]; omega) (fun h => hQ _ (by decide) h)) e1151 (by decide) (by decide) (by rw [hml]; rfl) pd_20 rfl rfl rfl (Nat.le_of_eq rfl) at_370 rfl (by decide) (by decide) ?_
          rintro r1157 T1158 L1159 X1160 ⟨rfl, rfl, e1156⟩
          rw [List.append_nil] at X1160
          show Go p e below _ (T1158.setTop (mkF m 373 #[.val (.int x0), .val (.int x1), .val (.int x2), .val (.int n1), .val (.int n2), .val (.int (1 : Int32)), .val (.int (1 : Int32)), .val (.ref s1), .val (.ref s2), .val (.ref b1032), .val (.ref r1), .val (.ref r2), .val (.ref b1072), .val (.int ((tl + (1 : Int32)) + (1 : Int32))), .val (.int (61 : Int32)), .unset] [(.int (1 : Int32))]))
          refine Go.ifN (pc' := 376) X1160 hx hby at_373 rfl (show ¬ ((1 : Int32) = 0) from by decide) ?_
          refine Go.aload (pc' := 378) X1160 hx hby at_376 rfl rfl rfl ?_
          refine Go.iload (pc' := 380) X1160 hx hby at_378 rfl rfl ?_
          refine Go.aload (pc' := 382) X1160 hx hby at_380 rfl rfl rfl ?_
          refine Go.iload (pc' := 384) X1160 hx hby at_382 rfl rfl ?_
          refine Go.iconst (pc' := 385) X1160 hx hby at_384 rfl (v := (4 : Int32)) (by decide) ?_
          refine Go.callS (pc' := 388) (W := 0) (argsL := [(.ref r1), (.int (61 : Int32)), (.ref b1072), (.int ((tl + (1 : Int32)) + (1 : Int32))), (.int (4 : Int32))]) (rest := []) X1160 hx hby hZ9 ho9 (hw _ (List.mem_of_getElem? (i := 113) rfl)) (hw _ (List.mem_of_getElem? (i := 114) rfl)) (hw _ (List.mem_of_getElem? (i := 2) rfl)) (hw _ (List.mem_of_getElem? (i := 115) rfl)) (by decide) (rmSA l Z a0 hw r1 (61 : Int32) b1072 (tl + 1 + 1) 4 h1129 (ln2_.toInt + 2) 10 Rr1 (fun q => if q = tl.toInt + 1 then 10 else if q = tl.toInt then 13 else Tt q) f1134 f1140 (by decide) (by decide) (by decide) (by decide) (by rw [e2_, v61]; omega) (by rw [e2_]; omega) (fun h => hQ _ (by decide) h)) e1156 (by decide) (by decide) (by rw [hml]; rfl) pd_20 rfl rfl rfl (Nat.le_of_eq rfl) at_385 rfl (by decide) (by decide) ?_
          rintro r1162 T1163 L1164 X1165 ⟨rfl, rfl, e1161⟩
          rw [List.append_nil] at X1165
          show Go p e below _ (T1163.setTop (mkF m 388 #[.val (.int x0), .val (.int x1), .val (.int x2), .val (.int n1), .val (.int n2), .val (.int (1 : Int32)), .val (.int (1 : Int32)), .val (.ref s1), .val (.ref s2), .val (.ref b1032), .val (.ref r1), .val (.ref r2), .val (.ref b1072), .val (.int ((tl + (1 : Int32)) + (1 : Int32))), .val (.int (61 : Int32)), .unset] [(.int (1 : Int32))]))
          refine Go.ifN (pc' := 391) X1165 hx hby at_388 rfl (show ¬ ((1 : Int32) = 0) from by decide) ?_
          refine Go.aload (pc' := 393) X1165 hx hby at_391 rfl rfl rfl ?_
          refine Go.iload (pc' := 395) X1165 hx hby at_393 rfl rfl ?_
          refine Go.aload (pc' := 397) X1165 hx hby at_395 rfl rfl rfl ?_
          refine Go.iload (pc' := 399) X1165 hx hby at_397 rfl rfl ?_
          refine Go.iconst (pc' := 400) X1165 hx hby at_399 rfl (v := (5 : Int32)) (by decide) ?_
          refine Go.callS (pc' := 403) (W := 0) (argsL := [(.ref r1), (.int (61 : Int32)), (.ref b1072), (.int ((tl + (1 : Int32)) + (1 : Int32))), (.int (5 : Int32))]) (rest := []) X1165 hx hby hZ9 ho9 (hw _ (List.mem_of_getElem? (i := 113) rfl)) (hw _ (List.mem_of_getElem? (i := 114) rfl)) (hw _ (List.mem_of_getElem? (i := 2) rfl)) (hw _ (List.mem_of_getElem? (i := 115) rfl)) (by decide) (rmSA l Z a0 hw r1 (61 : Int32) b1072 (tl + 1 + 1) 5 h1129 (ln2_.toInt + 2) 10 Rr1 (fun q => if q = tl.toInt + 1 then 10 else if q = tl.toInt then 13 else Tt q) f1134 f1140 (by decide) (by decide) (by decide) (by decide) (by rw [e2_, v61]; omega) (by rw [e2_]; omega) (fun h => hQ _ (by decide) h)) e1161 (by decide) (by decide) (by rw [hml]; rfl) pd_20 rfl rfl rfl (Nat.le_of_eq rfl) at_400 rfl (by decide) (by decide) ?_
          rintro r1167 T1168 L1169 X1170 ⟨rfl, rfl, e1166⟩
          rw [List.append_nil] at X1170
          show Go p e below _ (T1168.setTop (mkF m 403 #[.val (.int x0), .val (.int x1), .val (.int x2), .val (.int n1), .val (.int n2), .val (.int (1 : Int32)), .val (.int (1 : Int32)), .val (.ref s1), .val (.ref s2), .val (.ref b1032), .val (.ref r1), .val (.ref r2), .val (.ref b1072), .val (.int ((tl + (1 : Int32)) + (1 : Int32))), .val (.int (61 : Int32)), .unset] [(.int (1 : Int32))]))
          refine Go.ifN (pc' := 406) X1170 hx hby at_403 rfl (show ¬ ((1 : Int32) = 0) from by decide) ?_
          refine Go.aload (pc' := 408) X1170 hx hby at_406 rfl rfl rfl ?_
          refine Go.iload (pc' := 410) X1170 hx hby at_408 rfl rfl ?_
          refine Go.aload (pc' := 412) X1170 hx hby at_410 rfl rfl rfl ?_
          refine Go.iload (pc' := 414) X1170 hx hby at_412 rfl rfl ?_
          refine Go.bipush (pc' := 416) X1170 hx hby at_414 rfl (v := (6 : Int32)) (by decide) ?_
          refine Go.callS (pc' := 419) (W := 0) (argsL := [(.ref r1), (.int (61 : Int32)), (.ref b1072), (.int ((tl + (1 : Int32)) + (1 : Int32))), (.int (6 : Int32))]) (rest := []) X1170 hx hby hZ9 ho9 (hw _ (List.mem_of_getElem? (i := 113) rfl)) (hw _ (List.mem_of_getElem? (i := 114) rfl)) (hw _ (List.mem_of_getElem? (i := 2) rfl)) (hw _ (List.mem_of_getElem? (i := 115) rfl)) (by decide) (rmSA l Z a0 hw r1 (61 : Int32) b1072 (tl + 1 + 1) 6 h1129 (ln2_.toInt + 2) 10 Rr1 (fun q => if q = tl.toInt + 1 then 10 else if q = tl.toInt then 13 else Tt q) f1134 f1140 (by decide) (by decide) (by decide) (by decide) (by rw [e2_, v61]; omega) (by rw [e2_]; omega) (fun h => hQ _ (by decide) h)) e1166 (by decide) (by decide) (by rw [hml]; rfl) pd_20 rfl rfl rfl (Nat.le_of_eq rfl) at_416 rfl (by decide) (by decide) ?_
          rintro r1172 T1173 L1174 X1175 ⟨rfl, rfl, e1171⟩
          rw [List.append_nil] at X1175
          show Go p e below _ (T1173.setTop (mkF m 419 #[.val (.int x0), .val (.int x1), .val (.int x2), .val (.int n1), .val (.int n2), .val (.int (1 : Int32)), .val (.int (1 : Int32)), .val (.ref s1), .val (.ref s2), .val (.ref b1032), .val (.ref r1), .val (.ref r2), .val (.ref b1072), .val (.int ((tl + (1 : Int32)) + (1 : Int32))), .val (.int (61 : Int32)), .unset] [(.int (1 : Int32))]))
          refine Go.ifN (pc' := 422) X1175 hx hby at_419 rfl (show ¬ ((1 : Int32) = 0) from by decide) ?_
          refine Go.aload (pc' := 424) X1175 hx hby at_422 rfl rfl rfl ?_
          refine Go.iload (pc' := 426) X1175 hx hby at_424 rfl rfl ?_
          refine Go.aload (pc' := 428) X1175 hx hby at_426 rfl rfl rfl ?_
          refine Go.iload (pc' := 430) X1175 hx hby at_428 rfl rfl ?_
          refine Go.bipush (pc' := 432) X1175 hx hby at_430 rfl (v := (7 : Int32)) (by decide) ?_
          refine Go.callS (pc' := 435) (W := 0) (argsL := [(.ref r1), (.int (61 : Int32)), (.ref b1072), (.int ((tl + (1 : Int32)) + (1 : Int32))), (.int (7 : Int32))]) (rest := []) X1175 hx hby hZ9 ho9 (hw _ (List.mem_of_getElem? (i := 113) rfl)) (hw _ (List.mem_of_getElem? (i := 114) rfl)) (hw _ (List.mem_of_getElem? (i := 2) rfl)) (hw _ (List.mem_of_getElem? (i := 115) rfl)) (by decide) (rmSA l Z a0 hw r1 (61 : Int32) b1072 (tl + 1 + 1) 7 h1129 (ln2_.toInt + 2) 10 Rr1 (fun q => if q = tl.toInt + 1 then 10 else if q = tl.toInt then 13 else Tt q) f1134 f1140 (by decide) (by decide) (by decide) (by decide) (by rw [e2_, v61]; omega) (by rw [e2_]; omega) (fun h => hQ _ (by decide) h)) e1171 (by decide) (by decide) (by rw [hml]; rfl) pd_20 rfl rfl rfl (Nat.le_of_eq rfl) at_432 rfl (by decide) (by decide) ?_
          rintro r1177 T1178 L1179 X1180 ⟨rfl, rfl, e1176⟩
          rw [List.append_nil] at X1180
          show Go p e below _ (T1178.setTop (mkF m 435 #[.val (.int x0), .val (.int x1), .val (.int x2), .val (.int n1), .val (.int n2), .val (.int (1 : Int32)), .val (.int (1 : Int32)), .val (.ref s1), .val (.ref s2), .val (.ref b1032), .val (.ref r1), .val (.ref r2), .val (.ref b1072), .val (.int ((tl + (1 : Int32)) + (1 : Int32))), .val (.int (61 : Int32)), .unset] [(.int (1 : Int32))]))
          refine Go.ifN (pc' := 438) X1180 hx hby at_435 rfl (show ¬ ((1 : Int32) = 0) from by decide) ?_
          refine Go.aload (pc' := 440) X1180 hx hby at_438 rfl rfl rfl ?_
          refine Go.iload (pc' := 442) X1180 hx hby at_440 rfl rfl ?_
          refine Go.aload (pc' := 444) X1180 hx hby at_442 rfl rfl rfl ?_
          refine Go.iload (pc' := 446) X1180 hx hby at_444 rfl rfl ?_
          refine Go.bipush (pc' := 448) X1180 hx hby at_446 rfl (v := (8 : Int32)) (by decide) ?_
          refine Go.callS (pc' := 451) (W := 0) (argsL := [(.ref r1), (.int (61 : Int32)), (.ref b1072), (.int ((tl + (1 : Int32)) + (1 : Int32))), (.int (8 : Int32))]) (rest := []) X1180 hx hby hZ9 ho9 (hw _ (List.mem_of_getElem? (i := 113) rfl)) (hw _ (List.mem_of_getElem? (i := 114) rfl)) (hw _ (List.mem_of_getElem? (i := 2) rfl)) (hw _ (List.mem_of_getElem? (i := 115) rfl)) (by decide) (rmSA l Z a0 hw r1 (61 : Int32) b1072 (tl + 1 + 1) 8 h1129 (ln2_.toInt + 2) 10 Rr1 (fun q => if q = tl.toInt + 1 then 10 else if q = tl.toInt then 13 else Tt q) f1134 f1140 (by decide) (by decide) (by decide) (by decide) (by rw [e2_, v61]; omega) (by rw [e2_]; omega) (fun h => hQ _ (by decide) h)) e1176 (by decide) (by decide) (by rw [hml]; rfl) pd_20 rfl rfl rfl (Nat.le_of_eq rfl) at_448 rfl (by decide) (by decide) ?_
          rintro r1182 T1183 L1184 X1185 ⟨rfl, rfl, e1181⟩
          rw [List.append_nil] at X1185
          show Go p e below _ (T1183.setTop (mkF m 451 #[.val (.int x0), .val (.int x1), .val (.int x2), .val (.int n1), .val (.int n2), .val (.int (1 : Int32)), .val (.int (1 : Int32)), .val (.ref s1), .val (.ref s2), .val (.ref b1032), .val (.ref r1), .val (.ref r2), .val (.ref b1072), .val (.int ((tl + (1 : Int32)) + (1 : Int32))), .val (.int (61 : Int32)), .unset] [(.int (1 : Int32))]))
          refine Go.ifN (pc' := 454) X1185 hx hby at_451 rfl (show ¬ ((1 : Int32) = 0) from by decide) ?_
          refine Go.aload (pc' := 456) X1185 hx hby at_454 rfl rfl rfl ?_
          refine Go.iload (pc' := 458) X1185 hx hby at_456 rfl rfl ?_
          refine Go.aload (pc' := 460) X1185 hx hby at_458 rfl rfl rfl ?_
          refine Go.iload (pc' := 462) X1185 hx hby at_460 rfl rfl ?_
          refine Go.bipush (pc' := 464) X1185 hx hby at_462 rfl (v := (9 : Int32)) (by decide) ?_
          refine Go.callS (pc' := 467) (W := 0) (argsL := [(.ref r1), (.int (61 : Int32)), (.ref b1072), (.int ((tl + (1 : Int32)) + (1 : Int32))), (.int (9 : Int32))]) (rest := []) X1185 hx hby hZ9 ho9 (hw _ (List.mem_of_getElem? (i := 113) rfl)) (hw _ (List.mem_of_getElem? (i := 114) rfl)) (hw _ (List.mem_of_getElem? (i := 2) rfl)) (hw _ (List.mem_of_getElem? (i := 115) rfl)) (by decide) (rmSA l Z a0 hw r1 (61 : Int32) b1072 (tl + 1 + 1) 9 h1129 (ln2_.toInt + 2) 10 Rr1 (fun q => if q = tl.toInt + 1 then 10 else if q = tl.toInt then 13 else Tt q) f1134 f1140 (by decide) (by decide) (by decide) (by decide) (by rw [e2_, v61]; omega) (by rw [e2_]; omega) (fun h => hQ _ (by decide) h)) e1181 (by decide) (by decide) (by rw [hml]; rfl) pd_20 rfl rfl rfl (Nat.le_of_eq rfl) at_464 rfl (by decide) (by decide) ?_
          rintro r1187 T1188 L1189 X1190 ⟨rfl, rfl, e1186⟩
          rw [List.append_nil] at X1190
          show Go p e below _ (T1188.setTop (mkF m 467 #[.val (.int x0), .val (.int x1), .val (.int x2), .val (.int n1), .val (.int n2), .val (.int (1 : Int32)), .val (.int (1 : Int32)), .val (.ref s1), .val (.ref s2), .val (.ref b1032), .val (.ref r1), .val (.ref r2), .val (.ref b1072), .val (.int ((tl + (1 : Int32)) + (1 : Int32))), .val (.int (61 : Int32)), .unset] [(.int (1 : Int32))]))
          refine Go.ifN (pc' := 470) X1190 hx hby at_467 rfl (show ¬ ((1 : Int32) = 0) from by decide) ?_
          refine Go.iconst (pc' := 471) X1190 hx hby at_470 rfl (v := (1 : Int32)) (by decide) ?_
          refine Go.goto (pc' := 475) X1190 hx hby at_471 (by decide) (by decide) ?_
          refine Go.istore (Ls' := #[.val (.int x0), .val (.int x1), .val (.int x2), .val (.int n1), .val (.int n2), .val (.int (1 : Int32)), .val (.int (1 : Int32)), .val (.ref s1), .val (.ref s2), .val (.ref b1032), .val (.ref r1), .val (.ref r2), .val (.ref b1072), .val (.int ((tl + (1 : Int32)) + (1 : Int32))), .val (.int (61 : Int32)), .val (.int (1 : Int32))]) (pc' := 477) X1190 hx hby at_475 rfl rfl ?_
          refine Go.iload (pc' := 479) X1190 hx hby at_477 rfl rfl ?_
          refine Go.ifN (pc' := 482) X1190 hx hby at_479 rfl (show ¬ ((1 : Int32) = 0) from by decide) ?_
          refine Go.iload (pc' := 484) X1190 hx hby at_482 rfl rfl ?_
          refine Go.ifN (pc' := 487) X1190 hx hby at_484 rfl (show ¬ ((1 : Int32) = 0) from by decide) ?_
          refine Go.aload (pc' := 489) X1190 hx hby at_487 rfl rfl rfl ?_
          refine Go.iconst (pc' := 490) X1190 hx hby at_489 rfl (v := (0 : Int32)) (by decide) ?_
          refine Go.baload (pc' := 491) (i := 0) (v := (.int (Rr1 0))) X1190 hx hby hZ9 e1186 f1134 at_490 rfl (by decide) (by decide) (by omega) rfl ?_
          refine Go.bipush (pc' := 493) X1190 hx hby at_491 rfl (v := (65 : Int32)) (by decide) ?_
          refine Go.icmpN (pc' := 496) X1190 hx hby at_493 rfl (show ¬ ((Rr1 0) ≠ (65 : Int32)) from fun q => q (by rw [cr1 0 (by omega), pfx 0 (by omega) (by omega)]; decide +kernel)) ?_
          refine Go.aload (pc' := 498) X1190 hx hby at_496 rfl rfl rfl ?_
          refine Go.bipush (pc' := 500) X1190 hx hby at_498 rfl (v := (30 : Int32)) (by decide) ?_
          refine Go.baload (pc' := 501) (i := 30) (v := (.int (Rr1 30))) X1190 hx hby hZ9 e1186 f1134 at_500 rfl (by decide) (by decide) (by omega) rfl ?_
          refine Go.bipush (pc' := 503) X1190 hx hby at_501 rfl (v := (101 : Int32)) (by decide) ?_
          refine Go.icmpN (pc' := 506) X1190 hx hby at_503 rfl (show ¬ ((Rr1 30) ≠ (101 : Int32)) from fun q => q (by rw [cr1 30 (by omega), pfx 30 (by omega) (by omega)]; decide +kernel)) ?_
          refine Go.aload (pc' := 508) X1190 hx hby at_506 rfl rfl rfl ?_
          refine Go.bipush (pc' := 510) X1190 hx hby at_508 rfl (v := (60 : Int32)) (by decide) ?_
          refine Go.baload (pc' := 511) (i := 60) (v := (.int (Rr1 60))) X1190 hx hby hZ9 e1186 f1134 at_510 rfl (by decide) (by decide) (by omega) rfl ?_
          refine Go.bipush (pc' := 513) X1190 hx hby at_511 rfl (v := (56 : Int32)) (by decide) ?_
          refine Go.icmpN (pc' := 516) X1190 hx hby at_513 rfl (show ¬ ((Rr1 60) ≠ (56 : Int32)) from fun q => q (by rw [cr1 60 (by omega), pfx 60 (by omega) (by omega)]; decide +kernel)) ?_
          refine Go.iconst (pc' := 517) X1190 hx hby at_516 rfl (v := (1 : Int32)) (by decide) ?_
          refine Go.goto (pc' := 521) X1190 hx hby at_517 (by decide) (by decide) ?_
          refine Go.istore (Ls' := #[.val (.int x0), .val (.int x1), .val (.int x2), .val (.int n1), .val (.int n2), .val (.int (1 : Int32)), .val (.int (1 : Int32)), .val (.ref s1), .val (.ref s2), .val (.ref b1032), .val (.ref r1), .val (.ref r2), .val (.ref b1072), .val (.int ((tl + (1 : Int32)) + (1 : Int32))), .val (.int (61 : Int32)), .val (.int (1 : Int32))]) (pc' := 523) X1190 hx hby at_521 rfl rfl ?_
          refine Go.iload (pc' := 525) X1190 hx hby at_523 rfl rfl ?_
          refine Go.ifN (pc' := 528) X1190 hx hby at_525 rfl (show ¬ ((1 : Int32) = 0) from by decide) ?_
          refine Go.aload (pc' := 530) X1190 hx hby at_528 rfl rfl rfl ?_
          refine Go.aload (pc' := 532) X1190 hx hby at_530 rfl rfl rfl ?_
          refine Go.acmpN (pc' := 535) X1190 hx hby at_532 (by decide) rfl (Ne.symm nr) ?_
          refine Go.aload (pc' := 537) X1190 hx hby at_535 rfl rfl rfl ?_
          refine Go.alen (pc' := 538) (zv := ln2_ + 2) X1190 hx hby hZ9 e1186 f1135 at_537 rfl el ?_
          refine Go.aload (pc' := 540) X1190 hx hby at_538 rfl rfl rfl ?_
          refine Go.alen (pc' := 541) (zv := ln2_ + 2) X1190 hx hby hZ9 e1186 f1134 at_540 rfl el ?_
          refine Go.icmpN (pc' := 544) X1190 hx hby at_541 rfl (show ¬ ((ln2_ + 2) ≠ (ln2_ + 2)) from fun q => q rfl) ?_
          refine Go.aload (pc' := 546) X1190 hx hby at_544 rfl rfl rfl ?_
          refine Go.aload (pc' := 548) X1190 hx hby at_546 rfl rfl rfl ?_
          refine Go.alen (pc' := 549) (zv := ln2_ + 2) X1190 hx hby hZ9 e1186 f1134 at_548 rfl el ?_
          refine Go.iconst (pc' := 550) X1190 hx hby at_549 rfl (v := (2 : Int32)) (by decide) ?_
          refine Go.isub (pc' := 551) X1190 hx hby at_550 rfl ?_
          have ea_ : (ln2_ + 2 - 2).toInt = ln2_.toInt := by have q1 := c_isub (ln2_ + 2) 2; have q2 := rng32 (ln2_ + 2 - 2); rw [el, own_2] at q1; omega
          have eb_ : (ln2_ + 2 - 1).toInt = ln2_.toInt + 1 := by have q1 := c_isub (ln2_ + 2) 1; have q2 := rng32 (ln2_ + 2 - 1); rw [el, own_1] at q1; omega
          refine Go.baload (pc' := 552) (i := ln2_.toInt) (v := (.int (Rr2 ln2_.toInt))) X1190 hx hby hZ9 e1186 f1135 at_551 rfl ea_ (by omega) (by omega) rfl ?_
          refine Go.bipush (pc' := 554) X1190 hx hby at_552 rfl (v := (13 : Int32)) (by decide) ?_
          refine Go.icmpN (pc' := 557) X1190 hx hby at_554 rfl (show ¬ ((Rr2 ln2_.toInt) ≠ (13 : Int32)) from fun q => q rl2) ?_
          refine Go.aload (pc' := 559) X1190 hx hby at_557 rfl rfl rfl ?_
          refine Go.aload (pc' := 561) X1190 hx hby at_559 rfl rfl rfl ?_
          refine Go.alen (pc' := 562) (zv := ln2_ + 2) X1190 hx hby hZ9 e1186 f1134 at_561 rfl el ?_
          refine Go.iconst (pc' := 563) X1190 hx hby at_562 rfl (v := (1 : Int32)) (by decide) ?_
          refine Go.isub (pc' := 564) X1190 hx hby at_563 rfl ?_
          refine Go.baload (pc' := 565) (i := (ln2_.toInt + 1)) (v := (.int (Rr2 (ln2_.toInt + 1)))) X1190 hx hby hZ9 e1186 f1135 at_564 rfl eb_ (by omega) (by omega) rfl ?_
          refine Go.bipush (pc' := 567) X1190 hx hby at_565 rfl (v := (10 : Int32)) (by decide) ?_
          refine Go.icmpN (pc' := 570) X1190 hx hby at_567 rfl (show ¬ ((Rr2 (ln2_.toInt + 1)) ≠ (10 : Int32)) from fun q => q rm2) ?_
          refine Go.iconst (pc' := 571) X1190 hx hby at_570 rfl (v := (1 : Int32)) (by decide) ?_
          refine Go.goto (pc' := 575) X1190 hx hby at_571 (by decide) (by decide) ?_
          refine Go.istore (Ls' := #[.val (.int x0), .val (.int x1), .val (.int x2), .val (.int n1), .val (.int n2), .val (.int (1 : Int32)), .val (.int (1 : Int32)), .val (.ref s1), .val (.ref s2), .val (.ref b1032), .val (.ref r1), .val (.ref r2), .val (.ref b1072), .val (.int ((tl + (1 : Int32)) + (1 : Int32))), .val (.int (61 : Int32)), .val (.int (1 : Int32))]) (pc' := 577) X1190 hx hby at_575 rfl rfl ?_
          refine Go.iload (pc' := 579) X1190 hx hby at_577 rfl rfl ?_
          exact Go.retZW X1190 hx hby hlk hret (by simp) at_579 (by decide) (by decide) S9 (by rw [e1186]; exact hk1137) ⟨rfl, N1139⟩
        ·
          intro jn1191
          refine Go.iload (pc' := 192) X1103 hx hby at_190 rfl rfl ?_
          refine Go.ifN (pc' := 195) X1103 hx hby at_192 rfl (show ¬ ((1 : Int32) = 0) from by decide) ?_
          refine Go.iload (pc' := 197) X1103 hx hby at_195 rfl rfl ?_
          have e1_ : (tl + 1).toInt = tl.toInt + 1 := by rw [own_add tl 1 (by omega) (by omega) (by decide) (by decide), own_1]
          have e2_ : (tl + 1 + 1).toInt = tl.toInt + 2 := by rw [own_add _ 1 (by omega) (by omega) (by decide) (by decide), own_1]; omega
          have e3_ : ((tl + 1 + 1) + 1).toInt = tl.toInt + 3 := by rw [own_add _ 1 (by omega) (by omega) (by decide) (by decide), own_1]; omega
          have e4_ : (((tl + 1 + 1) + 1) + 1).toInt = tl.toInt + 4 := by rw [own_add _ 1 (by omega) (by omega) (by decide) (by decide), own_1]; omega
          refine Go.ifY (pc' := 204) X1103 hx hby at_197 (by decide) (by decide) (show (1 : Int32) ≠ 0 from by decide) ?_
          refine Go.aload (pc' := 206) X1103 hx hby at_204 rfl rfl rfl ?_
          refine Go.iload (pc' := 208) X1103 hx hby at_206 rfl rfl ?_
          refine Go.iinc (w := tl + (1 : Int32)) (Ls' := #[.val (.int x0), .val (.int x1), .val (.int x2), .val (.int n1), .val (.int n2), .val (.int (1 : Int32)), .val (.int (1 : Int32)), .val (.ref s1), .val (.ref s2), .val (.ref b1032), .val (.ref r1), .val (.ref r2), .val (.ref b1072), .val (.int (tl + (1 : Int32))), .unset, .unset]) (pc' := 211) X1103 hx hby at_208 rfl rfl rfl rfl ?_
          show Go p e below _ (T1100.setTop (mkF m 211 #[.val (.int x0), .val (.int x1), .val (.int x2), .val (.int n1), .val (.int n2), .val (.int (1 : Int32)), .val (.int (1 : Int32)), .val (.ref s1), .val (.ref s2), .val (.ref b1032), .val (.ref r1), .val (.ref r2), .val (.ref b1072), .val (.int (tl + (1 : Int32))), .unset, .unset] [(.int tl), (.ref b1072)]))
          refine Go.bipush (pc' := 213) X1103 hx hby at_211 rfl (v := (32 : Int32)) (by decide) ?_
          refine Go.castore (pc' := 214) (i := tl.toInt) X1103 hx hby hZ9 e1104 At at_213 rfl rfl (by omega) (by omega) ?_
          intro T1192 h1193 X1194 e1195 W1196 A1197
          have f1198 : Ar Z h1193 r1 .byte (ln2_.toInt + 2) (fun q => .int (Rr1 q)) := Ra.other W1196 n1080
          have f1199 : Ar Z h1193 r2 .byte (ln2_.toInt + 2) (fun q => .int (Rr2 q)) := Rb.other W1196 n1081
          have z1200 : h0.size ≤ h1193.size := by rw [Wr.size W1196]; exact z1106
          have hk1201 : k9 ≤ h1193.size := by rw [Wr.size W1196]; exact hk1107
          have f1202 : Ar Z h1193 b1072 .char 10 (fun q => if q = tl.toInt then (.int (nar .char (32 : Int32))) else .int (Tt q)) := A1197
          have N1203 : Fr h0.size _ := Fr.snoc X1194 N1105 g1082
          show Go p e below _ (T1192.setTop (mkF m 214 #[.val (.int x0), .val (.int x1), .val (.int x2), .val (.int n1), .val (.int n2), .val (.int (1 : Int32)), .val (.int (1 : Int32)), .val (.ref s1), .val (.ref s2), .val (.ref b1032), .val (.ref r1), .val (.ref r2), .val (.ref b1072), .val (.int (tl + (1 : Int32))), .unset, .unset] []))
          rcases d2 with q | q | q | q
          ·
            subst q
            show Go p e below _ (T1192.setTop (mkF m 214 #[.val (.int x0), .val (.int x1), .val (.int x2), .val (.int n1), .val (.int (0 : Int32)), .val (.int (1 : Int32)), .val (.int (1 : Int32)), .val (.ref s1), .val (.ref s2), .val (.ref b1032), .val (.ref r1), .val (.ref r2), .val (.ref b1072), .val (.int (tl + (1 : Int32))), .unset, .unset] []))
            refine Go.iload (pc' := 216) X1194 hx hby at_214 rfl rfl ?_
            refine Go.ifY (pc' := 232) X1194 hx hby at_216 (by decide) (by decide) (show (0 : Int32) ≤ 0 from by decide) ?_
            refine Go.iload (pc' := 234) X1194 hx hby at_232 rfl rfl ?_
            refine Go.iconst (pc' := 235) X1194 hx hby at_234 rfl (v := (1 : Int32)) (by decide) ?_
            refine Go.icmpY (pc' := 251) X1194 hx hby at_235 (by decide) (by decide) (show (0 : Int32) ≤ (1 : Int32) from by decide) ?_
            refine Go.iload (pc' := 253) X1194 hx hby at_251 rfl rfl ?_
            refine Go.iconst (pc' := 254) X1194 hx hby at_253 rfl (v := (2 : Int32)) (by decide) ?_
            refine Go.icmpY (pc' := 270) X1194 hx hby at_254 (by decide) (by decide) (show (0 : Int32) ≤ (2 : Int32) from by decide) ?_
            have f1204 : Ar Z h1193 b1072 .char 10 (fun q => .int ((fun q => if q = tl.toInt then 32 else Tt q) q)) := f1202.congr (fun i h1 h2 => by simp only [apply_ite Value.int, own_nc7 (own_ckr x0 _), own_nc7 (own_ckr x1 _), own_nc32, own_nc13, own_nc10])
            exact jn1191 (T1192, h1193, _, tl + (1 : Int32), (fun q => if q = tl.toInt then 32 else Tt q)) ⟨X1194, e1195, N1203, z1200, hk1201, by (try dsimp only); rw [e1_, show (0 : Int32).toInt = 0 from by decide]; omega, f1204, fun q h1 h2 => by
                  (try dsimp only at h2 ⊢)
                  rw [e1_] at h2
                  unfold own_tb
                  by_cases g : q < tl.toInt
                  · rw [if_neg (by omega), if_pos (by omega)]; exact ct q h1 g
                  · have t : q = tl.toInt + 0 := (by omega)
                    rcases t with g0
                    · rw [if_pos (by omega), if_neg (by omega), if_pos (by omega)], f1198, f1199⟩
          ·
            subst q
            show Go p e below _ (T1192.setTop (mkF m 214 #[.val (.int x0), .val (.int x1), .val (.int x2), .val (.int n1), .val (.int (1 : Int32)), .val (.int (1 : Int32)), .val (.int (1 : Int32)), .val (.ref s1), .val (.ref s2), .val (.ref b1032), .val (.ref r1), .val (.ref r2), .val (.ref b1072), .val (.int (tl + (1 : Int32))), .unset, .unset] []))
            refine Go.iload (pc' := 216) X1194 hx hby at_214 rfl rfl ?_
            refine Go.ifN (pc' := 219) X1194 hx hby at_216 rfl (show ¬ ((1 : Int32) ≤ 0) from by decide) ?_
            refine Go.aload (pc' := 221) X1194 hx hby at_219 rfl rfl rfl ?_
            refine Go.iload (pc' := 223) X1194 hx hby at_221 rfl rfl ?_
            refine Go.iinc (w := (tl + (1 : Int32)) + (1 : Int32)) (Ls' := #[.val (.int x0), .val (.int x1), .val (.int x2), .val (.int n1), .val (.int (1 : Int32)), .val (.int (1 : Int32)), .val (.int (1 : Int32)), .val (.ref s1), .val (.ref s2), .val (.ref b1032), .val (.ref r1), .val (.ref r2), .val (.ref b1072), .val (.int ((tl + (1 : Int32)) + (1 : Int32))), .unset, .unset]) (pc' := 226) X1194 hx hby at_223 rfl rfl rfl rfl ?_
            refine Go.iloadN (pc' := 227) X1194 hx hby at_226 rfl rfl ?_
            refine Go.iconst (pc' := 228) X1194 hx hby at_227 rfl (v := (0 : Int32)) (by decide) ?_
            refine Go.callS (pc' := 231) (W := 2) (argsL := [(.int x1), (.int (0 : Int32))]) (rest := [(.int (tl + (1 : Int32))), (.ref b1072)]) X1194 hx hby hZ9 ho9 (hw _ (List.mem_of_getElem? (i := 8) rfl)) (hw _ (List.mem_of_getElem? (i := 9) rfl)) (hw _ (List.mem_of_getElem? (i := 2) rfl)) (hw _ (List.mem_of_getElem? (i := 10) rfl)) (by decide) (rmch l Z a0 hw x1 0 h1193) e1195 (by decide) (by decide) (by rw [hml]; rfl) pd_10 rfl rfl rfl (Nat.le_of_eq rfl) at_228 rfl (by decide) (by decide) ?_
            rintro r1206 T1207 L1208 X1209 ⟨rfl, rfl, e1205⟩
            rw [List.append_nil] at X1209
            show Go p e below _ (T1207.setTop (mkF m 231 #[.val (.int x0), .val (.int x1), .val (.int x2), .val (.int n1), .val (.int (1 : Int32)), .val (.int (1 : Int32)), .val (.int (1 : Int32)), .val (.ref s1), .val (.ref s2), .val (.ref b1032), .val (.ref r1), .val (.ref r2), .val (.ref b1072), .val (.int ((tl + (1 : Int32)) + (1 : Int32))), .unset, .unset] [(.int (own_ck x1 0)), (.int (tl + (1 : Int32))), (.ref b1072)]))
            refine Go.castore (pc' := 232) (i := (tl.toInt + 1)) X1209 hx hby hZ9 e1205 f1202 at_231 rfl e1_ (by omega) (by omega) ?_
            intro T1210 h1211 X1212 e1213 W1214 A1215
            have f1216 : Ar Z h1211 r1 .byte (ln2_.toInt + 2) (fun q => .int (Rr1 q)) := f1198.other W1214 n1080
            have f1217 : Ar Z h1211 r2 .byte (ln2_.toInt + 2) (fun q => .int (Rr2 q)) := f1199.other W1214 n1081
            have z1218 : h0.size ≤ h1211.size := by rw [Wr.size W1214]; exact z1200
            have hk1219 : k9 ≤ h1211.size := by rw [Wr.size W1214]; exact hk1201
            have f1220 : Ar Z h1211 b1072 .char 10 (fun q => if q = (tl.toInt + 1) then (.int (nar .char (own_ck x1 0))) else if q = tl.toInt then (.int (nar .char (32 : Int32))) else .int (Tt q)) := A1215
            have N1221 : Fr h0.size _ := Fr.snoc X1212 N1203 g1082
            show Go p e below _ (T1210.setTop (mkF m 232 #[.val (.int x0), .val (.int x1), .val (.int x2), .val (.int n1), .val (.int (1 : Int32)), .val (.int (1 : Int32)), .val (.int (1 : Int32)), .val (.ref s1), .val (.ref s2), .val (.ref b1032), .val (.ref r1), .val (.ref r2), .val (.ref b1072), .val (.int ((tl + (1 : Int32)) + (1 : Int32))), .unset, .unset] []))
            refine Go.iload (pc' := 234) X1212 hx hby at_232 rfl rfl ?_
            refine Go.iconst (pc' := 235) X1212 hx hby at_234 rfl (v := (1 : Int32)) (by decide) ?_
            refine Go.icmpY (pc' := 251) X1212 hx hby at_235 (by decide) (by decide) (show (1 : Int32) ≤ (1 : Int32) from by decide) ?_
            refine Go.iload (pc' := 253) X1212 hx hby at_251 rfl rfl ?_
            refine Go.iconst (pc' := 254) X1212 hx hby at_253 rfl (v := (2 : Int32)) (by decide) ?_
            refine Go.icmpY (pc' := 270) X1212 hx hby at_254 (by decide) (by decide) (show (1 : Int32) ≤ (2 : Int32) from by decide) ?_
            have f1222 : Ar Z h1211 b1072 .char 10 (fun q => .int ((fun q => if q = tl.toInt + 1 then own_ck x1 0 else if q = tl.toInt then 32 else Tt q) q)) := f1220.congr (fun i h1 h2 => by simp only [apply_ite Value.int, own_nc7 (own_ckr x0 _), own_nc7 (own_ckr x1 _), own_nc32, own_nc13, own_nc10])
            exact jn1191 (T1210, h1211, _, (tl + (1 : Int32)) + (1 : Int32), (fun q => if q = tl.toInt + 1 then own_ck x1 0 else if q = tl.toInt then 32 else Tt q)) ⟨X1212, e1213, N1221, z1218, hk1219, by (try dsimp only); rw [e2_, show (1 : Int32).toInt = 1 from by decide]; omega, f1222, fun q h1 h2 => by
                  (try dsimp only at h2 ⊢)
                  rw [e2_] at h2
                  unfold own_tb
                  by_cases g : q < tl.toInt
                  · rw [if_neg (by omega), if_neg (by omega), if_pos (by omega)]; exact ct q h1 g
                  · have t : q = tl.toInt + 0 ∨ q = tl.toInt + 1 := (by omega)
                    rcases t with g0 | g1
                    · rw [if_neg (by omega), if_pos (by omega), if_neg (by omega), if_pos (by omega)]
                    · rw [if_pos (by omega), if_neg (by omega), if_neg (by omega)]; rw [show q - (1 + n1.toInt) - 1 = 0 from by omega]; rfl, f1216, f1217⟩
          ·
            subst q
            show Go p e below _ (T1192.setTop (mkF m 214 #[.val (.int x0), .val (.int x1), .val (.int x2), .val (.int n1), .val (.int (2 : Int32)), .val (.int (1 : Int32)), .val (.int (1 : Int32)), .val (.ref s1), .val (.ref s2), .val (.ref b1032), .val (.ref r1), .val (.ref r2), .val (.ref b1072), .val (.int (tl + (1 : Int32))), .unset, .unset] []))
            refine Go.iload (pc' := 216) X1194 hx hby at_214 rfl rfl ?_
            refine Go.ifN (pc' := 219) X1194 hx hby at_216 rfl (show ¬ ((2 : Int32) ≤ 0) from by decide) ?_
            refine Go.aload (pc' := 221) X1194 hx hby at_219 rfl rfl rfl ?_
            refine Go.iload (pc' := 223) X1194 hx hby at_221 rfl rfl ?_
            refine Go.iinc (w := (tl + (1 : Int32)) + (1 : Int32)) (Ls' := #[.val (.int x0), .val (.int x1), .val (.int x2), .val (.int n1), .val (.int (2 : Int32)), .val (.int (1 : Int32)), .val (.int (1 : Int32)), .val (.ref s1), .val (.ref s2), .val (.ref b1032), .val (.ref r1), .val (.ref r2), .val (.ref b1072), .val (.int ((tl + (1 : Int32)) + (1 : Int32))), .unset, .unset]) (pc' := 226) X1194 hx hby at_223 rfl rfl rfl rfl ?_
            refine Go.iloadN (pc' := 227) X1194 hx hby at_226 rfl rfl ?_
            refine Go.iconst (pc' := 228) X1194 hx hby at_227 rfl (v := (0 : Int32)) (by decide) ?_
            refine Go.callS (pc' := 231) (W := 2) (argsL := [(.int x1), (.int (0 : Int32))]) (rest := [(.int (tl + (1 : Int32))), (.ref b1072)]) X1194 hx hby hZ9 ho9 (hw _ (List.mem_of_getElem? (i := 8) rfl)) (hw _ (List.mem_of_getElem? (i := 9) rfl)) (hw _ (List.mem_of_getElem? (i := 2) rfl)) (hw _ (List.mem_of_getElem? (i := 10) rfl)) (by decide) (rmch l Z a0 hw x1 0 h1193) e1195 (by decide) (by decide) (by rw [hml]; rfl) pd_10 rfl rfl rfl (Nat.le_of_eq rfl) at_228 rfl (by decide) (by decide) ?_
            rintro r1224 T1225 L1226 X1227 ⟨rfl, rfl, e1223⟩
            rw [List.append_nil] at X1227
            show Go p e below _ (T1225.setTop (mkF m 231 #[.val (.int x0), .val (.int x1), .val (.int x2), .val (.int n1), .val (.int (2 : Int32)), .val (.int (1 : Int32)), .val (.int (1 : Int32)), .val (.ref s1), .val (.ref s2), .val (.ref b1032), .val (.ref r1), .val (.ref r2), .val (.ref b1072), .val (.int ((tl + (1 : Int32)) + (1 : Int32))), .unset, .unset] [(.int (own_ck x1 0)), (.int (tl + (1 : Int32))), (.ref b1072)]))
            refine Go.castore (pc' := 232) (i := (tl.toInt + 1)) X1227 hx hby hZ9 e1223 f1202 at_231 rfl e1_ (by omega) (by omega) ?_
            intro T1228 h1229 X1230 e1231 W1232 A1233
            have f1234 : Ar Z h1229 r1 .byte (ln2_.toInt + 2) (fun q => .int (Rr1 q)) := f1198.other W1232 n1080
            have f1235 : Ar Z h1229 r2 .byte (ln2_.toInt + 2) (fun q => .int (Rr2 q)) := f1199.other W1232 n1081
            have z1236 : h0.size ≤ h1229.size := by rw [Wr.size W1232]; exact z1200
            have hk1237 : k9 ≤ h1229.size := by rw [Wr.size W1232]; exact hk1201
            have f1238 : Ar Z h1229 b1072 .char 10 (fun q => if q = (tl.toInt + 1) then (.int (nar .char (own_ck x1 0))) else if q = tl.toInt then (.int (nar .char (32 : Int32))) else .int (Tt q)) := A1233
            have N1239 : Fr h0.size _ := Fr.snoc X1230 N1203 g1082
            show Go p e below _ (T1228.setTop (mkF m 232 #[.val (.int x0), .val (.int x1), .val (.int x2), .val (.int n1), .val (.int (2 : Int32)), .val (.int (1 : Int32)), .val (.int (1 : Int32)), .val (.ref s1), .val (.ref s2), .val (.ref b1032), .val (.ref r1), .val (.ref r2), .val (.ref b1072), .val (.int ((tl + (1 : Int32)) + (1 : Int32))), .unset, .unset] []))
            refine Go.iload (pc' := 234) X1230 hx hby at_232 rfl rfl ?_
            refine Go.iconst (pc' := 235) X1230 hx hby at_234 rfl (v := (1 : Int32)) (by decide) ?_
            refine Go.icmpN (pc' := 238) X1230 hx hby at_235 rfl (show ¬ ((2 : Int32) ≤ (1 : Int32)) from by decide) ?_
            refine Go.aload (pc' := 240) X1230 hx hby at_238 rfl rfl rfl ?_
            refine Go.iload (pc' := 242) X1230 hx hby at_240 rfl rfl ?_
            refine Go.iinc (w := ((tl + (1 : Int32)) + (1 : Int32)) + (1 : Int32)) (Ls' := #[.val (.int x0), .val (.int x1), .val (.int x2), .val (.int n1), .val (.int (2 : Int32)), .val (.int (1 : Int32)), .val (.int (1 : Int32)), .val (.ref s1), .val (.ref s2), .val (.ref b1032), .val (.ref r1), .val (.ref r2), .val (.ref b1072), .val (.int (((tl + (1 : Int32)) + (1 : Int32)) + (1 : Int32))), .unset, .unset]) (pc' := 245) X1230 hx hby at_242 rfl rfl rfl rfl ?_
            refine Go.iloadN (pc' := 246) X1230 hx hby at_245 rfl rfl ?_
            refine Go.iconst (pc' := 247) X1230 hx hby at_246 rfl (v := (1 : Int32)) (by decide) ?_
            refine Go.callS (pc' := 250) (W := 2) (argsL := [(.int x1), (.int (1 : Int32))]) (rest := [(.int ((tl + (1 : Int32)) + (1 : Int32))), (.ref b1072)]) X1230 hx hby hZ9 ho9 (hw _ (List.mem_of_getElem? (i := 8) rfl)) (hw _ (List.mem_of_getElem? (i := 9) rfl)) (hw _ (List.mem_of_getElem? (i := 2) rfl)) (hw _ (List.mem_of_getElem? (i := 10) rfl)) (by decide) (rmch l Z a0 hw x1 1 h1229) e1231 (by decide) (by decide) (by rw [hml]; rfl) pd_10 rfl rfl rfl (Nat.le_of_eq rfl) at_247 rfl (by decide) (by decide) ?_
            rintro r1241 T1242 L1243 X1244 ⟨rfl, rfl, e1240⟩
            rw [List.append_nil] at X1244
            show Go p e below _ (T1242.setTop (mkF m 250 #[.val (.int x0), .val (.int x1), .val (.int x2), .val (.int n1), .val (.int (2 : Int32)), .val (.int (1 : Int32)), .val (.int (1 : Int32)), .val (.ref s1), .val (.ref s2), .val (.ref b1032), .val (.ref r1), .val (.ref r2), .val (.ref b1072), .val (.int (((tl + (1 : Int32)) + (1 : Int32)) + (1 : Int32))), .unset, .unset] [(.int (own_ck x1 1)), (.int ((tl + (1 : Int32)) + (1 : Int32))), (.ref b1072)]))
            refine Go.castore (pc' := 251) (i := (tl.toInt + 2)) X1244 hx hby hZ9 e1240 f1238 at_250 rfl e2_ (by omega) (by omega) ?_
            intro T1245 h1246 X1247 e1248 W1249 A1250
            have f1251 : Ar Z h1246 r1 .byte (ln2_.toInt + 2) (fun q => .int (Rr1 q)) := f1234.other W1249 n1080
            have f1252 : Ar Z h1246 r2 .byte (ln2_.toInt + 2) (fun q => .int (Rr2 q)) := f1235.other W1249 n1081
            have z1253 : h0.size ≤ h1246.size := by rw [Wr.size W1249]; exact z1236
            have hk1254 : k9 ≤ h1246.size := by rw [Wr.size W1249]; exact hk1237
            have f1255 : Ar Z h1246 b1072 .char 10 (fun q => if q = (tl.toInt + 2) then (.int (nar .char (own_ck x1 1))) else if q = (tl.toInt + 1) then (.int (nar .char (own_ck x1 0))) else if q = tl.toInt then (.int (nar .char (32 : Int32))) else .int (Tt q)) := A1250
            have N1256 : Fr h0.size _ := Fr.snoc X1247 N1239 g1082
            show Go p e below _ (T1245.setTop (mkF m 251 #[.val (.int x0), .val (.int x1), .val (.int x2), .val (.int n1), .val (.int (2 : Int32)), .val (.int (1 : Int32)), .val (.int (1 : Int32)), .val (.ref s1), .val (.ref s2), .val (.ref b1032), .val (.ref r1), .val (.ref r2), .val (.ref b1072), .val (.int (((tl + (1 : Int32)) + (1 : Int32)) + (1 : Int32))), .unset, .unset] []))
            refine Go.iload (pc' := 253) X1247 hx hby at_251 rfl rfl ?_
            refine Go.iconst (pc' := 254) X1247 hx hby at_253 rfl (v := (2 : Int32)) (by decide) ?_
            refine Go.icmpY (pc' := 270) X1247 hx hby at_254 (by decide) (by decide) (show (2 : Int32) ≤ (2 : Int32) from by decide) ?_
            have f1257 : Ar Z h1246 b1072 .char 10 (fun q => .int ((fun q => if q = tl.toInt + 2 then own_ck x1 1 else if q = tl.toInt + 1 then own_ck x1 0 else if q = tl.toInt then 32 else Tt q) q)) := f1255.congr (fun i h1 h2 => by simp only [apply_ite Value.int, own_nc7 (own_ckr x0 _), own_nc7 (own_ckr x1 _), own_nc32, own_nc13, own_nc10])
            exact jn1191 (T1245, h1246, _, ((tl + (1 : Int32)) + (1 : Int32)) + (1 : Int32), (fun q => if q = tl.toInt + 2 then own_ck x1 1 else if q = tl.toInt + 1 then own_ck x1 0 else if q = tl.toInt then 32 else Tt q)) ⟨X1247, e1248, N1256, z1253, hk1254, by (try dsimp only); rw [e3_, show (2 : Int32).toInt = 2 from by decide]; omega, f1257, fun q h1 h2 => by
                  (try dsimp only at h2 ⊢)
                  rw [e3_] at h2
                  unfold own_tb
                  by_cases g : q < tl.toInt
                  · rw [if_neg (by omega), if_neg (by omega), if_neg (by omega), if_pos (by omega)]; exact ct q h1 g
                  · have t : q = tl.toInt + 0 ∨ q = tl.toInt + 1 ∨ q = tl.toInt + 2 := (by omega)
                    rcases t with g0 | g1 | g2
                    · rw [if_neg (by omega), if_neg (by omega), if_pos (by omega), if_neg (by omega), if_pos (by omega)]
                    · rw [if_neg (by omega), if_pos (by omega), if_neg (by omega), if_neg (by omega)]; rw [show q - (1 + n1.toInt) - 1 = 0 from by omega]; rfl
                    · rw [if_pos (by omega), if_neg (by omega), if_neg (by omega)]; rw [show q - (1 + n1.toInt) - 1 = 1 from by omega]; rfl, f1251, f1252⟩
          ·
            subst q
            show Go p e below _ (T1192.setTop (mkF m 214 #[.val (.int x0), .val (.int x1), .val (.int x2), .val (.int n1), .val (.int (3 : Int32)), .val (.int (1 : Int32)), .val (.int (1 : Int32)), .val (.ref s1), .val (.ref s2), .val (.ref b1032), .val (.ref r1), .val (.ref r2), .val (.ref b1072), .val (.int (tl + (1 : Int32))), .unset, .unset] []))
            refine Go.iload (pc' := 216) X1194 hx hby at_214 rfl rfl ?_
            refine Go.ifN (pc' := 219) X1194 hx hby at_216 rfl (show ¬ ((3 : Int32) ≤ 0) from by decide) ?_
            refine Go.aload (pc' := 221) X1194 hx hby at_219 rfl rfl rfl ?_
            refine Go.iload (pc' := 223) X1194 hx hby at_221 rfl rfl ?_
            refine Go.iinc (w := (tl + (1 : Int32)) + (1 : Int32)) (Ls' := #[.val (.int x0), .val (.int x1), .val (.int x2), .val (.int n1), .val (.int (3 : Int32)), .val (.int (1 : Int32)), .val (.int (1 : Int32)), .val (.ref s1), .val (.ref s2), .val (.ref b1032), .val (.ref r1), .val (.ref r2), .val (.ref b1072), .val (.int ((tl + (1 : Int32)) + (1 : Int32))), .unset, .unset]) (pc' := 226) X1194 hx hby at_223 rfl rfl rfl rfl ?_
            refine Go.iloadN (pc' := 227) X1194 hx hby at_226 rfl rfl ?_
            refine Go.iconst (pc' := 228) X1194 hx hby at_227 rfl (v := (0 : Int32)) (by decide) ?_
            refine Go.callS (pc' := 231) (W := 2) (argsL := [(.int x1), (.int (0 : Int32))]) (rest := [(.int (tl + (1 : Int32))), (.ref b1072)]) X1194 hx hby hZ9 ho9 (hw _ (List.mem_of_getElem? (i := 8) rfl)) (hw _ (List.mem_of_getElem? (i := 9) rfl)) (hw _ (List.mem_of_getElem? (i := 2) rfl)) (hw _ (List.mem_of_getElem? (i := 10) rfl)) (by decide) (rmch l Z a0 hw x1 0 h1193) e1195 (by decide) (by decide) (by rw [hml]; rfl) pd_10 rfl rfl rfl (Nat.le_of_eq rfl) at_228 rfl (by decide) (by decide) ?_
            rintro r1259 T1260 L1261 X1262 ⟨rfl, rfl, e1258⟩
            rw [List.append_nil] at X1262
            show Go p e below _ (T1260.setTop (mkF m 231 #[.val (.int x0), .val (.int x1), .val (.int x2), .val (.int n1), .val (.int (3 : Int32)), .val (.int (1 : Int32)), .val (.int (1 : Int32)), .val (.ref s1), .val (.ref s2), .val (.ref b1032), .val (.ref r1), .val (.ref r2), .val (.ref b1072), .val (.int ((tl + (1 : Int32)) + (1 : Int32))), .unset, .unset] [(.int (own_ck x1 0)), (.int (tl + (1 : Int32))), (.ref b1072)]))
            refine Go.castore (pc' := 232) (i := (tl.toInt + 1)) X1262 hx hby hZ9 e1258 f1202 at_231 rfl e1_ (by omega) (by omega) ?_
            intro T1263 h1264 X1265 e1266 W1267 A1268
            have f1269 : Ar Z h1264 r1 .byte (ln2_.toInt + 2) (fun q => .int (Rr1 q)) := f1198.other W1267 n1080
            have f1270 : Ar Z h1264 r2 .byte (ln2_.toInt + 2) (fun q => .int (Rr2 q)) := f1199.other W1267 n1081
            have z1271 : h0.size ≤ h1264.size := by rw [Wr.size W1267]; exact z1200
            have hk1272 : k9 ≤ h1264.size := by rw [Wr.size W1267]; exact hk1201
            have f1273 : Ar Z h1264 b1072 .char 10 (fun q => if q = (tl.toInt + 1) then (.int (nar .char (own_ck x1 0))) else if q = tl.toInt then (.int (nar .char (32 : Int32))) else .int (Tt q)) := A1268
            have N1274 : Fr h0.size _ := Fr.snoc X1265 N1203 g1082
            show Go p e below _ (T1263.setTop (mkF m 232 #[.val (.int x0), .val (.int x1), .val (.int x2), .val (.int n1), .val (.int (3 : Int32)), .val (.int (1 : Int32)), .val (.int (1 : Int32)), .val (.ref s1), .val (.ref s2), .val (.ref b1032), .val (.ref r1), .val (.ref r2), .val (.ref b1072), .val (.int ((tl + (1 : Int32)) + (1 : Int32))), .unset, .unset] []))
            refine Go.iload (pc' := 234) X1265 hx hby at_232 rfl rfl ?_
            refine Go.iconst (pc' := 235) X1265 hx hby at_234 rfl (v := (1 : Int32)) (by decide) ?_
            refine Go.icmpN (pc' := 238) X1265 hx hby at_235 rfl (show ¬ ((3 : Int32) ≤ (1 : Int32)) from by decide) ?_
            refine Go.aload (pc' := 240) X1265 hx hby at_238 rfl rfl rfl ?_
            refine Go.iload (pc' := 242) X1265 hx hby at_240 rfl rfl ?_
            refine Go.iinc (w := ((tl + (1 : Int32)) + (1 : Int32)) + (1 : Int32)) (Ls' := #[.val (.int x0), .val (.int x1), .val (.int x2), .val (.int n1), .val (.int (3 : Int32)), .val (.int (1 : Int32)), .val (.int (1 : Int32)), .val (.ref s1), .val (.ref s2), .val (.ref b1032), .val (.ref r1), .val (.ref r2), .val (.ref b1072), .val (.int (((tl + (1 : Int32)) + (1 : Int32)) + (1 : Int32))), .unset, .unset]) (pc' := 245) X1265 hx hby at_242 rfl rfl rfl rfl ?_
            refine Go.iloadN (pc' := 246) X1265 hx hby at_245 rfl rfl ?_
            refine Go.iconst (pc' := 247) X1265 hx hby at_246 rfl (v := (1 : Int32)) (by decide) ?_
            refine Go.callS (pc' := 250) (W := 2) (argsL := [(.int x1), (.int (1 : Int32))]) (rest := [(.int ((tl + (1 : Int32)) + (1 : Int32))), (.ref b1072)]) X1265 hx hby hZ9 ho9 (hw _ (List.mem_of_getElem? (i := 8) rfl)) (hw _ (List.mem_of_getElem? (i := 9) rfl)) (hw _ (List.mem_of_getElem? (i := 2) rfl)) (hw _ (List.mem_of_getElem? (i := 10) rfl)) (by decide) (rmch l Z a0 hw x1 1 h1264) e1266 (by decide) (by decide) (by rw [hml]; rfl) pd_10 rfl rfl rfl (Nat.le_of_eq rfl) at_247 rfl (by decide) (by decide) ?_
            rintro r1276 T1277 L1278 X1279 ⟨rfl, rfl, e1275⟩
            rw [List.append_nil] at X1279
            show Go p e below _ (T1277.setTop (mkF m 250 #[.val (.int x0), .val (.int x1), .val (.int x2), .val (.int n1), .val (.int (3 : Int32)), .val (.int (1 : Int32)), .val (.int (1 : Int32)), .val (.ref s1), .val (.ref s2), .val (.ref b1032), .val (.ref r1), .val (.ref r2), .val (.ref b1072), .val (.int (((tl + (1 : Int32)) + (1 : Int32)) + (1 : Int32))), .unset, .unset] [(.int (own_ck x1 1)), (.int ((tl + (1 : Int32)) + (1 : Int32))), (.ref b1072)]))
            refine Go.castore (pc' := 251) (i := (tl.toInt + 2)) X1279 hx hby hZ9 e1275 f1273 at_250 rfl e2_ (by omega) (by omega) ?_
            intro T1280 h1281 X1282 e1283 W1284 A1285
            have f1286 : Ar Z h1281 r1 .byte (ln2_.toInt + 2) (fun q => .int (Rr1 q)) := f1269.other W1284 n1080
            have f1287 : Ar Z h1281 r2 .byte (ln2_.toInt + 2) (fun q => .int (Rr2 q)) := f1270.other W1284 n1081
            have z1288 : h0.size ≤ h1281.size := by rw [Wr.size W1284]; exact z1271
            have hk1289 : k9 ≤ h1281.size := by rw [Wr.size W1284]; exact hk1272
            have f1290 : Ar Z h1281 b1072 .char 10 (fun q => if q = (tl.toInt + 2) then (.int (nar .char (own_ck x1 1))) else if q = (tl.toInt + 1) then (.int (nar .char (own_ck x1 0))) else if q = tl.toInt then (.int (nar .char (32 : Int32))) else .int (Tt q)) := A1285
            have N1291 : Fr h0.size _ := Fr.snoc X1282 N1274 g1082
            show Go p e below _ (T1280.setTop (mkF m 251 #[.val (.int x0), .val (.int x1), .val (.int x2), .val (.int n1), .val (.int (3 : Int32)), .val (.int (1 : Int32)), .val (.int (1 : Int32)), .val (.ref s1), .val (.ref s2), .val (.ref b1032), .val (.ref r1), .val (.ref r2), .val (.ref b1072), .val (.int (((tl + (1 : Int32)) + (1 : Int32)) + (1 : Int32))), .unset, .unset] []))
            refine Go.iload (pc' := 253) X1282 hx hby at_251 rfl rfl ?_
            refine Go.iconst (pc' := 254) X1282 hx hby at_253 rfl (v := (2 : Int32)) (by decide) ?_
            refine Go.icmpN (pc' := 257) X1282 hx hby at_254 rfl (show ¬ ((3 : Int32) ≤ (2 : Int32)) from by decide) ?_
            refine Go.aload (pc' := 259) X1282 hx hby at_257 rfl rfl rfl ?_
            refine Go.iload (pc' := 261) X1282 hx hby at_259 rfl rfl ?_
            refine Go.iinc (w := (((tl + (1 : Int32)) + (1 : Int32)) + (1 : Int32)) + (1 : Int32)) (Ls' := #[.val (.int x0), .val (.int x1), .val (.int x2), .val (.int n1), .val (.int (3 : Int32)), .val (.int (1 : Int32)), .val (.int (1 : Int32)), .val (.ref s1), .val (.ref s2), .val (.ref b1032), .val (.ref r1), .val (.ref r2), .val (.ref b1072), .val (.int ((((tl + (1 : Int32)) + (1 : Int32)) + (1 : Int32)) + (1 : Int32))), .unset, .unset]) (pc' := 264) X1282 hx hby at_261 rfl rfl rfl rfl ?_
            refine Go.iloadN (pc' := 265) X1282 hx hby at_264 rfl rfl ?_
            refine Go.iconst (pc' := 266) X1282 hx hby at_265 rfl (v := (2 : Int32)) (by decide) ?_
            refine Go.callS (pc' := 269) (W := 2) (argsL := [(.int x1), (.int (2 : Int32))]) (rest := [(.int (((tl + (1 : Int32)) + (1 : Int32)) + (1 : Int32))), (.ref b1072)]) X1282 hx hby hZ9 ho9 (hw _ (List.mem_of_getElem? (i := 8) rfl)) (hw _ (List.mem_of_getElem? (i := 9) rfl)) (hw _ (List.mem_of_getElem? (i := 2) rfl)) (hw _ (List.mem_of_getElem? (i := 10) rfl)) (by decide) (rmch l Z a0 hw x1 2 h1281) e1283 (by decide) (by decide) (by rw [hml]; rfl) pd_10 rfl rfl rfl (Nat.le_of_eq rfl) at_266 rfl (by decide) (by decide) ?_
            rintro r1293 T1294 L1295 X1296 ⟨rfl, rfl, e1292⟩
            rw [List.append_nil] at X1296
            show Go p e below _ (T1294.setTop (mkF m 269 #[.val (.int x0), .val (.int x1), .val (.int x2), .val (.int n1), .val (.int (3 : Int32)), .val (.int (1 : Int32)), .val (.int (1 : Int32)), .val (.ref s1), .val (.ref s2), .val (.ref b1032), .val (.ref r1), .val (.ref r2), .val (.ref b1072), .val (.int ((((tl + (1 : Int32)) + (1 : Int32)) + (1 : Int32)) + (1 : Int32))), .unset, .unset] [(.int (own_ck x1 2)), (.int (((tl + (1 : Int32)) + (1 : Int32)) + (1 : Int32))), (.ref b1072)]))
            refine Go.castore (pc' := 270) (i := (tl.toInt + 3)) X1296 hx hby hZ9 e1292 f1290 at_269 rfl e3_ (by omega) (by omega) ?_
            intro T1297 h1298 X1299 e1300 W1301 A1302
            have f1303 : Ar Z h1298 r1 .byte (ln2_.toInt + 2) (fun q => .int (Rr1 q)) := f1286.other W1301 n1080
            have f1304 : Ar Z h1298 r2 .byte (ln2_.toInt + 2) (fun q => .int (Rr2 q)) := f1287.other W1301 n1081
            have z1305 : h0.size ≤ h1298.size := by rw [Wr.size W1301]; exact z1288
            have hk1306 : k9 ≤ h1298.size := by rw [Wr.size W1301]; exact hk1289
            have f1307 : Ar Z h1298 b1072 .char 10 (fun q => if q = (tl.toInt + 3) then (.int (nar .char (own_ck x1 2))) else if q = (tl.toInt + 2) then (.int (nar .char (own_ck x1 1))) else if q = (tl.toInt + 1) then (.int (nar .char (own_ck x1 0))) else if q = tl.toInt then (.int (nar .char (32 : Int32))) else .int (Tt q)) := A1302
            have N1308 : Fr h0.size _ := Fr.snoc X1299 N1291 g1082
            show Go p e below _ (T1297.setTop (mkF m 270 #[.val (.int x0), .val (.int x1), .val (.int x2), .val (.int n1), .val (.int (3 : Int32)), .val (.int (1 : Int32)), .val (.int (1 : Int32)), .val (.ref s1), .val (.ref s2), .val (.ref b1032), .val (.ref r1), .val (.ref r2), .val (.ref b1072), .val (.int ((((tl + (1 : Int32)) + (1 : Int32)) + (1 : Int32)) + (1 : Int32))), .unset, .unset] []))
            have f1309 : Ar Z h1298 b1072 .char 10 (fun q => .int ((fun q => if q = tl.toInt + 3 then own_ck x1 2 else if q = tl.toInt + 2 then own_ck x1 1 else if q = tl.toInt + 1 then own_ck x1 0 else if q = tl.toInt then 32 else Tt q) q)) := f1307.congr (fun i h1 h2 => by simp only [apply_ite Value.int, own_nc7 (own_ckr x0 _), own_nc7 (own_ckr x1 _), own_nc32, own_nc13, own_nc10])
            exact jn1191 (T1297, h1298, _, (((tl + (1 : Int32)) + (1 : Int32)) + (1 : Int32)) + (1 : Int32), (fun q => if q = tl.toInt + 3 then own_ck x1 2 else if q = tl.toInt + 2 then own_ck x1 1 else if q = tl.toInt + 1 then own_ck x1 0 else if q = tl.toInt then 32 else Tt q)) ⟨X1299, e1300, N1308, z1305, hk1306, by (try dsimp only); rw [e4_, show (3 : Int32).toInt = 3 from by decide]; omega, f1309, fun q h1 h2 => by
                  (try dsimp only at h2 ⊢)
                  rw [e4_] at h2
                  unfold own_tb
                  by_cases g : q < tl.toInt
                  · rw [if_neg (by omega), if_neg (by omega), if_neg (by omega), if_neg (by omega), if_pos (by omega)]; exact ct q h1 g
                  · have t : q = tl.toInt + 0 ∨ q = tl.toInt + 1 ∨ q = tl.toInt + 2 ∨ q = tl.toInt + 3 := (by omega)
                    rcases t with g0 | g1 | g2 | g3
                    · rw [if_neg (by omega), if_neg (by omega), if_neg (by omega), if_pos (by omega), if_neg (by omega), if_pos (by omega)]
                    · rw [if_neg (by omega), if_neg (by omega), if_pos (by omega), if_neg (by omega), if_neg (by omega)]; rw [show q - (1 + n1.toInt) - 1 = 0 from by omega]; rfl
                    · rw [if_neg (by omega), if_pos (by omega), if_neg (by omega), if_neg (by omega)]; rw [show q - (1 + n1.toInt) - 1 = 1 from by omega]; rfl
                    · rw [if_pos (by omega), if_neg (by omega), if_neg (by omega)]; rw [show q - (1 + n1.toInt) - 1 = 2 from by omega]; rfl, f1303, f1304⟩
      ·
        intro jn1310
        rcases d1 with q | q | q | q
        ·
          subst q
          show Go p e below _ (T1088.setTop (mkF m 137 #[.val (.int x0), .val (.int x1), .val (.int x2), .val (.int (0 : Int32)), .val (.int n2), .val (.int (1 : Int32)), .val (.int (1 : Int32)), .val (.ref s1), .val (.ref s2), .val (.ref b1032), .val (.ref r1), .val (.ref r2), .val (.ref b1072), .val (.int (1 : Int32)), .unset, .unset] []))
          refine Go.iloadN (pc' := 138) X1090 hx hby at_137 rfl rfl ?_
          refine Go.ifY (pc' := 154) X1090 hx hby at_138 (by decide) (by decide) (show (0 : Int32) ≤ 0 from by decide) ?_
          refine Go.iloadN (pc' := 155) X1090 hx hby at_154 rfl rfl ?_
          refine Go.iconst (pc' := 156) X1090 hx hby at_155 rfl (v := (1 : Int32)) (by decide) ?_
          refine Go.icmpY (pc' := 172) X1090 hx hby at_156 (by decide) (by decide) (show (0 : Int32) ≤ (1 : Int32) from by decide) ?_
          refine Go.iloadN (pc' := 173) X1090 hx hby at_172 rfl rfl ?_
          refine Go.iconst (pc' := 174) X1090 hx hby at_173 rfl (v := (2 : Int32)) (by decide) ?_
          refine Go.icmpY (pc' := 190) X1090 hx hby at_174 (by decide) (by decide) (show (0 : Int32) ≤ (2 : Int32) from by decide) ?_
          have f1311 : Ar Z h1089 b1072 .char 10 (fun q => .int ((fun q => if q = 0 then 32 else 0) q)) := f1098.congr (fun i h1 h2 => by simp only [apply_ite Value.int, own_nc7 (own_ckr x0 _), own_nc7 (own_ckr x1 _), own_nc32, own_nc13, own_nc10])
          exact jn1310 (T1088, h1089, _, (1 : Int32), (fun q => if q = 0 then 32 else 0)) ⟨X1090, e1091, N1099, z1096, hk1097, by (try dsimp only); decide, f1311, fun q h1 h2 => by
          have z : (1 : Int32).toInt = 1 := by decide
          (try dsimp only at h2)
          rw [z] at h2
          have t : q = 0 := (by omega)
          rcases t with rfl <;> rfl, f1094, f1095⟩
        ·
          subst q
          show Go p e below _ (T1088.setTop (mkF m 137 #[.val (.int x0), .val (.int x1), .val (.int x2), .val (.int (1 : Int32)), .val (.int n2), .val (.int (1 : Int32)), .val (.int (1 : Int32)), .val (.ref s1), .val (.ref s2), .val (.ref b1032), .val (.ref r1), .val (.ref r2), .val (.ref b1072), .val (.int (1 : Int32)), .unset, .unset] []))
          refine Go.iloadN (pc' := 138) X1090 hx hby at_137 rfl rfl ?_
          refine Go.ifN (pc' := 141) X1090 hx hby at_138 rfl (show ¬ ((1 : Int32) ≤ 0) from by decide) ?_
          refine Go.aload (pc' := 143) X1090 hx hby at_141 rfl rfl rfl ?_
          refine Go.iload (pc' := 145) X1090 hx hby at_143 rfl rfl ?_
          refine Go.iinc (w := (1 : Int32) + (1 : Int32)) (Ls' := #[.val (.int x0), .val (.int x1), .val (.int x2), .val (.int (1 : Int32)), .val (.int n2), .val (.int (1 : Int32)), .val (.int (1 : Int32)), .val (.ref s1), .val (.ref s2), .val (.ref b1032), .val (.ref r1), .val (.ref r2), .val (.ref b1072), .val (.int ((1 : Int32) + (1 : Int32))), .unset, .unset]) (pc' := 148) X1090 hx hby at_145 rfl rfl rfl rfl ?_
          change Go p e below _ (T1088.setTop (mkF m 148 #[.val (.int x0), .val (.int x1), .val (.int x2), .val (.int (1 : Int32)), .val (.int n2), .val (.int (1 : Int32)), .val (.int (1 : Int32)), .val (.ref s1), .val (.ref s2), .val (.ref b1032), .val (.ref r1), .val (.ref r2), .val (.ref b1072), .val (.int (2 : Int32)), .unset, .unset] [(.int (1 : Int32)), (.ref b1072)]))
          refine Go.iloadN (pc' := 149) X1090 hx hby at_148 rfl rfl ?_
          refine Go.iconst (pc' := 150) X1090 hx hby at_149 rfl (v := (0 : Int32)) (by decide) ?_
          refine Go.callS (pc' := 153) (W := 2) (argsL := [(.int x0), (.int (0 : Int32))]) (rest := [(.int (1 : Int32)), (.ref b1072)]) X1090 hx hby hZ9 ho9 (hw _ (List.mem_of_getElem? (i := 8) rfl)) (hw _ (List.mem_of_getElem? (i := 9) rfl)) (hw _ (List.mem_of_getElem? (i := 2) rfl)) (hw _ (List.mem_of_getElem? (i := 10) rfl)) (by decide) (rmch l Z a0 hw x0 0 h1089) e1091 (by decide) (by decide) (by rw [hml]; rfl) pd_10 rfl rfl rfl (Nat.le_of_eq rfl) at_150 rfl (by decide) (by decide) ?_
          rintro r1313 T1314 L1315 X1316 ⟨rfl, rfl, e1312⟩
          rw [List.append_nil] at X1316
          show Go p e below _ (T1314.setTop (mkF m 153 #[.val (.int x0), .val (.int x1), .val (.int x2), .val (.int (1 : Int32)), .val (.int n2), .val (.int (1 : Int32)), .val (.int (1 : Int32)), .val (.ref s1), .val (.ref s2), .val (.ref b1032), .val (.ref r1), .val (.ref r2), .val (.ref b1072), .val (.int (2 : Int32)), .unset, .unset] [(.int (own_ck x0 0)), (.int (1 : Int32)), (.ref b1072)]))
          refine Go.castore (pc' := 154) (i := 1) X1316 hx hby hZ9 e1312 f1098 at_153 rfl (by decide) (by decide) (by decide) ?_
          intro T1317 h1318 X1319 e1320 W1321 A1322
          have f1323 : Ar Z h1318 r1 .byte (ln2_.toInt + 2) (fun q => .int (Rr1 q)) := f1094.other W1321 n1080
          have f1324 : Ar Z h1318 r2 .byte (ln2_.toInt + 2) (fun q => .int (Rr2 q)) := f1095.other W1321 n1081
          have z1325 : h0.size ≤ h1318.size := by rw [Wr.size W1321]; exact z1096
          have hk1326 : k9 ≤ h1318.size := by rw [Wr.size W1321]; exact hk1097
          have f1327 : Ar Z h1318 b1072 .char 10 (fun q => if q = 1 then (.int (nar .char (own_ck x0 0))) else if q = 0 then (.int (nar .char (32 : Int32))) else (.int 0)) := A1322
          have N1328 : Fr h0.size _ := Fr.snoc X1319 N1099 g1082
          show Go p e below _ (T1317.setTop (mkF m 154 #[.val (.int x0), .val (.int x1), .val (.int x2), .val (.int (1 : Int32)), .val (.int n2), .val (.int (1 : Int32)), .val (.int (1 : Int32)), .val (.ref s1), .val (.ref s2), .val (.ref b1032), .val (.ref r1), .val (.ref r2), .val (.ref b1072), .val (.int (2 : Int32)), .unset, .unset] []))
          refine Go.iloadN (pc' := 155) X1319 hx hby at_154 rfl rfl ?_
          refine Go.iconst (pc' := 156) X1319 hx hby at_155 rfl (v := (1 : Int32)) (by decide) ?_
          refine Go.icmpY (pc' := 172) X1319 hx hby at_156 (by decide) (by decide) (show (1 : Int32) ≤ (1 : Int32) from by decide) ?_
          refine Go.iloadN (pc' := 173) X1319 hx hby at_172 rfl rfl ?_
          refine Go.iconst (pc' := 174) X1319 hx hby at_173 rfl (v := (2 : Int32)) (by decide) ?_
          refine Go.icmpY (pc' := 190) X1319 hx hby at_174 (by decide) (by decide) (show (1 : Int32) ≤ (2 : Int32) from by decide) ?_
          have f1329 : Ar Z h1318 b1072 .char 10 (fun q => .int ((fun q => if q = 1 then own_ck x0 0 else if q = 0 then 32 else 0) q)) := f1327.congr (fun i h1 h2 => by simp only [apply_ite Value.int, own_nc7 (own_ckr x0 _), own_nc7 (own_ckr x1 _), own_nc32, own_nc13, own_nc10])
          exact jn1310 (T1317, h1318, _, (2 : Int32), (fun q => if q = 1 then own_ck x0 0 else if q = 0 then 32 else 0)) ⟨X1319, e1320, N1328, z1325, hk1326, by (try dsimp only); decide, f1329, fun q h1 h2 => by
          have z : (2 : Int32).toInt = 2 := by decide
          (try dsimp only at h2)
          rw [z] at h2
          have t : q = 0 ∨ q = 1 := (by omega)
          rcases t with rfl | rfl <;> rfl, f1323, f1324⟩
        ·
          subst q
          show Go p e below _ (T1088.setTop (mkF m 137 #[.val (.int x0), .val (.int x1), .val (.int x2), .val (.int (2 : Int32)), .val (.int n2), .val (.int (1 : Int32)), .val (.int (1 : Int32)), .val (.ref s1), .val (.ref s2), .val (.ref b1032), .val (.ref r1), .val (.ref r2), .val (.ref b1072), .val (.int (1 : Int32)), .unset, .unset] []))
          refine Go.iloadN (pc' := 138) X1090 hx hby at_137 rfl rfl ?_
          refine Go.ifN (pc' := 141) X1090 hx hby at_138 rfl (show ¬ ((2 : Int32) ≤ 0) from by decide) ?_
          refine Go.aload (pc' := 143) X1090 hx hby at_141 rfl rfl rfl ?_
          refine Go.iload (pc' := 145) X1090 hx hby at_143 rfl rfl ?_
          refine Go.iinc (w := (1 : Int32) + (1 : Int32)) (Ls' := #[.val (.int x0), .val (.int x1), .val (.int x2), .val (.int (2 : Int32)), .val (.int n2), .val (.int (1 : Int32)), .val (.int (1 : Int32)), .val (.ref s1), .val (.ref s2), .val (.ref b1032), .val (.ref r1), .val (.ref r2), .val (.ref b1072), .val (.int ((1 : Int32) + (1 : Int32))), .unset, .unset]) (pc' := 148) X1090 hx hby at_145 rfl rfl rfl rfl ?_
          change Go p e below _ (T1088.setTop (mkF m 148 #[.val (.int x0), .val (.int x1), .val (.int x2), .val (.int (2 : Int32)), .val (.int n2), .val (.int (1 : Int32)), .val (.int (1 : Int32)), .val (.ref s1), .val (.ref s2), .val (.ref b1032), .val (.ref r1), .val (.ref r2), .val (.ref b1072), .val (.int (2 : Int32)), .unset, .unset] [(.int (1 : Int32)), (.ref b1072)]))
          refine Go.iloadN (pc' := 149) X1090 hx hby at_148 rfl rfl ?_
          refine Go.iconst (pc' := 150) X1090 hx hby at_149 rfl (v := (0 : Int32)) (by decide) ?_
          refine Go.callS (pc' := 153) (W := 2) (argsL := [(.int x0), (.int (0 : Int32))]) (rest := [(.int (1 : Int32)), (.ref b1072)]) X1090 hx hby hZ9 ho9 (hw _ (List.mem_of_getElem? (i := 8) rfl)) (hw _ (List.mem_of_getElem? (i := 9) rfl)) (hw _ (List.mem_of_getElem? (i := 2) rfl)) (hw _ (List.mem_of_getElem? (i := 10) rfl)) (by decide) (rmch l Z a0 hw x0 0 h1089) e1091 (by decide) (by decide) (by rw [hml]; rfl) pd_10 rfl rfl rfl (Nat.le_of_eq rfl) at_150 rfl (by decide) (by decide) ?_
          rintro r1331 T1332 L1333 X1334 ⟨rfl, rfl, e1330⟩
          rw [List.append_nil] at X1334
          show Go p e below _ (T1332.setTop (mkF m 153 #[.val (.int x0), .val (.int x1), .val (.int x2), .val (.int (2 : Int32)), .val (.int n2), .val (.int (1 : Int32)), .val (.int (1 : Int32)), .val (.ref s1), .val (.ref s2), .val (.ref b1032), .val (.ref r1), .val (.ref r2), .val (.ref b1072), .val (.int (2 : Int32)), .unset, .unset] [(.int (own_ck x0 0)), (.int (1 : Int32)), (.ref b1072)]))
          refine Go.castore (pc' := 154) (i := 1) X1334 hx hby hZ9 e1330 f1098 at_153 rfl (by decide) (by decide) (by decide) ?_
          intro T1335 h1336 X1337 e1338 W1339 A1340
          have f1341 : Ar Z h1336 r1 .byte (ln2_.toInt + 2) (fun q => .int (Rr1 q)) := f1094.other W1339 n1080
          have f1342 : Ar Z h1336 r2 .byte (ln2_.toInt + 2) (fun q => .int (Rr2 q)) := f1095.other W1339 n1081
          have z1343 : h0.size ≤ h1336.size := by rw [Wr.size W1339]; exact z1096
          have hk1344 : k9 ≤ h1336.size := by rw [Wr.size W1339]; exact hk1097
          have f1345 : Ar Z h1336 b1072 .char 10 (fun q => if q = 1 then (.int (nar .char (own_ck x0 0))) else if q = 0 then (.int (nar .char (32 : Int32))) else (.int 0)) := A1340
          have N1346 : Fr h0.size _ := Fr.snoc X1337 N1099 g1082
          show Go p e below _ (T1335.setTop (mkF m 154 #[.val (.int x0), .val (.int x1), .val (.int x2), .val (.int (2 : Int32)), .val (.int n2), .val (.int (1 : Int32)), .val (.int (1 : Int32)), .val (.ref s1), .val (.ref s2), .val (.ref b1032), .val (.ref r1), .val (.ref r2), .val (.ref b1072), .val (.int (2 : Int32)), .unset, .unset] []))
          refine Go.iloadN (pc' := 155) X1337 hx hby at_154 rfl rfl ?_
          refine Go.iconst (pc' := 156) X1337 hx hby at_155 rfl (v := (1 : Int32)) (by decide) ?_
          refine Go.icmpN (pc' := 159) X1337 hx hby at_156 rfl (show ¬ ((2 : Int32) ≤ (1 : Int32)) from by decide) ?_
          refine Go.aload (pc' := 161) X1337 hx hby at_159 rfl rfl rfl ?_
          refine Go.iload (pc' := 163) X1337 hx hby at_161 rfl rfl ?_
          refine Go.iinc (w := (2 : Int32) + (1 : Int32)) (Ls' := #[.val (.int x0), .val (.int x1), .val (.int x2), .val (.int (2 : Int32)), .val (.int n2), .val (.int (1 : Int32)), .val (.int (1 : Int32)), .val (.ref s1), .val (.ref s2), .val (.ref b1032), .val (.ref r1), .val (.ref r2), .val (.ref b1072), .val (.int ((2 : Int32) + (1 : Int32))), .unset, .unset]) (pc' := 166) X1337 hx hby at_163 rfl rfl rfl rfl ?_
          change Go p e below _ (T1335.setTop (mkF m 166 #[.val (.int x0), .val (.int x1), .val (.int x2), .val (.int (2 : Int32)), .val (.int n2), .val (.int (1 : Int32)), .val (.int (1 : Int32)), .val (.ref s1), .val (.ref s2), .val (.ref b1032), .val (.ref r1), .val (.ref r2), .val (.ref b1072), .val (.int (3 : Int32)), .unset, .unset] [(.int (2 : Int32)), (.ref b1072)]))
          refine Go.iloadN (pc' := 167) X1337 hx hby at_166 rfl rfl ?_
          refine Go.iconst (pc' := 168) X1337 hx hby at_167 rfl (v := (1 : Int32)) (by decide) ?_
          refine Go.callS (pc' := 171) (W := 2) (argsL := [(.int x0), (.int (1 : Int32))]) (rest := [(.int (2 : Int32)), (.ref b1072)]) X1337 hx hby hZ9 ho9 (hw _ (List.mem_of_getElem? (i := 8) rfl)) (hw _ (List.mem_of_getElem? (i := 9) rfl)) (hw _ (List.mem_of_getElem? (i := 2) rfl)) (hw _ (List.mem_of_getElem? (i := 10) rfl)) (by decide) (rmch l Z a0 hw x0 1 h1336) e1338 (by decide) (by decide) (by rw [hml]; rfl) pd_10 rfl rfl rfl (Nat.le_of_eq rfl) at_168 rfl (by decide) (by decide) ?_
          rintro r1348 T1349 L1350 X1351 ⟨rfl, rfl, e1347⟩
          rw [List.append_nil] at X1351
          show Go p e below _ (T1349.setTop (mkF m 171 #[.val (.int x0), .val (.int x1), .val (.int x2), .val (.int (2 : Int32)), .val (.int n2), .val (.int (1 : Int32)), .val (.int (1 : Int32)), .val (.ref s1), .val (.ref s2), .val (.ref b1032), .val (.ref r1), .val (.ref r2), .val (.ref b1072), .val (.int (3 : Int32)), .unset, .unset] [(.int (own_ck x0 1)), (.int (2 : Int32)), (.ref b1072)]))
          refine Go.castore (pc' := 172) (i := 2) X1351 hx hby hZ9 e1347 f1345 at_171 rfl (by decide) (by decide) (by decide) ?_
          intro T1352 h1353 X1354 e1355 W1356 A1357
          have f1358 : Ar Z h1353 r1 .byte (ln2_.toInt + 2) (fun q => .int (Rr1 q)) := f1341.other W1356 n1080
          have f1359 : Ar Z h1353 r2 .byte (ln2_.toInt + 2) (fun q => .int (Rr2 q)) := f1342.other W1356 n1081
          have z1360 : h0.size ≤ h1353.size := by rw [Wr.size W1356]; exact z1343
          have hk1361 : k9 ≤ h1353.size := by rw [Wr.size W1356]; exact hk1344
          have f1362 : Ar Z h1353 b1072 .char 10 (fun q => if q = 2 then (.int (nar .char (own_ck x0 1))) else if q = 1 then (.int (nar .char (own_ck x0 0))) else if q = 0 then (.int (nar .char (32 : Int32))) else (.int 0)) := A1357
          have N1363 : Fr h0.size _ := Fr.snoc X1354 N1346 g1082
          show Go p e below _ (T1352.setTop (mkF m 172 #[.val (.int x0), .val (.int x1), .val (.int x2), .val (.int (2 : Int32)), .val (.int n2), .val (.int (1 : Int32)), .val (.int (1 : Int32)), .val (.ref s1), .val (.ref s2), .val (.ref b1032), .val (.ref r1), .val (.ref r2), .val (.ref b1072), .val (.int (3 : Int32)), .unset, .unset] []))
          refine Go.iloadN (pc' := 173) X1354 hx hby at_172 rfl rfl ?_
          refine Go.iconst (pc' := 174) X1354 hx hby at_173 rfl (v := (2 : Int32)) (by decide) ?_
          refine Go.icmpY (pc' := 190) X1354 hx hby at_174 (by decide) (by decide) (show (2 : Int32) ≤ (2 : Int32) from by decide) ?_
          have f1364 : Ar Z h1353 b1072 .char 10 (fun q => .int ((fun q => if q = 2 then own_ck x0 1 else if q = 1 then own_ck x0 0 else if q = 0 then 32 else 0) q)) := f1362.congr (fun i h1 h2 => by simp only [apply_ite Value.int, own_nc7 (own_ckr x0 _), own_nc7 (own_ckr x1 _), own_nc32, own_nc13, own_nc10])
          exact jn1310 (T1352, h1353, _, (3 : Int32), (fun q => if q = 2 then own_ck x0 1 else if q = 1 then own_ck x0 0 else if q = 0 then 32 else 0)) ⟨X1354, e1355, N1363, z1360, hk1361, by (try dsimp only); decide, f1364, fun q h1 h2 => by
          have z : (3 : Int32).toInt = 3 := by decide
          (try dsimp only at h2)
          rw [z] at h2
          have t : q = 0 ∨ q = 1 ∨ q = 2 := (by omega)
          rcases t with rfl | rfl | rfl <;> rfl, f1358, f1359⟩
        ·
          subst q
          show Go p e below _ (T1088.setTop (mkF m 137 #[.val (.int x0), .val (.int x1), .val (.int x2), .val (.int (3 : Int32)), .val (.int n2), .val (.int (1 : Int32)), .val (.int (1 : Int32)), .val (.ref s1), .val (.ref s2), .val (.ref b1032), .val (.ref r1), .val (.ref r2), .val (.ref b1072), .val (.int (1 : Int32)), .unset, .unset] []))
          refine Go.iloadN (pc' := 138) X1090 hx hby at_137 rfl rfl ?_
          refine Go.ifN (pc' := 141) X1090 hx hby at_138 rfl (show ¬ ((3 : Int32) ≤ 0) from by decide) ?_
          refine Go.aload (pc' := 143) X1090 hx hby at_141 rfl rfl rfl ?_
          refine Go.iload (pc' := 145) X1090 hx hby at_143 rfl rfl ?_
          refine Go.iinc (w := (1 : Int32) + (1 : Int32)) (Ls' := #[.val (.int x0), .val (.int x1), .val (.int x2), .val (.int (3 : Int32)), .val (.int n2), .val (.int (1 : Int32)), .val (.int (1 : Int32)), .val (.ref s1), .val (.ref s2), .val (.ref b1032), .val (.ref r1), .val (.ref r2), .val (.ref b1072), .val (.int ((1 : Int32) + (1 : Int32))), .unset, .unset]) (pc' := 148) X1090 hx hby at_145 rfl rfl rfl rfl ?_
          change Go p e below _ (T1088.setTop (mkF m 148 #[.val (.int x0), .val (.int x1), .val (.int x2), .val (.int (3 : Int32)), .val (.int n2), .val (.int (1 : Int32)), .val (.int (1 : Int32)), .val (.ref s1), .val (.ref s2), .val (.ref b1032), .val (.ref r1), .val (.ref r2), .val (.ref b1072), .val (.int (2 : Int32)), .unset, .unset] [(.int (1 : Int32)), (.ref b1072)]))
          refine Go.iloadN (pc' := 149) X1090 hx hby at_148 rfl rfl ?_
          refine Go.iconst (pc' := 150) X1090 hx hby at_149 rfl (v := (0 : Int32)) (by decide) ?_
          refine Go.callS (pc' := 153) (W := 2) (argsL := [(.int x0), (.int (0 : Int32))]) (rest := [(.int (1 : Int32)), (.ref b1072)]) X1090 hx hby hZ9 ho9 (hw _ (List.mem_of_getElem? (i := 8) rfl)) (hw _ (List.mem_of_getElem? (i := 9) rfl)) (hw _ (List.mem_of_getElem? (i := 2) rfl)) (hw _ (List.mem_of_getElem? (i := 10) rfl)) (by decide) (rmch l Z a0 hw x0 0 h1089) e1091 (by decide) (by decide) (by rw [hml]; rfl) pd_10 rfl rfl rfl (Nat.le_of_eq rfl) at_150 rfl (by decide) (by decide) ?_
          rintro r1366 T1367 L1368 X1369 ⟨rfl, rfl, e1365⟩
          rw [List.append_nil] at X1369
          show Go p e below _ (T1367.setTop (mkF m 153 #[.val (.int x0), .val (.int x1), .val (.int x2), .val (.int (3 : Int32)), .val (.int n2), .val (.int (1 : Int32)), .val (.int (1 : Int32)), .val (.ref s1), .val (.ref s2), .val (.ref b1032), .val (.ref r1), .val (.ref r2), .val (.ref b1072), .val (.int (2 : Int32)), .unset, .unset] [(.int (own_ck x0 0)), (.int (1 : Int32)), (.ref b1072)]))
          refine Go.castore (pc' := 154) (i := 1) X1369 hx hby hZ9 e1365 f1098 at_153 rfl (by decide) (by decide) (by decide) ?_
          intro T1370 h1371 X1372 e1373 W1374 A1375
          have f1376 : Ar Z h1371 r1 .byte (ln2_.toInt + 2) (fun q => .int (Rr1 q)) := f1094.other W1374 n1080
          have f1377 : Ar Z h1371 r2 .byte (ln2_.toInt + 2) (fun q => .int (Rr2 q)) := f1095.other W1374 n1081
          have z1378 : h0.size ≤ h1371.size := by rw [Wr.size W1374]; exact z1096
          have hk1379 : k9 ≤ h1371.size := by rw [Wr.size W1374]; exact hk1097
          have f1380 : Ar Z h1371 b1072 .char 10 (fun q => if q = 1 then (.int (nar .char (own_ck x0 0))) else if q = 0 then (.int (nar .char (32 : Int32))) else (.int 0)) := A1375
          have N1381 : Fr h0.size _ := Fr.snoc X1372 N1099 g1082
          show Go p e below _ (T1370.setTop (mkF m 154 #[.val (.int x0), .val (.int x1), .val (.int x2), .val (.int (3 : Int32)), .val (.int n2), .val (.int (1 : Int32)), .val (.int (1 : Int32)), .val (.ref s1), .val (.ref s2), .val (.ref b1032), .val (.ref r1), .val (.ref r2), .val (.ref b1072), .val (.int (2 : Int32)), .unset, .unset] []))
          refine Go.iloadN (pc' := 155) X1372 hx hby at_154 rfl rfl ?_
          refine Go.iconst (pc' := 156) X1372 hx hby at_155 rfl (v := (1 : Int32)) (by decide) ?_
          refine Go.icmpN (pc' := 159) X1372 hx hby at_156 rfl (show ¬ ((3 : Int32) ≤ (1 : Int32)) from by decide) ?_
          refine Go.aload (pc' := 161) X1372 hx hby at_159 rfl rfl rfl ?_
          refine Go.iload (pc' := 163) X1372 hx hby at_161 rfl rfl ?_
          refine Go.iinc (w := (2 : Int32) + (1 : Int32)) (Ls' := #[.val (.int x0), .val (.int x1), .val (.int x2), .val (.int (3 : Int32)), .val (.int n2), .val (.int (1 : Int32)), .val (.int (1 : Int32)), .val (.ref s1), .val (.ref s2), .val (.ref b1032), .val (.ref r1), .val (.ref r2), .val (.ref b1072), .val (.int ((2 : Int32) + (1 : Int32))), .unset, .unset]) (pc' := 166) X1372 hx hby at_163 rfl rfl rfl rfl ?_
          change Go p e below _ (T1370.setTop (mkF m 166 #[.val (.int x0), .val (.int x1), .val (.int x2), .val (.int (3 : Int32)), .val (.int n2), .val (.int (1 : Int32)), .val (.int (1 : Int32)), .val (.ref s1), .val (.ref s2), .val (.ref b1032), .val (.ref r1), .val (.ref r2), .val (.ref b1072), .val (.int (3 : Int32)), .unset, .unset] [(.int (2 : Int32)), (.ref b1072)]))
          refine Go.iloadN (pc' := 167) X1372 hx hby at_166 rfl rfl ?_
          refine Go.iconst (pc' := 168) X1372 hx hby at_167 rfl (v := (1 : Int32)) (by decide) ?_
          refine Go.callS (pc' := 171) (W := 2) (argsL := [(.int x0), (.int (1 : Int32))]) (rest := [(.int (2 : Int32)), (.ref b1072)]) X1372 hx hby hZ9 ho9 (hw _ (List.mem_of_getElem? (i := 8) rfl)) (hw _ (List.mem_of_getElem? (i := 9) rfl)) (hw _ (List.mem_of_getElem? (i := 2) rfl)) (hw _ (List.mem_of_getElem? (i := 10) rfl)) (by decide) (rmch l Z a0 hw x0 1 h1371) e1373 (by decide) (by decide) (by rw [hml]; rfl) pd_10 rfl rfl rfl (Nat.le_of_eq rfl) at_168 rfl (by decide) (by decide) ?_
          rintro r1383 T1384 L1385 X1386 ⟨rfl, rfl, e1382⟩
          rw [List.append_nil] at X1386
          show Go p e below _ (T1384.setTop (mkF m 171 #[.val (.int x0), .val (.int x1), .val (.int x2), .val (.int (3 : Int32)), .val (.int n2), .val (.int (1 : Int32)), .val (.int (1 : Int32)), .val (.ref s1), .val (.ref s2), .val (.ref b1032), .val (.ref r1), .val (.ref r2), .val (.ref b1072), .val (.int (3 : Int32)), .unset, .unset] [(.int (own_ck x0 1)), (.int (2 : Int32)), (.ref b1072)]))
          refine Go.castore (pc' := 172) (i := 2) X1386 hx hby hZ9 e1382 f1380 at_171 rfl (by decide) (by decide) (by decide) ?_
          intro T1387 h1388 X1389 e1390 W1391 A1392
          have f1393 : Ar Z h1388 r1 .byte (ln2_.toInt + 2) (fun q => .int (Rr1 q)) := f1376.other W1391 n1080
          have f1394 : Ar Z h1388 r2 .byte (ln2_.toInt + 2) (fun q => .int (Rr2 q)) := f1377.other W1391 n1081
          have z1395 : h0.size ≤ h1388.size := by rw [Wr.size W1391]; exact z1378
          have hk1396 : k9 ≤ h1388.size := by rw [Wr.size W1391]; exact hk1379
          have f1397 : Ar Z h1388 b1072 .char 10 (fun q => if q = 2 then (.int (nar .char (own_ck x0 1))) else if q = 1 then (.int (nar .char (own_ck x0 0))) else if q = 0 then (.int (nar .char (32 : Int32))) else (.int 0)) := A1392
          have N1398 : Fr h0.size _ := Fr.snoc X1389 N1381 g1082
          show Go p e below _ (T1387.setTop (mkF m 172 #[.val (.int x0), .val (.int x1), .val (.int x2), .val (.int (3 : Int32)), .val (.int n2), .val (.int (1 : Int32)), .val (.int (1 : Int32)), .val (.ref s1), .val (.ref s2), .val (.ref b1032), .val (.ref r1), .val (.ref r2), .val (.ref b1072), .val (.int (3 : Int32)), .unset, .unset] []))
          refine Go.iloadN (pc' := 173) X1389 hx hby at_172 rfl rfl ?_
          refine Go.iconst (pc' := 174) X1389 hx hby at_173 rfl (v := (2 : Int32)) (by decide) ?_
          refine Go.icmpN (pc' := 177) X1389 hx hby at_174 rfl (show ¬ ((3 : Int32) ≤ (2 : Int32)) from by decide) ?_
          refine Go.aload (pc' := 179) X1389 hx hby at_177 rfl rfl rfl ?_
          refine Go.iload (pc' := 181) X1389 hx hby at_179 rfl rfl ?_
          refine Go.iinc (w := (3 : Int32) + (1 : Int32)) (Ls' := #[.val (.int x0), .val (.int x1), .val (.int x2), .val (.int (3 : Int32)), .val (.int n2), .val (.int (1 : Int32)), .val (.int (1 : Int32)), .val (.ref s1), .val (.ref s2), .val (.ref b1032), .val (.ref r1), .val (.ref r2), .val (.ref b1072), .val (.int ((3 : Int32) + (1 : Int32))), .unset, .unset]) (pc' := 184) X1389 hx hby at_181 rfl rfl rfl rfl ?_
          change Go p e below _ (T1387.setTop (mkF m 184 #[.val (.int x0), .val (.int x1), .val (.int x2), .val (.int (3 : Int32)), .val (.int n2), .val (.int (1 : Int32)), .val (.int (1 : Int32)), .val (.ref s1), .val (.ref s2), .val (.ref b1032), .val (.ref r1), .val (.ref r2), .val (.ref b1072), .val (.int (4 : Int32)), .unset, .unset] [(.int (3 : Int32)), (.ref b1072)]))
          refine Go.iloadN (pc' := 185) X1389 hx hby at_184 rfl rfl ?_
          refine Go.iconst (pc' := 186) X1389 hx hby at_185 rfl (v := (2 : Int32)) (by decide) ?_
          refine Go.callS (pc' := 189) (W := 2) (argsL := [(.int x0), (.int (2 : Int32))]) (rest := [(.int (3 : Int32)), (.ref b1072)]) X1389 hx hby hZ9 ho9 (hw _ (List.mem_of_getElem? (i := 8) rfl)) (hw _ (List.mem_of_getElem? (i := 9) rfl)) (hw _ (List.mem_of_getElem? (i := 2) rfl)) (hw _ (List.mem_of_getElem? (i := 10) rfl)) (by decide) (rmch l Z a0 hw x0 2 h1388) e1390 (by decide) (by decide) (by rw [hml]; rfl) pd_10 rfl rfl rfl (Nat.le_of_eq rfl) at_186 rfl (by decide) (by decide) ?_
          rintro r1400 T1401 L1402 X1403 ⟨rfl, rfl, e1399⟩
          rw [List.append_nil] at X1403
          show Go p e below _ (T1401.setTop (mkF m 189 #[.val (.int x0), .val (.int x1), .val (.int x2), .val (.int (3 : Int32)), .val (.int n2), .val (.int (1 : Int32)), .val (.int (1 : Int32)), .val (.ref s1), .val (.ref s2), .val (.ref b1032), .val (.ref r1), .val (.ref r2), .val (.ref b1072), .val (.int (4 : Int32)), .unset, .unset] [(.int (own_ck x0 2)), (.int (3 : Int32)), (.ref b1072)]))
          refine Go.castore (pc' := 190) (i := 3) X1403 hx hby hZ9 e1399 f1397 at_189 rfl (by decide) (by decide) (by decide) ?_
          intro T1404 h1405 X1406 e1407 W1408 A1409
          have f1410 : Ar Z h1405 r1 .byte (ln2_.toInt + 2) (fun q => .int (Rr1 q)) := f1393.other W1408 n1080
          have f1411 : Ar Z h1405 r2 .byte (ln2_.toInt + 2) (fun q => .int (Rr2 q)) := f1394.other W1408 n1081
          have z1412 : h0.size ≤ h1405.size := by rw [Wr.size W1408]; exact z1395
          have hk1413 : k9 ≤ h1405.size := by rw [Wr.size W1408]; exact hk1396
          have f1414 : Ar Z h1405 b1072 .char 10 (fun q => if q = 3 then (.int (nar .char (own_ck x0 2))) else if q = 2 then (.int (nar .char (own_ck x0 1))) else if q = 1 then (.int (nar .char (own_ck x0 0))) else if q = 0 then (.int (nar .char (32 : Int32))) else (.int 0)) := A1409
          have N1415 : Fr h0.size _ := Fr.snoc X1406 N1398 g1082
          show Go p e below _ (T1404.setTop (mkF m 190 #[.val (.int x0), .val (.int x1), .val (.int x2), .val (.int (3 : Int32)), .val (.int n2), .val (.int (1 : Int32)), .val (.int (1 : Int32)), .val (.ref s1), .val (.ref s2), .val (.ref b1032), .val (.ref r1), .val (.ref r2), .val (.ref b1072), .val (.int (4 : Int32)), .unset, .unset] []))
          have f1416 : Ar Z h1405 b1072 .char 10 (fun q => .int ((fun q => if q = 3 then own_ck x0 2 else if q = 2 then own_ck x0 1 else if q = 1 then own_ck x0 0 else if q = 0 then 32 else 0) q)) := f1414.congr (fun i h1 h2 => by simp only [apply_ite Value.int, own_nc7 (own_ckr x0 _), own_nc7 (own_ckr x1 _), own_nc32, own_nc13, own_nc10])
          exact jn1310 (T1404, h1405, _, (4 : Int32), (fun q => if q = 3 then own_ck x0 2 else if q = 2 then own_ck x0 1 else if q = 1 then own_ck x0 0 else if q = 0 then 32 else 0)) ⟨X1406, e1407, N1415, z1412, hk1413, by (try dsimp only); decide, f1416, fun q h1 h2 => by
          have z : (4 : Int32).toInt = 4 := by decide
          (try dsimp only at h2)
          rw [z] at h2
          have t : q = 0 ∨ q = 1 ∨ q = 2 ∨ q = 3 := (by omega)
          rcases t with rfl | rfl | rfl | rfl <;> rfl, f1410, f1411⟩
set_option maxRecDepth 65536 in
set_option maxHeartbeats 40000000 in
theorem comes_1 {Post : Tables → Env → Array Value → State → Outcome → State → Prop} (hpost : ∀ tb e args s v u, (limb_1_1.after args s (.returned v) u = true ∧ limb_1_2.after args s (.returned v) u = true ∧ True) → ReturnedEndW s (.returned v) u (Jvm.fieldLocs frame_1_writes args s ++ Jvm.arrayLocs frame_1_arrays args s ++ Jvm.staticLocs frame_1_statics s) 40 2880 → Post tb e args s (.returned v) u) :
    ArmFor flags0 classFile x code maxLocals ret World_1 tables_1 room_1 Calls_1 rest_1 Pre_1 Post := by
  intro l hfl _ _ p e ha hc hk s m args below hf hA hF happ hP
  obtain ⟨hcalls, hrest, hpre⟩ := hP
  obtain ⟨-, -, -, hnamed, -, -, -, hat⟩ := (Spec.applies_iff hf).mp happ
  obtain ⟨hg, hn⟩ := and_e (Cond.before_iff.mp (show (Jvm.Cond.and given_1 narrow_1).before args s = true from hpre))
  obtain ⟨h1, g0⟩ := and_e hg
  obtain ⟨w0, w1, w2, rfl⟩ : ∃ w0 w1 w2 : Value, args = #[w0, w1, w2] := by
    have hs : args.size = 3 := by simpa [Cond.value, given_1] using h1
    obtain ⟨L⟩ := args
    match L, hs with
    | [w0, w1, w2], _ => exact ⟨w0, w1, w2, rfl⟩
  have hw := fun d (hd : d ∈ tables_1) => atoms_spec (ws := Jvm.Cond.code x code maxLocals ret :: tables_1) hat d (List.mem_cons_of_mem _ hd)
  have hfit : Fit s := fun {y c} hc i hi => by
    obtain ⟨ha, rfl⟩ := Array.getElem?_eq_some_iff.mp hc
    have q := List.all_eq_true.mp ((Array.all_eq_true_iff_forall_mem.mp hF) _ (Array.getElem_mem ha)) i (List.mem_range.mpr hi)
    simpa [Array.getElem?_eq_getElem hi] using q
  obtain ⟨k0, g1⟩ := and_e g0
  obtain ⟨i0, e0⟩ := is_v k0
  obtain rfl : w0 = (.int i0) := Option.some.inj e0
  obtain ⟨k1, g2⟩ := and_e g1
  obtain ⟨i1, e1⟩ := is_v k1
  obtain rfl : w1 = (.int i1) := Option.some.inj e1
  obtain ⟨i2, e2⟩ := is_v g2
  obtain rfl : w2 = (.int i2) := Option.some.inj e2
  obtain ⟨hsets, -⟩ := atoms_of jdkStatics_1 (by rw [← rest_1_c_eq]; exact hrest)
  have hset := fun (k : Nat) (d : Jvm.Cond) (hk : jdkStatics_1[k]? = some d) => hsets d (List.mem_of_getElem? hk)
  obtain ⟨kk, ev0⟩ := is_v (Cond.before_iff.mp (hset 1 _ rfl))
  have hkk := own_eqi (Cond.before_iff.mp (hset 2 _ rfl)) ev0
  have S0 := Sta.start ev0 (Or.inl (hset 0 _ rfl))
  obtain ⟨sf, ev4, hsf⟩ := isR_v (Cond.before_iff.mp (hset 8 _ rfl))
  have S4 := Sta.start ev4 (Or.inl (hset 7 _ rfl))
  have hsf' : sf = .null ∨ ∃ r, sf = .ref r := by cases sf <;> simp [Value.isRef] at hsf ⊢
  have SS : own_S s kk sf := ⟨hkk, S0, S4, hsf'⟩
  have HC : CHv s own_EL s.vm s.heap := CHv.start (own_ew hw) (fun q hq => hcalls.1 q hq) (hset 2 _ rfl) (hw _ (List.mem_of_getElem? (i := 26) rfl)) (hw _ (List.mem_of_getElem? (i := 5) rfl))
  obtain ⟨n, o, h1, h2, h3, _, L, rfl, ⟨rfl, N⟩, hq⟩ := rm0 l s _ hw i0 i1 i2 s.heap kk sf (Old.start s) SS p e ha hc hk s m _ below hf ((Spec.applies_iff_loose hf).mp happ).1 ⟨rfl, State.Warmed39.refl s, rfl, HC⟩ trivial
  refine ⟨n, _, h1, h2, h3, hpost _ _ _ _ _ _ ⟨Cond.after_iff.mpr rfl, Cond.after_iff.mpr (eq_i res_at (Term.int_eval (1)) rfl), trivial⟩ ⟨hq.1, hq.2.1, hq.2.2.1, (hq.2.2.2.sift fun y hy => Or.inr (N y hy)).mono (by decide) (by decide)⟩⟩
theorem main_1_1 : Claimed_1_1 := comes_1 fun _ _ _ _ _ _ h hF => ⟨h.1, hF⟩
theorem main_1_2 : Claimed_1_2 := comes_1 fun _ _ _ _ _ _ h hF => ⟨h.2.1, hF⟩
end Jvm.Pilot.@@N@@
namespace Jvm.Pilot.@@N@@
open Jvm Jvm.ClassFile Sem Op Lib Jvm.Free Jvm.Stand Jvm.Pilot.@@N@@.Jvm.D
/-! MADE BY PROGRAM (witnessworld.py) out of the Statement's table words and the real class files: 23 classes; the members and pool entries that the words name. The judged class is class 1, her method 4. -/
namespace start1
open Jvm.ClassFile
def u (s : String) : CpInfo := .utf8 (stringToUtf16 s)
/-- a pool by its gaps: so many unusable entries, then the entry; so many at the end -/
def gap : Nat → List CpInfo → List CpInfo
  | 0, r => r
  | n + 1, r => .unusable :: gap n r
def poolList (es : List (Nat × CpInfo)) (last : Nat) : List CpInfo := es.foldr (fun e r => gap e.1 (e.2 :: r)) (gap last [])
def pool (es : List (Nat × CpInfo)) (last : Nat) : Array CpInfo := ⟨poolList es last⟩
def fileOf (pool : Array CpInfo) (this : Nat) (attrs : Array Attribute := #[]) (ms : Array MethodInfo := #[]) (fl : Nat := 33) (sup : Nat := 0) (ifs : Array Nat := #[]) (fds : Array FieldInfo := #[]) : ClassFile where
  minorVersion := 0
  majorVersion := 65
  constantPool := pool
  accessFlags := fl
  thisClass := this
  superClass := sup
  interfaces := ifs
  fields := fds
  methods := ms
  attributes := attrs
def plain (name : String) (sup : Option ClassId) : Class where
  name := name
  kind := .ordinary
  loader := none
  accessFlags := 33
  super := sup
  interfaces := #[]
  cf := none
  fields := #[]
  methods := #[]
  instanceTypes := #[]
  staticTypes := #[]
  resolved := #[]
  callSites := []
  init := .initialized
  statics := none
  mirror := none

def pool0 : Array CpInfo := pool [(5, u "<init>"), (0, u "()V"), (1, .class_ 10), (1, u "java/lang/Object")] 113

def k0c0 : Code := { maxStack := 0, maxLocals := 1, code := object_method_1_code, exceptionTable := #[], attributes := #[] }
def k0m0 : Method := { name := "<init>", desc := "()V", sig := { parameters := [], returnType := none }, accessFlags := 1, code := some k0c0 }
/-- java/lang/Object -/
def k0 : Class := { plain "java/lang/Object" none with
  accessFlags := 33
  interfaces := #[]
  cf := some (fileOf pool0 8 #[] #[{ accessFlags := 1, nameIndex := 5, descriptorIndex := 6, attributes := #[] }] 33 0 #[] #[])
  fields := #[]
  methods := #[k0m0]
  instanceTypes := #[]
  staticTypes := #[]
  resolved := Array.replicate 124 none
  statics := none }

def pool1 : Array CpInfo := pool [(2, .class_ 4), (0, .nameAndType 5 6), (0, u "java/lang/Object"), (0, u "<init>"), (0, u "()V"), (0, .class_ 8), (0, u "java/lang/String"), (0, .methodref 7 10), (0, .nameAndType 5 11), (0, u "([C)V"), (0, .methodref 13 14), (0, .class_ 15), (0, .nameAndType 16 17), (0, u "com/example/vellum_channels/vellumchannels/frame/HeaderLineToOctetsPinLaw"), (0, u "ch"), (0, u "(II)C"), (0, .methodref 7 19), (0, .nameAndType 20 21), (0, u "valueOf"), (0, u "(C)Ljava/lang/String;"), (0, .methodref 13 23), (0, .nameAndType 24 25), (0, u "make"), (0, u "(II)Ljava/lang/String;"), (0, .class_ 27), (0, u "com/example/vellum_channels/vellumchannels/frame/HeaderLine"), (0, .methodref 26 3), (0, .string 30), (0, u "ABCDEFGHIJKLMNOPQRSTUVWXYZabcdefghijklmnopqrstuvwxyz012345678"), (0, .methodref 26 32), (0, .nameAndType 33 34), (0, u "word"), (0, u "(Ljava/lang/String;)Lcom/example/vellum_channels/vellumchannels/frame/HeaderLine;"), (0, .methodref 26 36), (0, .nameAndType 37 38), (0, u "toOctets"), (0, u "()[B"), (0, .methodref 13 40), (0, .nameAndType 41 42), (0, u "same"), (0, u "([BI[CII)Z"), (3, u "law"), (0, u "(III)Z")] 6

def k1m0 : Method := { name := "<init>", desc := "()V", sig := { parameters := [], returnType := none }, accessFlags := 2, code := none }
def k1c1 : Code := { maxStack := 3, maxLocals := 2, code := method_2_code, exceptionTable := #[], attributes := #[] }
def k1m1 : Method := { name := "ch", desc := "(II)C", sig := { parameters := [.int, .int], returnType := some .char }, accessFlags := 10, code := some k1c1 }
def k1c2 : Code := { maxStack := 7, maxLocals := 2, code := method_3_code, exceptionTable := #[], attributes := #[] }
def k1m2 : Method := { name := "make", desc := "(II)Ljava/lang/String;", sig := { parameters := [.int, .int], returnType := some (.object "java/lang/String") }, accessFlags := 10, code := some k1c2 }
def k1c3 : Code := { maxStack := 3, maxLocals := 5, code := method_4_code, exceptionTable := #[], attributes := #[] }
def k1m3 : Method := { name := "same", desc := "([BI[CII)Z", sig := { parameters := [(.array .byte), .int, (.array .char), .int, .int], returnType := some .boolean }, accessFlags := 10, code := some k1c3 }
def k1c4 : Code := { maxStack := 5, maxLocals := 16, code := code, exceptionTable := #[], attributes := #[] }
def k1m4 : Method := { name := "law", desc := "(III)Z", sig := { parameters := [.int, .int, .int], returnType := some .boolean }, accessFlags := 9, code := some k1c4 }
/-- com/example/vellum_channels/vellumchannels/frame/HeaderLineToOctetsPinLaw -/
def k1 : Class := { plain "com/example/vellum_channels/vellumchannels/frame/HeaderLineToOctetsPinLaw" (some 0) with
  accessFlags := 49
  interfaces := #[]
  cf := some (fileOf pool1 13 #[] #[{ accessFlags := 2, nameIndex := 5, descriptorIndex := 6, attributes := #[] }, { accessFlags := 10, nameIndex := 16, descriptorIndex := 17, attributes := #[] }, { accessFlags := 10, nameIndex := 24, descriptorIndex := 25, attributes := #[] }, { accessFlags := 10, nameIndex := 41, descriptorIndex := 42, attributes := #[] }, { accessFlags := 9, nameIndex := 46, descriptorIndex := 47, attributes := #[] }] 49 2 #[] #[])
  fields := #[]
  methods := #[k1m0, k1m1, k1m2, k1m3, k1m4]
  instanceTypes := #[]
  staticTypes := #[]
  resolved := Array.replicate 54 none
  statics := none }

def pool2 : Array CpInfo := pool [(1, .class_ 2), (0, u "java/io/Serializable"), (0, .class_ 4), (0, u "java/lang/Object")] 2

/-- java/io/Serializable -/
def k2 : Class := { plain "java/io/Serializable" (some 0) with
  accessFlags := 1537
  interfaces := #[]
  cf := some (fileOf pool2 1 #[] #[] 1537 3 #[] #[])
  fields := #[]
  methods := #[]
  instanceTypes := #[]
  staticTypes := #[]
  resolved := Array.replicate 7 none
  statics := none }

def pool3 : Array CpInfo := pool [(1, .class_ 2), (0, u "java/lang/Comparable"), (0, .class_ 4), (0, u "java/lang/Object")] 7

/-- java/lang/Comparable -/
def k3 : Class := { plain "java/lang/Comparable" (some 0) with
  accessFlags := 1537
  interfaces := #[]
  cf := some (fileOf pool3 1 #[] #[] 1537 3 #[] #[])
  fields := #[]
  methods := #[]
  instanceTypes := #[]
  staticTypes := #[]
  resolved := Array.replicate 12 none
  statics := none }

def pool4 : Array CpInfo := pool [(2, .class_ 4), (1, u "java/lang/CharSequence"), (42, .class_ 48), (0, u "java/lang/CharSequence$1CodePointIterator"), (10, .class_ 60), (0, u "java/lang/CharSequence$1CharIterator"), (5, .class_ 67), (0, u "java/lang/Object")] 63

/-- java/lang/CharSequence -/
def k4 : Class := { plain "java/lang/CharSequence" (some 0) with
  accessFlags := 1537
  interfaces := #[]
  cf := some (fileOf pool4 2 #[.nestMembers #[47, 59]] #[] 1537 66 #[] #[])
  fields := #[]
  methods := #[]
  instanceTypes := #[]
  staticTypes := #[]
  resolved := Array.replicate 131 none
  statics := none }

def pool5 : Array CpInfo := pool [(1, .class_ 2), (0, u "java/lang/constant/Constable"), (0, .class_ 4), (0, u "java/lang/Object")] 6

/-- java/lang/constant/Constable -/
def k5 : Class := { plain "java/lang/constant/Constable" (some 0) with
  accessFlags := 1537
  interfaces := #[]
  cf := some (fileOf pool5 1 #[] #[] 1537 3 #[] #[])
  fields := #[]
  methods := #[]
  instanceTypes := #[]
  staticTypes := #[]
  resolved := Array.replicate 11 none
  statics := none }

def pool6 : Array CpInfo := pool [(1, .class_ 2), (0, u "java/lang/constant/ConstantDesc"), (0, .class_ 4), (0, u "java/lang/Object")] 32

/-- java/lang/constant/ConstantDesc -/
def k6 : Class := { plain "java/lang/constant/ConstantDesc" (some 0) with
  accessFlags := 1537
  interfaces := #[]
  cf := some (fileOf pool6 1 #[] #[] 1537 3 #[] #[])
  fields := #[]
  methods := #[]
  instanceTypes := #[]
  staticTypes := #[]
  resolved := Array.replicate 37 none
  statics := none }

def pool7 : Array CpInfo := pool [(1, .methodref 2 3), (0, .class_ 4), (0, .nameAndType 5 6), (0, u "java/lang/Object"), (0, u "<init>"), (0, u "()V"), (0, .string 8), (0, u ""), (0, .fieldref 10 11), (0, .class_ 12), (0, .nameAndType 13 14), (0, u "java/lang/String"), (0, u "value"), (0, u "[B"), (0, .fieldref 10 16), (0, .nameAndType 17 18), (0, u "coder"), (0, u "B"), (2, u "hash"), (0, u "I"), (2, u "hashIsZero"), (0, u "Z"), (0, .methodref 10 28), (0, .nameAndType 5 29), (0, u "([CIILjava/lang/Void;)V"), (8, .fieldref 10 39), (0, .nameAndType 40 26), (0, u "COMPACT_STRINGS"), (1, .class_ 44), (1, u "java/lang/StringUTF16"), (0, u "compress"), (1, .methodref 42 48), (0, .nameAndType 49 50), (0, u "coderFromArrayLen"), (0, u "([BI)B"), (2, u "toBytes"), (53, .class_ 109), (1, u "java/lang/StringLatin1"), (32, u "()Z"), (34, .methodref 42 178), (0, .nameAndType 45 179), (0, u "([CII)[B"), (29, .methodref 10 210), (0, .nameAndType 5 211), (0, u "([BB)V"), (122, u "()I"), (0, .methodref 10 336), (0, .nameAndType 17 337), (0, u "()B"), (25, u "([BI)C"), (5, u "(C)Z"), (21, u "(II)V"), (35, u "(I)C"), (64, .methodref 10 493), (0, .nameAndType 494 142), (0, u "isLatin1"), (0, .methodref 107 496), (0, .nameAndType 497 363), (0, u "charAt"), (3, u "checkIndex"), (5, u "length"), (67, .class_ 576), (0, u "java/lang/CharSequence"), (22, u "CASE_INSENSITIVE_ORDER"), (0, u "Ljava/util/Comparator;"), (181, u "valueOf"), (0, u "(C)Ljava/lang/String;"), (226, u "([C)V"), (4, .methodref 107 1016), (0, .nameAndType 1017 369), (0, u "canEncode"), (0, .methodref 107 1019), (0, .nameAndType 53 1020), (0, u "(C)[B"), (32, .fieldref 1054 1055), (0, .class_ 1056), (0, .nameAndType 1057 1058), (0, u "jdk/internal/util/Preconditions"), (0, u "SIOOBE_FORMATTER"), (0, u "Ljava/util/function/BiFunction;"), (0, .methodref 1054 1060), (0, .nameAndType 501 1061), (0, u "(IILjava/util/function/BiFunction;)I"), (39, u "serialPersistentFields"), (0, u "[Ljava/io/ObjectStreamField;"), (0, .class_ 1104), (0, u "java/lang/String$CaseInsensitiveComparator"), (1, .class_ 1107), (0, u "java/io/Serializable"), (0, .class_ 1109), (0, u "java/lang/Comparable"), (0, .class_ 1111), (0, u "java/lang/constant/Constable"), (0, .class_ 1113), (0, u "java/lang/constant/ConstantDesc"), (2, u "serialVersionUID"), (0, u "J"), (3, u "REPL"), (0, u "C"), (2, u "LATIN1"), (1, u "UTF16")] 323

def k7m0 : Method := { name := "<init>", desc := "()V", sig := { parameters := [], returnType := none }, accessFlags := 1, code := none }
def k7c1 : Code := { maxStack := 5, maxLocals := 2, code := jdk_42_method_3_code, exceptionTable := #[], attributes := #[] }
def k7m1 : Method := { name := "<init>", desc := "([C)V", sig := { parameters := [(.array .char)], returnType := none }, accessFlags := 1, code := some k7c1 }
def k7c2 : Code := { maxStack := 2, maxLocals := 1, code := jdk_42_method_54_code, exceptionTable := #[], attributes := #[] }
def k7m2 : Method := { name := "length", desc := "()I", sig := { parameters := [], returnType := some .int }, accessFlags := 1, code := some k7c2 }
def k7c3 : Code := { maxStack := 2, maxLocals := 2, code := jdk_42_method_56_code, exceptionTable := #[], attributes := #[] }
def k7m3 : Method := { name := "charAt", desc := "(I)C", sig := { parameters := [.int], returnType := some .char }, accessFlags := 1, code := some k7c3 }
def k7c4 : Code := { maxStack := 4, maxLocals := 1, code := jdk_42_method_139_code, exceptionTable := #[], attributes := #[] }
def k7m4 : Method := { name := "valueOf", desc := "(C)Ljava/lang/String;", sig := { parameters := [.char], returnType := some (.object "java/lang/String") }, accessFlags := 9, code := some k7c4 }
def k7c5 : Code := { maxStack := 4, maxLocals := 6, code := jdk_42_method_149_code, exceptionTable := #[], attributes := #[] }
def k7m5 : Method := { name := "<init>", desc := "([CIILjava/lang/Void;)V", sig := { parameters := [(.array .char), .int, .int, (.object "java/lang/Void")], returnType := none }, accessFlags := 2, code := some k7c5 }
def k7c6 : Code := { maxStack := 2, maxLocals := 3, code := jdk_42_method_151_code, exceptionTable := #[], attributes := #[] }
def k7m6 : Method := { name := "<init>", desc := "([BB)V", sig := { parameters := [(.array .byte), .byte], returnType := none }, accessFlags := 0, code := some k7c6 }
def k7c7 : Code := { maxStack := 1, maxLocals := 1, code := jdk_42_method_152_code, exceptionTable := #[], attributes := #[] }
def k7m7 : Method := { name := "coder", desc := "()B", sig := { parameters := [], returnType := some .byte }, accessFlags := 0, code := some k7c7 }
def k7c8 : Code := { maxStack := 1, maxLocals := 1, code := jdk_42_method_154_code, exceptionTable := #[], attributes := #[] }
def k7m8 : Method := { name := "isLatin1", desc := "()Z", sig := { parameters := [], returnType := some .boolean }, accessFlags := 0, code := some k7c8 }
def k7c9 : Code := { maxStack := 3, maxLocals := 2, code := jdk_42_method_155_code, exceptionTable := #[], attributes := #[] }
def k7m9 : Method := { name := "checkIndex", desc := "(II)V", sig := { parameters := [.int, .int], returnType := none }, accessFlags := 8, code := some k7c9 }
/-- java/lang/String -/
def k7 : Class := { plain "java/lang/String" (some 0) with
  accessFlags := 49
  interfaces := #[2, 3, 4, 5, 6]
  cf := some (fileOf pool7 10 #[.nestMembers #[1103]] #[{ accessFlags := 1, nameIndex := 5, descriptorIndex := 6, attributes := #[] }, { accessFlags := 1, nameIndex := 5, descriptorIndex := 1010, attributes := #[] }, { accessFlags := 1, nameIndex := 507, descriptorIndex := 334, attributes := #[] }, { accessFlags := 1, nameIndex := 497, descriptorIndex := 427, attributes := #[] }, { accessFlags := 9, nameIndex := 782, descriptorIndex := 783, attributes := #[] }, { accessFlags := 2, nameIndex := 5, descriptorIndex := 29, attributes := #[] }, { accessFlags := 0, nameIndex := 5, descriptorIndex := 211, attributes := #[] }, { accessFlags := 0, nameIndex := 17, descriptorIndex := 337, attributes := #[] }, { accessFlags := 0, nameIndex := 494, descriptorIndex := 142, attributes := #[] }, { accessFlags := 8, nameIndex := 501, descriptorIndex := 391, attributes := #[] }] 49 2 #[1106, 1108, 575, 1110, 1112] #[{ accessFlags := 18, nameIndex := 13, descriptorIndex := 14, attributes := #[] }, { accessFlags := 18, nameIndex := 17, descriptorIndex := 18, attributes := #[] }, { accessFlags := 2, nameIndex := 21, descriptorIndex := 22, attributes := #[] }, { accessFlags := 2, nameIndex := 25, descriptorIndex := 26, attributes := #[] }, { accessFlags := 26, nameIndex := 1116, descriptorIndex := 1117, attributes := #[] }, { accessFlags := 24, nameIndex := 40, descriptorIndex := 26, attributes := #[] }, { accessFlags := 26, nameIndex := 1101, descriptorIndex := 1102, attributes := #[] }, { accessFlags := 26, nameIndex := 1121, descriptorIndex := 1122, attributes := #[] }, { accessFlags := 25, nameIndex := 599, descriptorIndex := 600, attributes := #[] }, { accessFlags := 24, nameIndex := 1125, descriptorIndex := 18, attributes := #[] }, { accessFlags := 24, nameIndex := 1127, descriptorIndex := 18, attributes := #[] }])
  fields := #[{ name := "value", type := (.array .byte), accessFlags := 18, slot := 0, constantValue := 0 }, { name := "coder", type := .byte, accessFlags := 18, slot := 1, constantValue := 0 }, { name := "hash", type := .int, accessFlags := 2, slot := 2, constantValue := 0 }, { name := "hashIsZero", type := .boolean, accessFlags := 2, slot := 3, constantValue := 0 }, { name := "serialVersionUID", type := .long, accessFlags := 26, slot := 0, constantValue := 0 }, { name := "COMPACT_STRINGS", type := .boolean, accessFlags := 24, slot := 1, constantValue := 0 }, { name := "serialPersistentFields", type := (.array (.object "java/io/ObjectStreamField")), accessFlags := 26, slot := 2, constantValue := 0 }, { name := "REPL", type := .char, accessFlags := 26, slot := 3, constantValue := 0 }, { name := "CASE_INSENSITIVE_ORDER", type := (.object "java/util/Comparator"), accessFlags := 25, slot := 4, constantValue := 0 }, { name := "LATIN1", type := .byte, accessFlags := 24, slot := 5, constantValue := 0 }, { name := "UTF16", type := .byte, accessFlags := 24, slot := 6, constantValue := 0 }]
  methods := #[k7m0, k7m1, k7m2, k7m3, k7m4, k7m5, k7m6, k7m7, k7m8, k7m9]
  instanceTypes := #[(.array .byte), .byte, .int, .boolean]
  staticTypes := #[.long, .boolean, (.array (.object "java/io/ObjectStreamField")), .char, (.object "java/util/Comparator"), .byte, .byte]
  resolved := Array.replicate 1451 none
  statics := some 0 }

def pool8 : Array CpInfo := pool [(6, .class_ 8), (1, u "java/lang/Object"), (0, u "<init>"), (0, u "()V"), (1, .class_ 14), (1, u "java/lang/StringUTF16"), (31, u "$assertionsDisabled"), (0, u "Z"), (13, u "HI_BYTE_SHIFT"), (0, u "I"), (2, u "LO_BYTE_SHIFT"), (49, .methodref 12 116), (0, .nameAndType 117 118), (0, u "compress"), (0, u "([CI[BII)I"), (3, u "([CII)[B"), (138, u "coderFromArrayLen"), (0, u "([BI)B"), (106, .class_ 371), (1, u "java/lang/StringUTF16$LinesSpliterator"), (58, u "MAX_LENGTH"), (196, .class_ 628), (0, u "java/lang/StringUTF16$CodePointsSpliterator"), (0, .class_ 630), (0, u "java/lang/StringUTF16$CharsSpliterator")] 4

def k8m0 : Method := { name := "<init>", desc := "()V", sig := { parameters := [], returnType := none }, accessFlags := 0, code := none }
def k8c1 : Code := { maxStack := 2, maxLocals := 2, code := jdk_52_method_15_code, exceptionTable := #[], attributes := #[] }
def k8m1 : Method := { name := "coderFromArrayLen", desc := "([BI)B", sig := { parameters := [(.array .byte), .int], returnType := some .byte }, accessFlags := 8, code := some k8c1 }
def k8c2 : Code := { maxStack := 5, maxLocals := 6, code := jdk_52_method_16_code, exceptionTable := #[], attributes := #[] }
def k8m2 : Method := { name := "compress", desc := "([CII)[B", sig := { parameters := [(.array .char), .int, .int], returnType := some (.array .byte) }, accessFlags := 9, code := some k8c2 }
def k8c3 : Code := { maxStack := 3, maxLocals := 7, code := jdk_52_method_21_code, exceptionTable := #[], attributes := #[] }
def k8m3 : Method := { name := "compress", desc := "([CI[BII)I", sig := { parameters := [(.array .char), .int, (.array .byte), .int, .int], returnType := some .int }, accessFlags := 9, code := some k8c3 }
/-- java/lang/StringUTF16 -/
def k8 : Class := { plain "java/lang/StringUTF16" (some 0) with
  accessFlags := 48
  interfaces := #[]
  cf := some (fileOf pool8 12 #[.nestMembers #[627, 629, 369]] #[{ accessFlags := 0, nameIndex := 9, descriptorIndex := 10, attributes := #[] }, { accessFlags := 8, nameIndex := 261, descriptorIndex := 262, attributes := #[] }, { accessFlags := 9, nameIndex := 117, descriptorIndex := 122, attributes := #[] }, { accessFlags := 9, nameIndex := 117, descriptorIndex := 118, attributes := #[] }] 48 6 #[] #[{ accessFlags := 26, nameIndex := 61, descriptorIndex := 62, attributes := #[] }, { accessFlags := 26, nameIndex := 65, descriptorIndex := 62, attributes := #[] }, { accessFlags := 24, nameIndex := 430, descriptorIndex := 62, attributes := #[] }, { accessFlags := 4120, nameIndex := 46, descriptorIndex := 47, attributes := #[] }])
  fields := #[{ name := "HI_BYTE_SHIFT", type := .int, accessFlags := 26, slot := 0, constantValue := 0 }, { name := "LO_BYTE_SHIFT", type := .int, accessFlags := 26, slot := 1, constantValue := 0 }, { name := "MAX_LENGTH", type := .int, accessFlags := 24, slot := 2, constantValue := 0 }, { name := "$assertionsDisabled", type := .boolean, accessFlags := 4120, slot := 3, constantValue := 0 }]
  methods := #[k8m0, k8m1, k8m2, k8m3]
  instanceTypes := #[]
  staticTypes := #[.int, .int, .int, .boolean]
  resolved := Array.replicate 635 none
  statics := none }

def pool9 : Array CpInfo := pool [(1, .methodref 2 3), (0, .class_ 4), (0, .nameAndType 5 6), (0, u "java/lang/Object"), (0, u "<init>"), (0, u "()V"), (2, .fieldref 10 11), (0, .class_ 12), (0, .nameAndType 13 14), (0, u "com/example/vellum_channels/vellumchannels/frame/HeaderLine"), (0, u "octets"), (0, u "[B"), (0, .methodref 10 16), (0, .nameAndType 17 6), (0, u "space"), (0, .methodref 19 20), (0, .class_ 21), (0, .nameAndType 22 23), (0, u "java/lang/String"), (0, u "length"), (0, u "()I"), (0, .methodref 10 25), (0, .nameAndType 26 27), (0, u "room"), (0, u "(I)V"), (0, .fieldref 10 29), (0, .nameAndType 22 30), (0, u "I"), (0, .methodref 19 32), (0, .nameAndType 33 34), (0, u "charAt"), (0, u "(I)C"), (8, u "word"), (0, u "(Ljava/lang/String;)Lcom/example/vellum_channels/vellumchannels/frame/HeaderLine;"), (4, .methodref 50 51), (0, .class_ 52), (0, .nameAndType 53 54), (0, u "java/util/Arrays"), (0, u "copyOf"), (0, u "([BI)[B"), (14, u "toOctets"), (0, u "()[B")] 3

def k9c0 : Code := { maxStack := 2, maxLocals := 1, code := prog_7_method_1_code, exceptionTable := #[], attributes := #[] }
def k9m0 : Method := { name := "<init>", desc := "()V", sig := { parameters := [], returnType := none }, accessFlags := 0, code := some k9c0 }
def k9c1 : Code := { maxStack := 5, maxLocals := 3, code := prog_7_method_2_code, exceptionTable := #[], attributes := #[] }
def k9m1 : Method := { name := "word", desc := "(Ljava/lang/String;)Lcom/example/vellum_channels/vellumchannels/frame/HeaderLine;", sig := { parameters := [(.object "java/lang/String")], returnType := some (.object "com/example/vellum_channels/vellumchannels/frame/HeaderLine") }, accessFlags := 0, code := some k9c1 }
def k9c2 : Code := { maxStack := 3, maxLocals := 2, code := prog_7_method_4_code, exceptionTable := #[], attributes := #[] }
def k9m2 : Method := { name := "toOctets", desc := "()[B", sig := { parameters := [], returnType := some (.array .byte) }, accessFlags := 0, code := some k9c2 }
def k9c3 : Code := { maxStack := 5, maxLocals := 1, code := prog_7_method_6_code, exceptionTable := #[], attributes := #[] }
def k9m3 : Method := { name := "space", desc := "()V", sig := { parameters := [], returnType := none }, accessFlags := 2, code := some k9c3 }
def k9c4 : Code := { maxStack := 5, maxLocals := 2, code := prog_7_method_7_code, exceptionTable := #[], attributes := #[] }
def k9m4 : Method := { name := "room", desc := "(I)V", sig := { parameters := [.int], returnType := none }, accessFlags := 2, code := some k9c4 }
/-- com/example/vellum_channels/vellumchannels/frame/HeaderLine -/
def k9 : Class := { plain "com/example/vellum_channels/vellumchannels/frame/HeaderLine" (some 0) with
  accessFlags := 48
  interfaces := #[]
  cf := some (fileOf pool9 10 #[] #[{ accessFlags := 0, nameIndex := 5, descriptorIndex := 6, attributes := #[] }, { accessFlags := 0, nameIndex := 43, descriptorIndex := 44, attributes := #[] }, { accessFlags := 0, nameIndex := 69, descriptorIndex := 70, attributes := #[] }, { accessFlags := 2, nameIndex := 17, descriptorIndex := 6, attributes := #[] }, { accessFlags := 2, nameIndex := 26, descriptorIndex := 27, attributes := #[] }] 48 2 #[] #[{ accessFlags := 2, nameIndex := 13, descriptorIndex := 14, attributes := #[] }, { accessFlags := 2, nameIndex := 22, descriptorIndex := 30, attributes := #[] }])
  fields := #[{ name := "octets", type := (.array .byte), accessFlags := 2, slot := 0, constantValue := 0 }, { name := "length", type := .int, accessFlags := 2, slot := 1, constantValue := 0 }]
  methods := #[k9m0, k9m1, k9m2, k9m3, k9m4]
  instanceTypes := #[(.array .byte), .int]
  staticTypes := #[]
  resolved := Array.replicate 74 none
  statics := none }

def pool10 : Array CpInfo := pool [(1, .class_ 2), (0, u "java/lang/String"), (1, .class_ 6), (1, u "java/lang/Object"), (0, u "<init>"), (0, u "()V"), (0, .methodref 1 10), (0, .nameAndType 11 12), (0, u "checkIndex"), (0, u "(II)V"), (1, .class_ 16), (1, u "java/lang/StringLatin1"), (36, u "([BI)C"), (36, u "canEncode"), (14, u "(C)Z"), (15, u "$assertionsDisabled"), (0, u "Z"), (98, .class_ 223), (1, u "java/lang/StringLatin1$LinesSpliterator"), (28, u "charAt"), (127, u "toBytes"), (1, u "(C)[B"), (7, .class_ 391), (0, u "java/lang/StringLatin1$CharsSpliterator")] 3

def k10m0 : Method := { name := "<init>", desc := "()V", sig := { parameters := [], returnType := none }, accessFlags := 0, code := none }
def k10c1 : Code := { maxStack := 2, maxLocals := 2, code := jdk_43_method_2_code, exceptionTable := #[], attributes := #[] }
def k10m1 : Method := { name := "charAt", desc := "([BI)C", sig := { parameters := [(.array .byte), .int], returnType := some .char }, accessFlags := 9, code := some k10c1 }
def k10c2 : Code := { maxStack := 2, maxLocals := 1, code := jdk_43_method_3_code, exceptionTable := #[], attributes := #[] }
def k10m2 : Method := { name := "canEncode", desc := "(C)Z", sig := { parameters := [.char], returnType := some .boolean }, accessFlags := 9, code := some k10c2 }
def k10c3 : Code := { maxStack := 4, maxLocals := 1, code := jdk_43_method_46_code, exceptionTable := #[], attributes := #[] }
def k10m3 : Method := { name := "toBytes", desc := "(C)[B", sig := { parameters := [.char], returnType := some (.array .byte) }, accessFlags := 9, code := some k10c3 }
/-- java/lang/StringLatin1 -/
def k10 : Class := { plain "java/lang/StringLatin1" (some 0) with
  accessFlags := 48
  interfaces := #[]
  cf := some (fileOf pool10 14 #[.nestMembers #[390, 221]] #[{ accessFlags := 0, nameIndex := 7, descriptorIndex := 8, attributes := #[] }, { accessFlags := 9, nameIndex := 252, descriptorIndex := 53, attributes := #[] }, { accessFlags := 9, nameIndex := 90, descriptorIndex := 105, attributes := #[] }, { accessFlags := 9, nameIndex := 380, descriptorIndex := 382, attributes := #[] }] 48 4 #[] #[{ accessFlags := 4120, nameIndex := 121, descriptorIndex := 122, attributes := #[] }])
  fields := #[{ name := "$assertionsDisabled", type := .boolean, accessFlags := 4120, slot := 0, constantValue := 0 }]
  methods := #[k10m0, k10m1, k10m2, k10m3]
  instanceTypes := #[]
  staticTypes := #[.boolean]
  resolved := Array.replicate 395 none
  statics := none }

def pool11 : Array CpInfo := pool [(2, .class_ 4), (1, u "java/lang/Object"), (0, u "<init>"), (0, u "()V"), (17, .class_ 26), (1, u "jdk/internal/util/Preconditions"), (6, u "checkIndex"), (21, .class_ 56), (0, u "jdk/internal/util/Preconditions$4"), (57, .class_ 115), (0, u "jdk/internal/util/Preconditions$1"), (7, u "SIOOBE_FORMATTER"), (0, u "Ljava/util/function/BiFunction;"), (0, .class_ 126), (0, u "jdk/internal/util/Preconditions$2"), (3, u "AIOOBE_FORMATTER"), (0, .class_ 132), (0, u "jdk/internal/util/Preconditions$3"), (3, u "IOOBE_FORMATTER"), (41, u "(IILjava/util/function/BiFunction;)I")] 15

def k11m0 : Method := { name := "<init>", desc := "()V", sig := { parameters := [], returnType := none }, accessFlags := 1, code := none }
def k11c1 : Code := { maxStack := 3, maxLocals := 3, code := jdk_41_method_11_code, exceptionTable := #[], attributes := #[] }
def k11m1 : Method := { name := "checkIndex", desc := "(IILjava/util/function/BiFunction;)I", sig := { parameters := [.int, .int, (.object "java/util/function/BiFunction")], returnType := some .int }, accessFlags := 9, code := some k11c1 }
/-- jdk/internal/util/Preconditions -/
def k11 : Class := { plain "jdk/internal/util/Preconditions" (some 0) with
  accessFlags := 33
  interfaces := #[]
  cf := some (fileOf pool11 24 #[.nestMembers #[55, 131, 125, 114]] #[{ accessFlags := 1, nameIndex := 5, descriptorIndex := 6, attributes := #[] }, { accessFlags := 9, nameIndex := 33, descriptorIndex := 178, attributes := #[] }] 33 2 #[] #[{ accessFlags := 25, nameIndex := 123, descriptorIndex := 124, attributes := #[] }, { accessFlags := 25, nameIndex := 130, descriptorIndex := 124, attributes := #[] }, { accessFlags := 25, nameIndex := 136, descriptorIndex := 124, attributes := #[] }])
  fields := #[{ name := "SIOOBE_FORMATTER", type := (.object "java/util/function/BiFunction"), accessFlags := 25, slot := 0, constantValue := 0 }, { name := "AIOOBE_FORMATTER", type := (.object "java/util/function/BiFunction"), accessFlags := 25, slot := 1, constantValue := 0 }, { name := "IOOBE_FORMATTER", type := (.object "java/util/function/BiFunction"), accessFlags := 25, slot := 2, constantValue := 0 }]
  methods := #[k11m0, k11m1]
  instanceTypes := #[]
  staticTypes := #[(.object "java/util/function/BiFunction"), (.object "java/util/function/BiFunction"), (.object "java/util/function/BiFunction")]
  resolved := Array.replicate 194 none
  statics := some 1 }

def pool12 : Array CpInfo := pool [(2, .class_ 4), (1, u "java/lang/Object"), (0, u "<init>"), (0, u "()V"), (7, .class_ 16), (1, u "java/util/Arrays"), (57, .class_ 76), (1, u "java/util/Arrays$NaturalOrder"), (36, .class_ 115), (1, u "java/util/Arrays$LegacyMergeSort"), (1, u "Z"), (32, .methodref 151 152), (0, .class_ 153), (0, .nameAndType 154 155), (0, u "java/lang/System"), (0, u "arraycopy"), (0, u "(Ljava/lang/Object;ILjava/lang/Object;II)V"), (146, u "copyOf"), (1, .methodref 305 306), (0, .class_ 307), (0, .nameAndType 308 309), (0, u "java/lang/Math"), (0, u "min"), (0, u "(II)I"), (65, .class_ 376), (0, u "java/util/Arrays$ArrayList"), (68, u "$assertionsDisabled"), (269, u "MIN_ARRAY_SORT_GRAN"), (0, u "I"), (2, u "INSERTIONSORT_THRESHOLD"), (149, u "([BI)[B"), (105, .class_ 976), (0, u "java/util/Arrays$ArrayItr")] 52

def k12m0 : Method := { name := "<init>", desc := "()V", sig := { parameters := [], returnType := none }, accessFlags := 2, code := none }
def k12c1 : Code := { maxStack := 6, maxLocals := 3, code := jdk_65_method_121_code, exceptionTable := #[], attributes := #[] }
def k12m1 : Method := { name := "copyOf", desc := "([BI)[B", sig := { parameters := [(.array .byte), .int], returnType := some (.array .byte) }, accessFlags := 9, code := some k12c1 }
/-- java/util/Arrays -/
def k12 : Class := { plain "java/util/Arrays" (some 0) with
  accessFlags := 49
  interfaces := #[]
  cf := some (fileOf pool12 14 #[.nestMembers #[975, 375, 113, 74]] #[{ accessFlags := 2, nameIndex := 5, descriptorIndex := 6, attributes := #[] }, { accessFlags := 9, nameIndex := 302, descriptorIndex := 869, attributes := #[] }] 49 2 #[] #[{ accessFlags := 26, nameIndex := 715, descriptorIndex := 716, attributes := #[] }, { accessFlags := 26, nameIndex := 719, descriptorIndex := 716, attributes := #[] }, { accessFlags := 4120, nameIndex := 445, descriptorIndex := 117, attributes := #[] }])
  fields := #[{ name := "MIN_ARRAY_SORT_GRAN", type := .int, accessFlags := 26, slot := 0, constantValue := 0 }, { name := "INSERTIONSORT_THRESHOLD", type := .int, accessFlags := 26, slot := 1, constantValue := 0 }, { name := "$assertionsDisabled", type := .boolean, accessFlags := 4120, slot := 2, constantValue := 0 }]
  methods := #[k12m0, k12m1]
  instanceTypes := #[]
  staticTypes := #[.int, .int, .boolean]
  resolved := Array.replicate 1029 none
  statics := none }

def pool13 : Array CpInfo := pool [(1, .class_ 2), (0, u "java/lang/Math"), (1, .class_ 6), (1, u "java/lang/Object"), (0, u "<init>"), (0, u "()V"), (89, .class_ 100), (1, u "java/lang/Math$RandomNumberGeneratorHolder"), (71, u "negativeZeroFloatBits"), (0, u "J"), (2, u "negativeZeroDoubleBits"), (24, u "min"), (43, u "$assertionsDisabled"), (0, u "Z"), (88, u "(II)I"), (2, u "twoToTheDoubleScaleDown"), (0, u "D"), (4, u "twoToTheDoubleScaleUp"), (9, u "E"), (3, u "PI"), (2, u "TAU"), (2, u "DEGREES_TO_RADIANS"), (0, u "RADIANS_TO_DEGREES")] 94

def k13m0 : Method := { name := "<init>", desc := "()V", sig := { parameters := [], returnType := none }, accessFlags := 2, code := none }
def k13c1 : Code := { maxStack := 2, maxLocals := 2, code := jdk_29_method_69_code, exceptionTable := #[], attributes := #[] }
def k13m1 : Method := { name := "min", desc := "(II)I", sig := { parameters := [.int, .int], returnType := some .int }, accessFlags := 9, code := some k13c1 }
/-- java/lang/Math -/
def k13 : Class := { plain "java/lang/Math" (some 0) with
  accessFlags := 49
  interfaces := #[]
  cf := some (fileOf pool13 1 #[.nestMembers #[98]] #[{ accessFlags := 2, nameIndex := 7, descriptorIndex := 8, attributes := #[] }, { accessFlags := 9, nameIndex := 201, descriptorIndex := 335, attributes := #[] }] 49 4 #[] #[{ accessFlags := 25, nameIndex := 354, descriptorIndex := 339, attributes := #[] }, { accessFlags := 25, nameIndex := 358, descriptorIndex := 339, attributes := #[] }, { accessFlags := 25, nameIndex := 361, descriptorIndex := 339, attributes := #[] }, { accessFlags := 26, nameIndex := 364, descriptorIndex := 339, attributes := #[] }, { accessFlags := 26, nameIndex := 365, descriptorIndex := 339, attributes := #[] }, { accessFlags := 26, nameIndex := 172, descriptorIndex := 173, attributes := #[] }, { accessFlags := 26, nameIndex := 176, descriptorIndex := 173, attributes := #[] }, { accessFlags := 8, nameIndex := 344, descriptorIndex := 339, attributes := #[] }, { accessFlags := 8, nameIndex := 338, descriptorIndex := 339, attributes := #[] }, { accessFlags := 4120, nameIndex := 245, descriptorIndex := 246, attributes := #[] }])
  fields := #[{ name := "E", type := .double, accessFlags := 25, slot := 0, constantValue := 0 }, { name := "PI", type := .double, accessFlags := 25, slot := 1, constantValue := 0 }, { name := "TAU", type := .double, accessFlags := 25, slot := 2, constantValue := 0 }, { name := "DEGREES_TO_RADIANS", type := .double, accessFlags := 26, slot := 3, constantValue := 0 }, { name := "RADIANS_TO_DEGREES", type := .double, accessFlags := 26, slot := 4, constantValue := 0 }, { name := "negativeZeroFloatBits", type := .long, accessFlags := 26, slot := 5, constantValue := 0 }, { name := "negativeZeroDoubleBits", type := .long, accessFlags := 26, slot := 6, constantValue := 0 }, { name := "twoToTheDoubleScaleUp", type := .double, accessFlags := 8, slot := 7, constantValue := 0 }, { name := "twoToTheDoubleScaleDown", type := .double, accessFlags := 8, slot := 8, constantValue := 0 }, { name := "$assertionsDisabled", type := .boolean, accessFlags := 4120, slot := 9, constantValue := 0 }]
  methods := #[k13m0, k13m1]
  instanceTypes := #[]
  staticTypes := #[.double, .double, .double, .double, .double, .long, .long, .double, .double, .boolean]
  resolved := Array.replicate 460 none
  statics := none }

def pool14 : Array CpInfo := pool [(2, .class_ 4), (1, u "java/lang/Object"), (0, u "<init>"), (0, u "()V"), (1, .class_ 10), (1, u "java/lang/System"), (0, u "allowSecurityManager"), (0, u "I"), (16, u "cons"), (0, u "Ljava/io/Console;"), (77, .class_ 110), (1, u "java/lang/System$CallersHolder"), (43, u "initialErrStream"), (0, u "Ljava/io/PrintStream;"), (19, u "security"), (0, u "Ljava/lang/SecurityManager;"), (31, .class_ 209), (0, u "java/lang/System$1"), (7, u "props"), (0, u "Ljava/util/Properties;"), (2, u "lineSeparator"), (0, u "Ljava/lang/String;"), (96, .class_ 321), (1, u "java/lang/System$LoggerFinder"), (5, .class_ 328), (0, u "java/lang/System$Logger"), (67, u "err"), (2, u "out"), (91, u "notSupportedJnuEncoding"), (15, u "in"), (17, u "initialIn"), (0, u "Ljava/io/InputStream;"), (35, u "bootLayer"), (0, u "Ljava/lang/ModuleLayer;"), (99, .class_ 664), (0, u "java/lang/System$2"), (9, u "NEVER"), (2, u "MAYBE"), (49, u "arraycopy"), (0, u "(Ljava/lang/Object;ILjava/lang/Object;II)V"), (72, .class_ 802), (0, u "java/lang/System$Logger$Level")] 31

def k14m0 : Method := { name := "<init>", desc := "()V", sig := { parameters := [], returnType := none }, accessFlags := 2, code := none }
def k14m1 : Method := { name := "arraycopy", desc := "(Ljava/lang/Object;ILjava/lang/Object;II)V", sig := { parameters := [(.object "java/lang/Object"), .int, (.object "java/lang/Object"), .int, .int], returnType := none }, accessFlags := 265, code := none }
/-- java/lang/System -/
def k14 : Class := { plain "java/lang/System" (some 0) with
  accessFlags := 49
  interfaces := #[]
  cf := some (fileOf pool14 8 #[.nestMembers #[319, 327, 801, 108, 663, 208]] #[{ accessFlags := 2, nameIndex := 5, descriptorIndex := 6, attributes := #[] }, { accessFlags := 265, nameIndex := 727, descriptorIndex := 728, attributes := #[] }] 49 2 #[] #[{ accessFlags := 25, nameIndex := 507, descriptorIndex := 526, attributes := #[] }, { accessFlags := 25, nameIndex := 399, descriptorIndex := 155, attributes := #[] }, { accessFlags := 25, nameIndex := 396, descriptorIndex := 155, attributes := #[] }, { accessFlags := 10, nameIndex := 525, descriptorIndex := 526, attributes := #[] }, { accessFlags := 26, nameIndex := 674, descriptorIndex := 12, attributes := #[] }, { accessFlags := 26, nameIndex := 677, descriptorIndex := 12, attributes := #[] }, { accessFlags := 10, nameIndex := 11, descriptorIndex := 12, attributes := #[] }, { accessFlags := 74, nameIndex := 175, descriptorIndex := 176, attributes := #[] }, { accessFlags := 10, nameIndex := 491, descriptorIndex := 222, attributes := #[] }, { accessFlags := 74, nameIndex := 29, descriptorIndex := 30, attributes := #[] }, { accessFlags := 74, nameIndex := 154, descriptorIndex := 155, attributes := #[] }, { accessFlags := 10, nameIndex := 217, descriptorIndex := 218, attributes := #[] }, { accessFlags := 10, nameIndex := 221, descriptorIndex := 222, attributes := #[] }, { accessFlags := 8, nameIndex := 562, descriptorIndex := 563, attributes := #[] }])
  fields := #[{ name := "in", type := (.object "java/io/InputStream"), accessFlags := 25, slot := 0, constantValue := 0 }, { name := "out", type := (.object "java/io/PrintStream"), accessFlags := 25, slot := 1, constantValue := 0 }, { name := "err", type := (.object "java/io/PrintStream"), accessFlags := 25, slot := 2, constantValue := 0 }, { name := "initialIn", type := (.object "java/io/InputStream"), accessFlags := 10, slot := 3, constantValue := 0 }, { name := "NEVER", type := .int, accessFlags := 26, slot := 4, constantValue := 0 }, { name := "MAYBE", type := .int, accessFlags := 26, slot := 5, constantValue := 0 }, { name := "allowSecurityManager", type := .int, accessFlags := 10, slot := 6, constantValue := 0 }, { name := "security", type := (.object "java/lang/SecurityManager"), accessFlags := 74, slot := 7, constantValue := 0 }, { name := "notSupportedJnuEncoding", type := (.object "java/lang/String"), accessFlags := 10, slot := 8, constantValue := 0 }, { name := "cons", type := (.object "java/io/Console"), accessFlags := 74, slot := 9, constantValue := 0 }, { name := "initialErrStream", type := (.object "java/io/PrintStream"), accessFlags := 74, slot := 10, constantValue := 0 }, { name := "props", type := (.object "java/util/Properties"), accessFlags := 10, slot := 11, constantValue := 0 }, { name := "lineSeparator", type := (.object "java/lang/String"), accessFlags := 10, slot := 12, constantValue := 0 }, { name := "bootLayer", type := (.object "java/lang/ModuleLayer"), accessFlags := 8, slot := 13, constantValue := 0 }]
  methods := #[k14m0, k14m1]
  instanceTypes := #[]
  staticTypes := #[(.object "java/io/InputStream"), (.object "java/io/PrintStream"), (.object "java/io/PrintStream"), (.object "java/io/InputStream"), .int, .int, .int, (.object "java/lang/SecurityManager"), (.object "java/lang/String"), (.object "java/io/Console"), (.object "java/io/PrintStream"), (.object "java/util/Properties"), (.object "java/lang/String"), (.object "java/lang/ModuleLayer")]
  resolved := Array.replicate 834 none
  statics := none }

def pool15 : Array CpInfo := pool [(9, u "<init>"), (6, .class_ 18), (1, u "java/lang/Object"), (0, u "()V"), (1, .class_ 23), (1, u "jdk/internal/util/ArraysSupport"), (0, u "LOG2_ARRAY_LONG_INDEX_SCALE"), (0, u "I"), (2, u "U"), (0, u "Ljdk/internal/misc/Unsafe;"), (8, u "BIG_ENDIAN"), (0, u "Z"), (8, u "LOG2_BYTE_BIT_SIZE"), (4, u "LOG2_ARRAY_INT_INDEX_SCALE"), (54, u "JLA"), (0, u "Ljdk/internal/access/JavaLangAccess;"), (11, u "LOG2_ARRAY_BOOLEAN_INDEX_SCALE"), (9, u "LOG2_ARRAY_BYTE_INDEX_SCALE"), (5, u "LOG2_ARRAY_CHAR_INDEX_SCALE"), (5, u "LOG2_ARRAY_SHORT_INDEX_SCALE"), (18, u "LOG2_ARRAY_FLOAT_INDEX_SCALE"), (24, u "LOG2_ARRAY_DOUBLE_INDEX_SCALE"), (89, u "T_BOOLEAN"), (2, u "T_CHAR"), (1, u "T_FLOAT"), (1, u "T_DOUBLE"), (1, u "T_BYTE"), (1, u "T_SHORT"), (1, u "T_INT"), (1, u "T_LONG"), (1, u "SOFT_MAX_ARRAY_LENGTH")] 83

def k15m0 : Method := { name := "<init>", desc := "()V", sig := { parameters := [], returnType := none }, accessFlags := 2, code := none }
/-- jdk/internal/util/ArraysSupport -/
def k15 : Class := { plain "jdk/internal/util/ArraysSupport" (some 0) with
  accessFlags := 33
  interfaces := #[]
  cf := some (fileOf pool15 21 #[] #[{ accessFlags := 2, nameIndex := 9, descriptorIndex := 19, attributes := #[] }] 33 16 #[] #[{ accessFlags := 24, nameIndex := 28, descriptorIndex := 29, attributes := #[] }, { accessFlags := 26, nameIndex := 38, descriptorIndex := 39, attributes := #[] }, { accessFlags := 25, nameIndex := 121, descriptorIndex := 25, attributes := #[] }, { accessFlags := 25, nameIndex := 131, descriptorIndex := 25, attributes := #[] }, { accessFlags := 25, nameIndex := 137, descriptorIndex := 25, attributes := #[] }, { accessFlags := 25, nameIndex := 143, descriptorIndex := 25, attributes := #[] }, { accessFlags := 25, nameIndex := 53, descriptorIndex := 25, attributes := #[] }, { accessFlags := 25, nameIndex := 24, descriptorIndex := 25, attributes := #[] }, { accessFlags := 25, nameIndex := 162, descriptorIndex := 25, attributes := #[] }, { accessFlags := 25, nameIndex := 187, descriptorIndex := 25, attributes := #[] }, { accessFlags := 26, nameIndex := 48, descriptorIndex := 25, attributes := #[] }, { accessFlags := 25, nameIndex := 277, descriptorIndex := 25, attributes := #[] }, { accessFlags := 25, nameIndex := 280, descriptorIndex := 25, attributes := #[] }, { accessFlags := 25, nameIndex := 282, descriptorIndex := 25, attributes := #[] }, { accessFlags := 25, nameIndex := 284, descriptorIndex := 25, attributes := #[] }, { accessFlags := 25, nameIndex := 286, descriptorIndex := 25, attributes := #[] }, { accessFlags := 25, nameIndex := 288, descriptorIndex := 25, attributes := #[] }, { accessFlags := 25, nameIndex := 290, descriptorIndex := 25, attributes := #[] }, { accessFlags := 25, nameIndex := 292, descriptorIndex := 25, attributes := #[] }, { accessFlags := 26, nameIndex := 108, descriptorIndex := 109, attributes := #[] }, { accessFlags := 25, nameIndex := 294, descriptorIndex := 25, attributes := #[] }])
  fields := #[{ name := "U", type := (.object "jdk/internal/misc/Unsafe"), accessFlags := 24, slot := 0, constantValue := 0 }, { name := "BIG_ENDIAN", type := .boolean, accessFlags := 26, slot := 1, constantValue := 0 }, { name := "LOG2_ARRAY_BOOLEAN_INDEX_SCALE", type := .int, accessFlags := 25, slot := 2, constantValue := 0 }, { name := "LOG2_ARRAY_BYTE_INDEX_SCALE", type := .int, accessFlags := 25, slot := 3, constantValue := 0 }, { name := "LOG2_ARRAY_CHAR_INDEX_SCALE", type := .int, accessFlags := 25, slot := 4, constantValue := 0 }, { name := "LOG2_ARRAY_SHORT_INDEX_SCALE", type := .int, accessFlags := 25, slot := 5, constantValue := 0 }, { name := "LOG2_ARRAY_INT_INDEX_SCALE", type := .int, accessFlags := 25, slot := 6, constantValue := 0 }, { name := "LOG2_ARRAY_LONG_INDEX_SCALE", type := .int, accessFlags := 25, slot := 7, constantValue := 0 }, { name := "LOG2_ARRAY_FLOAT_INDEX_SCALE", type := .int, accessFlags := 25, slot := 8, constantValue := 0 }, { name := "LOG2_ARRAY_DOUBLE_INDEX_SCALE", type := .int, accessFlags := 25, slot := 9, constantValue := 0 }, { name := "LOG2_BYTE_BIT_SIZE", type := .int, accessFlags := 26, slot := 10, constantValue := 0 }, { name := "T_BOOLEAN", type := .int, accessFlags := 25, slot := 11, constantValue := 0 }, { name := "T_CHAR", type := .int, accessFlags := 25, slot := 12, constantValue := 0 }, { name := "T_FLOAT", type := .int, accessFlags := 25, slot := 13, constantValue := 0 }, { name := "T_DOUBLE", type := .int, accessFlags := 25, slot := 14, constantValue := 0 }, { name := "T_BYTE", type := .int, accessFlags := 25, slot := 15, constantValue := 0 }, { name := "T_SHORT", type := .int, accessFlags := 25, slot := 16, constantValue := 0 }, { name := "T_INT", type := .int, accessFlags := 25, slot := 17, constantValue := 0 }, { name := "T_LONG", type := .int, accessFlags := 25, slot := 18, constantValue := 0 }, { name := "JLA", type := (.object "jdk/internal/access/JavaLangAccess"), accessFlags := 26, slot := 19, constantValue := 0 }, { name := "SOFT_MAX_ARRAY_LENGTH", type := .int, accessFlags := 25, slot := 20, constantValue := 0 }]
  methods := #[k15m0]
  instanceTypes := #[]
  staticTypes := #[(.object "jdk/internal/misc/Unsafe"), .boolean, .int, .int, .int, .int, .int, .int, .int, .int, .int, .int, .int, .int, .int, .int, .int, .int, .int, (.object "jdk/internal/access/JavaLangAccess"), .int]
  resolved := Array.replicate 378 none
  statics := none }

def pool16 : Array CpInfo := pool [(1, u "java/lang/Cloneable"), (0, .class_ 1), (0, u "java/lang/Object"), (0, .class_ 3)] 3

/-- java/lang/Cloneable -/
def k16 : Class := { plain "java/lang/Cloneable" (some 0) with
  accessFlags := 1537
  interfaces := #[]
  cf := some (fileOf pool16 2 #[] #[] 1537 4 #[] #[])
  fields := #[]
  methods := #[]
  instanceTypes := #[]
  staticTypes := #[]
  resolved := Array.replicate 8 none
  statics := none }

/-- the primitive byte -/
def k17 : Class := { plain "byte" none with kind := .primitive 'B', accessFlags := 0x411 }
/-- [B -/
def k18 : Class := { plain "[B" (some 0) with kind := .array 17 .byte, interfaces := #[16, 2], accessFlags := 1041 }

/-- the primitive char -/
def k19 : Class := { plain "char" none with kind := .primitive 'C', accessFlags := 0x411 }
/-- [C -/
def k20 : Class := { plain "[C" (some 0) with kind := .array 19 .char, interfaces := #[16, 2], accessFlags := 1041 }

/-- the primitive int -/
def k21 : Class := { plain "int" none with kind := .primitive 'I', accessFlags := 0x411 }
/-- [I -/
def k22 : Class := { plain "[I" (some 0) with kind := .array 21 .int, interfaces := #[16, 2], accessFlags := 1041 }

def heap : Heap := #[{ cls := 7, slots := #[.long 0, .int 1, .null, .int 0, .null, .int 0, .int 0], vm := .statics 7 },
  { cls := 11, slots := #[.null, .null, .null], vm := .statics 11 }]
def classes : Array Class := #[k0, k1, k2, k3, k4, k5, k6, k7, k8, k9, k10, k11, k12, k13, k14, k15, k16, k17, k18, k19, k20, k21, k22]
def interned : List (Array UInt16 × Addr) := []
def slotsUsed : Nat := 10
def theMethod : MethodId := ⟨1, 4⟩
def args0 : Array Value := #[.int 4276803, .int 98, .int 55]
def aboutOver (below : List Frame) : State where
  vm := { classes := classes, interned := interned.toArray }
  heap := heap
  slotsUsed := slotsUsed
  threads := #[{ frames := .invoking theMethod args0 :: below }]
def below0 : List Frame := [.native { method := ⟨0, 0⟩, args := #[] }]
def about1 : State := aboutOver below0
def p0 : Program := .bare "" "" ""
def e0 : Env := launch0.env 0 0 0
theorem w_frames : about1.frames = Frame.invoking theMethod args0 :: below0 := rfl
set_option maxRecDepth 65536 in
theorem w_args : argsFit about1.vm theMethod args0 = true := by decide +kernel
set_option maxRecDepth 65536 in
theorem w_heap : heapFits about1 = true := by decide +kernel
set_option maxRecDepth 65536 in
theorem w_runnable : about1.curStatus? = some .runnable := by decide +kernel
set_option maxRecDepth 65536 in
theorem w_alone : about1.alone = true := by decide +kernel
set_option maxRecDepth 65536 in
theorem w_named : about1.methodNamed? x = some theMethod := by decide +kernel
set_option maxRecDepth 65536 in
theorem w_hears : about1.hears theMethod below0 = true := by decide +kernel
set_option maxRecDepth 65536 in
theorem w_ripe : about1.ripe theMethod args0 below0 = true := by decide +kernel
theorem w_running : about1.status = .running := rfl
set_option maxRecDepth 65536 in
theorem w_room : about1.hasRoom e0.platform room_1 = true :=
  launch0.hasRoom_least _ room_1 (by decide +kernel) (by decide +kernel) (by decide +kernel) (by decide +kernel) (by decide +kernel) (by decide +kernel)
theorem allAtoms_all (ts : List Jvm.Cond) (a : Array Jvm.Value) (st : Jvm.State) : (allAtoms ts).before a st = ts.all (fun c => c.before a st) := by
  induction ts with
  | nil => rfl
  | cons c t ih =>
    show (Jvm.Cond.and c (allAtoms t)).before a st = _
    rw [Jvm.Cond.before_and, ih, List.all_cons]
def words1 : List Jvm.Cond := Jvm.Cond.code x code maxLocals ret :: tables_1
/-- a 'code' word, met by the world's own term for the bytes: nothing is compared byte by byte -/
theorem code_word {y : MethodName} {bytes : ByteArray} {mx : Nat} {rt : Option FieldType} {a : Array Value} {s : State} {m : MethodId} {meth : Method} {c : Code} (h1 : s.methodNamed? y = some m) (h2 : s.vm.method? m = some meth) (h3 : meth.code = some c) (h4 : c.code = bytes)
    (h5 : (c.maxLocals == mx && c.exceptionTable.isEmpty && decide (c.maxStack ≤ mostOperands) && decide (meth.sig.returnType = rt) && !meth.locks && decide (parseMethodDescriptor y.desc = some meth.sig)) = true) : (Jvm.Cond.code y bytes mx rt).before a s = true := by
  simp only [Bool.and_eq_true, beq_iff_eq, Bool.not_eq_true', decide_eq_true_eq] at h5
  obtain ⟨⟨⟨⟨⟨g1, g2⟩, g3⟩, g4⟩, g5⟩, g6⟩ := h5
  simp [Cond.before, Cond.holds, Cond.value, h1, h2, h3, h4, g1, g2, g3, g4, g5, g6]
def isCode : Jvm.Cond → Bool
  | .code _ _ _ _ => true
  | _ => false
theorem all_split {L : List Jvm.Cond} {P : Jvm.Cond → Bool} (h1 : L.all (fun c => isCode c || P c) = true) (h2 : ∀ c ∈ L.filter isCode, P c = true) : L.all P = true := by
  refine List.all_eq_true.mpr fun c hc => ?_
  have h := List.all_eq_true.mp h1 c hc
  rcases Bool.eq_false_or_eq_true (isCode c) with hi | hi
  · exact h2 c (List.mem_filter.mpr ⟨hc, hi⟩)
  · simpa [hi] using h
set_option maxRecDepth 65536 in
theorem w_c0 : (Jvm.Cond.code x code maxLocals ret).before args0 about1 = true := code_word (m := ⟨1, 4⟩) (meth := k1m4) (c := k1c4) (by decide +kernel) rfl rfl rfl (by decide +kernel)
set_option maxRecDepth 65536 in
theorem w_c1 : (Jvm.Cond.code ({ cls := "com/example/vellum_channels/vellumchannels/frame/HeaderLineToOctetsPinLaw", name := "make", desc := "(II)Ljava/lang/String;" } : Jvm.MethodName) method_3_code (2 : Nat) (Option.some (Jvm.ClassFile.FieldType.object "java/lang/String"))).before args0 about1 = true := code_word (m := ⟨1, 2⟩) (meth := k1m2) (c := k1c2) (by decide +kernel) rfl rfl rfl (by decide +kernel)
set_option maxRecDepth 65536 in
theorem w_c2 : (Jvm.Cond.code ({ cls := "com/example/vellum_channels/vellumchannels/frame/HeaderLineToOctetsPinLaw", name := "ch", desc := "(II)C" } : Jvm.MethodName) method_2_code (2 : Nat) (Option.some Jvm.ClassFile.FieldType.char)).before args0 about1 = true := code_word (m := ⟨1, 1⟩) (meth := k1m1) (c := k1c1) (by decide +kernel) rfl rfl rfl (by decide +kernel)
set_option maxRecDepth 65536 in
theorem w_c3 : (Jvm.Cond.code ({ cls := "java/lang/String", name := "<init>", desc := "([C)V" } : Jvm.MethodName) jdk_42_method_3_code (2 : Nat) (Option.none : Option Jvm.ClassFile.FieldType)).before args0 about1 = true := code_word (m := ⟨7, 1⟩) (meth := k7m1) (c := k7c1) (by decide +kernel) rfl rfl rfl (by decide +kernel)
set_option maxRecDepth 65536 in
theorem w_c4 : (Jvm.Cond.code ({ cls := "java/lang/String", name := "<init>", desc := "([CIILjava/lang/Void;)V" } : Jvm.MethodName) jdk_42_method_149_code (6 : Nat) (Option.none : Option Jvm.ClassFile.FieldType)).before args0 about1 = true := code_word (m := ⟨7, 5⟩) (meth := k7m5) (c := k7c5) (by decide +kernel) rfl rfl rfl (by decide +kernel)
set_option maxRecDepth 65536 in
theorem w_c5 : (Jvm.Cond.code ({ cls := "java/lang/Object", name := "<init>", desc := "()V" } : Jvm.MethodName) object_method_1_code (1 : Nat) (Option.none : Option Jvm.ClassFile.FieldType)).before args0 about1 = true := code_word (m := ⟨0, 0⟩) (meth := k0m0) (c := k0c0) (by decide +kernel) rfl rfl rfl (by decide +kernel)
set_option maxRecDepth 65536 in
theorem w_c6 : (Jvm.Cond.code ({ cls := "java/lang/StringUTF16", name := "compress", desc := "([CII)[B" } : Jvm.MethodName) jdk_52_method_16_code (6 : Nat) (Option.some (Jvm.ClassFile.FieldType.array Jvm.ClassFile.FieldType.byte))).before args0 about1 = true := code_word (m := ⟨8, 2⟩) (meth := k8m2) (c := k8c2) (by decide +kernel) rfl rfl rfl (by decide +kernel)
set_option maxRecDepth 65536 in
theorem w_c7 : (Jvm.Cond.code ({ cls := "java/lang/StringUTF16", name := "compress", desc := "([CI[BII)I" } : Jvm.MethodName) jdk_52_method_21_code (7 : Nat) (Option.some Jvm.ClassFile.FieldType.int)).before args0 about1 = true := code_word (m := ⟨8, 3⟩) (meth := k8m3) (c := k8c3) (by decide +kernel) rfl rfl rfl (by decide +kernel)
set_option maxRecDepth 65536 in
theorem w_c8 : (Jvm.Cond.code ({ cls := "java/lang/StringUTF16", name := "coderFromArrayLen", desc := "([BI)B" } : Jvm.MethodName) jdk_52_method_15_code (2 : Nat) (Option.some Jvm.ClassFile.FieldType.byte)).before args0 about1 = true := code_word (m := ⟨8, 1⟩) (meth := k8m1) (c := k8c1) (by decide +kernel) rfl rfl rfl (by decide +kernel)
set_option maxRecDepth 65536 in
theorem w_c9 : (Jvm.Cond.code ({ cls := "com/example/vellum_channels/vellumchannels/frame/HeaderLine", name := "<init>", desc := "()V" } : Jvm.MethodName) prog_7_method_1_code (1 : Nat) (Option.none : Option Jvm.ClassFile.FieldType)).before args0 about1 = true := code_word (m := ⟨9, 0⟩) (meth := k9m0) (c := k9c0) (by decide +kernel) rfl rfl rfl (by decide +kernel)
set_option maxRecDepth 65536 in
theorem w_c10 : (Jvm.Cond.code ({ cls := "com/example/vellum_channels/vellumchannels/frame/HeaderLine", name := "word", desc := "(Ljava/lang/String;)Lcom/example/vellum_channels/vellumchannels/frame/HeaderLine;" } : Jvm.MethodName) prog_7_method_2_code (3 : Nat) (Option.some (Jvm.ClassFile.FieldType.object "com/example/vellum_channels/vellumchannels/frame/HeaderLine"))).before args0 about1 = true := code_word (m := ⟨9, 1⟩) (meth := k9m1) (c := k9c1) (by decide +kernel) rfl rfl rfl (by decide +kernel)
set_option maxRecDepth 65536 in
theorem w_c11 : (Jvm.Cond.code ({ cls := "com/example/vellum_channels/vellumchannels/frame/HeaderLine", name := "space", desc := "()V" } : Jvm.MethodName) prog_7_method_6_code (1 : Nat) (Option.none : Option Jvm.ClassFile.FieldType)).before args0 about1 = true := code_word (m := ⟨9, 3⟩) (meth := k9m3) (c := k9c3) (by decide +kernel) rfl rfl rfl (by decide +kernel)
set_option maxRecDepth 65536 in
theorem w_c12 : (Jvm.Cond.code ({ cls := "java/lang/String", name := "length", desc := "()I" } : Jvm.MethodName) jdk_42_method_54_code (1 : Nat) (Option.some Jvm.ClassFile.FieldType.int)).before args0 about1 = true := code_word (m := ⟨7, 2⟩) (meth := k7m2) (c := k7c2) (by decide +kernel) rfl rfl rfl (by decide +kernel)
set_option maxRecDepth 65536 in
theorem w_c13 : (Jvm.Cond.code ({ cls := "java/lang/String", name := "coder", desc := "()B" } : Jvm.MethodName) jdk_42_method_152_code (1 : Nat) (Option.some Jvm.ClassFile.FieldType.byte)).before args0 about1 = true := code_word (m := ⟨7, 7⟩) (meth := k7m7) (c := k7c7) (by decide +kernel) rfl rfl rfl (by decide +kernel)
set_option maxRecDepth 65536 in
theorem w_c14 : (Jvm.Cond.code ({ cls := "com/example/vellum_channels/vellumchannels/frame/HeaderLine", name := "room", desc := "(I)V" } : Jvm.MethodName) prog_7_method_7_code (2 : Nat) (Option.none : Option Jvm.ClassFile.FieldType)).before args0 about1 = true := code_word (m := ⟨9, 4⟩) (meth := k9m4) (c := k9c4) (by decide +kernel) rfl rfl rfl (by decide +kernel)
set_option maxRecDepth 65536 in
theorem w_c15 : (Jvm.Cond.code ({ cls := "java/lang/String", name := "charAt", desc := "(I)C" } : Jvm.MethodName) jdk_42_method_56_code (2 : Nat) (Option.some Jvm.ClassFile.FieldType.char)).before args0 about1 = true := code_word (m := ⟨7, 3⟩) (meth := k7m3) (c := k7c3) (by decide +kernel) rfl rfl rfl (by decide +kernel)
set_option maxRecDepth 65536 in
theorem w_c16 : (Jvm.Cond.code ({ cls := "java/lang/String", name := "isLatin1", desc := "()Z" } : Jvm.MethodName) jdk_42_method_154_code (1 : Nat) (Option.some Jvm.ClassFile.FieldType.boolean)).before args0 about1 = true := code_word (m := ⟨7, 8⟩) (meth := k7m8) (c := k7c8) (by decide +kernel) rfl rfl rfl (by decide +kernel)
set_option maxRecDepth 65536 in
theorem w_c17 : (Jvm.Cond.code ({ cls := "java/lang/StringLatin1", name := "charAt", desc := "([BI)C" } : Jvm.MethodName) jdk_43_method_2_code (2 : Nat) (Option.some Jvm.ClassFile.FieldType.char)).before args0 about1 = true := code_word (m := ⟨10, 1⟩) (meth := k10m1) (c := k10c1) (by decide +kernel) rfl rfl rfl (by decide +kernel)
set_option maxRecDepth 65536 in
theorem w_c18 : (Jvm.Cond.code ({ cls := "java/lang/String", name := "checkIndex", desc := "(II)V" } : Jvm.MethodName) jdk_42_method_155_code (2 : Nat) (Option.none : Option Jvm.ClassFile.FieldType)).before args0 about1 = true := code_word (m := ⟨7, 9⟩) (meth := k7m9) (c := k7c9) (by decide +kernel) rfl rfl rfl (by decide +kernel)
set_option maxRecDepth 65536 in
theorem w_c19 : (Jvm.Cond.code ({ cls := "jdk/internal/util/Preconditions", name := "checkIndex", desc := "(IILjava/util/function/BiFunction;)I" } : Jvm.MethodName) jdk_41_method_11_code (3 : Nat) (Option.some Jvm.ClassFile.FieldType.int)).before args0 about1 = true := code_word (m := ⟨11, 1⟩) (meth := k11m1) (c := k11c1) (by decide +kernel) rfl rfl rfl (by decide +kernel)
set_option maxRecDepth 65536 in
theorem w_c20 : (Jvm.Cond.code ({ cls := "com/example/vellum_channels/vellumchannels/frame/HeaderLine", name := "toOctets", desc := "()[B" } : Jvm.MethodName) prog_7_method_4_code (2 : Nat) (Option.some (Jvm.ClassFile.FieldType.array Jvm.ClassFile.FieldType.byte))).before args0 about1 = true := code_word (m := ⟨9, 2⟩) (meth := k9m2) (c := k9c2) (by decide +kernel) rfl rfl rfl (by decide +kernel)
set_option maxRecDepth 65536 in
theorem w_c21 : (Jvm.Cond.code ({ cls := "java/util/Arrays", name := "copyOf", desc := "([BI)[B" } : Jvm.MethodName) jdk_65_method_121_code (3 : Nat) (Option.some (Jvm.ClassFile.FieldType.array Jvm.ClassFile.FieldType.byte))).before args0 about1 = true := code_word (m := ⟨12, 1⟩) (meth := k12m1) (c := k12c1) (by decide +kernel) rfl rfl rfl (by decide +kernel)
set_option maxRecDepth 65536 in
theorem w_c22 : (Jvm.Cond.code ({ cls := "java/lang/Math", name := "min", desc := "(II)I" } : Jvm.MethodName) jdk_29_method_69_code (2 : Nat) (Option.some Jvm.ClassFile.FieldType.int)).before args0 about1 = true := code_word (m := ⟨13, 1⟩) (meth := k13m1) (c := k13c1) (by decide +kernel) rfl rfl rfl (by decide +kernel)
set_option maxRecDepth 65536 in
theorem w_c23 : (Jvm.Cond.code ({ cls := "com/example/vellum_channels/vellumchannels/frame/HeaderLineToOctetsPinLaw", name := "same", desc := "([BI[CII)Z" } : Jvm.MethodName) method_4_code (5 : Nat) (Option.some Jvm.ClassFile.FieldType.boolean)).before args0 about1 = true := code_word (m := ⟨1, 3⟩) (meth := k1m3) (c := k1c3) (by decide +kernel) rfl rfl rfl (by decide +kernel)
set_option maxRecDepth 65536 in
theorem w_c24 : (Jvm.Cond.code ({ cls := "java/lang/String", name := "valueOf", desc := "(C)Ljava/lang/String;" } : Jvm.MethodName) jdk_42_method_139_code (1 : Nat) (Option.some (Jvm.ClassFile.FieldType.object "java/lang/String"))).before args0 about1 = true := code_word (m := ⟨7, 4⟩) (meth := k7m4) (c := k7c4) (by decide +kernel) rfl rfl rfl (by decide +kernel)
set_option maxRecDepth 65536 in
theorem w_c25 : (Jvm.Cond.code ({ cls := "java/lang/StringLatin1", name := "canEncode", desc := "(C)Z" } : Jvm.MethodName) jdk_43_method_3_code (1 : Nat) (Option.some Jvm.ClassFile.FieldType.boolean)).before args0 about1 = true := code_word (m := ⟨10, 2⟩) (meth := k10m2) (c := k10c2) (by decide +kernel) rfl rfl rfl (by decide +kernel)
set_option maxRecDepth 65536 in
theorem w_c26 : (Jvm.Cond.code ({ cls := "java/lang/StringLatin1", name := "toBytes", desc := "(C)[B" } : Jvm.MethodName) jdk_43_method_46_code (1 : Nat) (Option.some (Jvm.ClassFile.FieldType.array Jvm.ClassFile.FieldType.byte))).before args0 about1 = true := code_word (m := ⟨10, 3⟩) (meth := k10m3) (c := k10c3) (by decide +kernel) rfl rfl rfl (by decide +kernel)
set_option maxRecDepth 65536 in
theorem w_c27 : (Jvm.Cond.code ({ cls := "java/lang/String", name := "<init>", desc := "([BB)V" } : Jvm.MethodName) jdk_42_method_151_code (3 : Nat) (Option.none : Option Jvm.ClassFile.FieldType)).before args0 about1 = true := code_word (m := ⟨7, 6⟩) (meth := k7m6) (c := k7c6) (by decide +kernel) rfl rfl rfl (by decide +kernel)
def codes1 : List Jvm.Cond := [Jvm.Cond.code x code maxLocals ret, Jvm.Cond.code ({ cls := "com/example/vellum_channels/vellumchannels/frame/HeaderLineToOctetsPinLaw", name := "make", desc := "(II)Ljava/lang/String;" } : Jvm.MethodName) method_3_code (2 : Nat) (Option.some (Jvm.ClassFile.FieldType.object "java/lang/String")), Jvm.Cond.code ({ cls := "com/example/vellum_channels/vellumchannels/frame/HeaderLineToOctetsPinLaw", name := "ch", desc := "(II)C" } : Jvm.MethodName) method_2_code (2 : Nat) (Option.some Jvm.ClassFile.FieldType.char), Jvm.Cond.code ({ cls := "java/lang/String", name := "<init>", desc := "([C)V" } : Jvm.MethodName) jdk_42_method_3_code (2 : Nat) (Option.none : Option Jvm.ClassFile.FieldType), Jvm.Cond.code ({ cls := "java/lang/String", name := "<init>", desc := "([CIILjava/lang/Void;)V" } : Jvm.MethodName) jdk_42_method_149_code (6 : Nat) (Option.none : Option Jvm.ClassFile.FieldType), Jvm.Cond.code ({ cls := "java/lang/Object", name := "<init>", desc := "()V" } : Jvm.MethodName) object_method_1_code (1 : Nat) (Option.none : Option Jvm.ClassFile.FieldType), Jvm.Cond.code ({ cls := "java/lang/StringUTF16", name := "compress", desc := "([CII)[B" } : Jvm.MethodName) jdk_52_method_16_code (6 : Nat) (Option.some (Jvm.ClassFile.FieldType.array Jvm.ClassFile.FieldType.byte)), Jvm.Cond.code ({ cls := "java/lang/StringUTF16", name := "compress", desc := "([CI[BII)I" } : Jvm.MethodName) jdk_52_method_21_code (7 : Nat) (Option.some Jvm.ClassFile.FieldType.int), Jvm.Cond.code ({ cls := "java/lang/StringUTF16", name := "coderFromArrayLen", desc := "([BI)B" } : Jvm.MethodName) jdk_52_method_15_code (2 : Nat) (Option.some Jvm.ClassFile.FieldType.byte), Jvm.Cond.code ({ cls := "com/example/vellum_channels/vellumchannels/frame/HeaderLine", name := "<init>", desc := "()V" } : Jvm.MethodName) prog_7_method_1_code (1 : Nat) (Option.none : Option Jvm.ClassFile.FieldType), Jvm.Cond.code ({ cls := "com/example/vellum_channels/vellumchannels/frame/HeaderLine", name := "word", desc := "(Ljava/lang/String;)Lcom/example/vellum_channels/vellumchannels/frame/HeaderLine;" } : Jvm.MethodName) prog_7_method_2_code (3 : Nat) (Option.some (Jvm.ClassFile.FieldType.object "com/example/vellum_channels/vellumchannels/frame/HeaderLine")), Jvm.Cond.code ({ cls := "com/example/vellum_channels/vellumchannels/frame/HeaderLine", name := "space", desc := "()V" } : Jvm.MethodName) prog_7_method_6_code (1 : Nat) (Option.none : Option Jvm.ClassFile.FieldType), Jvm.Cond.code ({ cls := "java/lang/String", name := "length", desc := "()I" } : Jvm.MethodName) jdk_42_method_54_code (1 : Nat) (Option.some Jvm.ClassFile.FieldType.int), Jvm.Cond.code ({ cls := "java/lang/String", name := "coder", desc := "()B" } : Jvm.MethodName) jdk_42_method_152_code (1 : Nat) (Option.some Jvm.ClassFile.FieldType.byte), Jvm.Cond.code ({ cls := "com/example/vellum_channels/vellumchannels/frame/HeaderLine", name := "room", desc := "(I)V" } : Jvm.MethodName) prog_7_method_7_code (2 : Nat) (Option.none : Option Jvm.ClassFile.FieldType), Jvm.Cond.code ({ cls := "java/lang/String", name := "charAt", desc := "(I)C" } : Jvm.MethodName) jdk_42_method_56_code (2 : Nat) (Option.some Jvm.ClassFile.FieldType.char), Jvm.Cond.code ({ cls := "java/lang/String", name := "isLatin1", desc := "()Z" } : Jvm.MethodName) jdk_42_method_154_code (1 : Nat) (Option.some Jvm.ClassFile.FieldType.boolean), Jvm.Cond.code ({ cls := "java/lang/StringLatin1", name := "charAt", desc := "([BI)C" } : Jvm.MethodName) jdk_43_method_2_code (2 : Nat) (Option.some Jvm.ClassFile.FieldType.char), Jvm.Cond.code ({ cls := "java/lang/String", name := "checkIndex", desc := "(II)V" } : Jvm.MethodName) jdk_42_method_155_code (2 : Nat) (Option.none : Option Jvm.ClassFile.FieldType), Jvm.Cond.code ({ cls := "jdk/internal/util/Preconditions", name := "checkIndex", desc := "(IILjava/util/function/BiFunction;)I" } : Jvm.MethodName) jdk_41_method_11_code (3 : Nat) (Option.some Jvm.ClassFile.FieldType.int), Jvm.Cond.code ({ cls := "com/example/vellum_channels/vellumchannels/frame/HeaderLine", name := "toOctets", desc := "()[B" } : Jvm.MethodName) prog_7_method_4_code (2 : Nat) (Option.some (Jvm.ClassFile.FieldType.array Jvm.ClassFile.FieldType.byte)), Jvm.Cond.code ({ cls := "java/util/Arrays", name := "copyOf", desc := "([BI)[B" } : Jvm.MethodName) jdk_65_method_121_code (3 : Nat) (Option.some (Jvm.ClassFile.FieldType.array Jvm.ClassFile.FieldType.byte)), Jvm.Cond.code ({ cls := "java/lang/Math", name := "min", desc := "(II)I" } : Jvm.MethodName) jdk_29_method_69_code (2 : Nat) (Option.some Jvm.ClassFile.FieldType.int), Jvm.Cond.code ({ cls := "com/example/vellum_channels/vellumchannels/frame/HeaderLineToOctetsPinLaw", name := "same", desc := "([BI[CII)Z" } : Jvm.MethodName) method_4_code (5 : Nat) (Option.some Jvm.ClassFile.FieldType.boolean), Jvm.Cond.code ({ cls := "java/lang/String", name := "valueOf", desc := "(C)Ljava/lang/String;" } : Jvm.MethodName) jdk_42_method_139_code (1 : Nat) (Option.some (Jvm.ClassFile.FieldType.object "java/lang/String")), Jvm.Cond.code ({ cls := "java/lang/StringLatin1", name := "canEncode", desc := "(C)Z" } : Jvm.MethodName) jdk_43_method_3_code (1 : Nat) (Option.some Jvm.ClassFile.FieldType.boolean), Jvm.Cond.code ({ cls := "java/lang/StringLatin1", name := "toBytes", desc := "(C)[B" } : Jvm.MethodName) jdk_43_method_46_code (1 : Nat) (Option.some (Jvm.ClassFile.FieldType.array Jvm.ClassFile.FieldType.byte)), Jvm.Cond.code ({ cls := "java/lang/String", name := "<init>", desc := "([BB)V" } : Jvm.MethodName) jdk_42_method_151_code (3 : Nat) (Option.none : Option Jvm.ClassFile.FieldType)]
set_option maxRecDepth 65536 in
theorem codes_eq : words1.filter isCode = codes1 := rfl
theorem w_codes : ∀ c ∈ words1.filter isCode, c.before args0 about1 = true := by
  rw [codes_eq]
  intro c hc
  simp only [codes1, List.mem_cons, List.not_mem_nil, or_false] at hc
  rcases hc with rfl | rfl | rfl | rfl | rfl | rfl | rfl | rfl | rfl | rfl | rfl | rfl | rfl | rfl | rfl | rfl | rfl | rfl | rfl | rfl | rfl | rfl | rfl | rfl | rfl | rfl | rfl | rfl
  · exact w_c0
  · exact w_c1
  · exact w_c2
  · exact w_c3
  · exact w_c4
  · exact w_c5
  · exact w_c6
  · exact w_c7
  · exact w_c8
  · exact w_c9
  · exact w_c10
  · exact w_c11
  · exact w_c12
  · exact w_c13
  · exact w_c14
  · exact w_c15
  · exact w_c16
  · exact w_c17
  · exact w_c18
  · exact w_c19
  · exact w_c20
  · exact w_c21
  · exact w_c22
  · exact w_c23
  · exact w_c24
  · exact w_c25
  · exact w_c26
  · exact w_c27
set_option maxRecDepth 65536 in
theorem w_t1 : (words1.take 24).all (fun c => isCode c || c.before args0 about1) = true := by decide +kernel
set_option maxRecDepth 65536 in
theorem w_t2 : ((words1.drop 24).take 24).all (fun c => isCode c || c.before args0 about1) = true := by decide +kernel
set_option maxRecDepth 65536 in
theorem w_t3 : (((words1.drop 24).drop 24).take 24).all (fun c => isCode c || c.before args0 about1) = true := by decide +kernel
set_option maxRecDepth 65536 in
theorem w_t4 : ((((words1.drop 24).drop 24).drop 24).take 24).all (fun c => isCode c || c.before args0 about1) = true := by decide +kernel
set_option maxRecDepth 65536 in
theorem w_t5 : (((((words1.drop 24).drop 24).drop 24).drop 24).take 24).all (fun c => isCode c || c.before args0 about1) = true := by decide +kernel
set_option maxRecDepth 65536 in
theorem w_t6 : (((((words1.drop 24).drop 24).drop 24).drop 24).drop 24).all (fun c => isCode c || c.before args0 about1) = true := by decide +kernel
theorem w_tables : (allAtoms (Jvm.Cond.code x code maxLocals ret :: tables_1)).before args0 about1 = true := by
  rw [allAtoms_all]
  show words1.all (fun c => c.before args0 about1) = true
  refine all_split ?_ w_codes
  rw [← List.take_append_drop 24 words1, List.all_append, w_t1, ← List.take_append_drop 24 (words1.drop 24), List.all_append, w_t2, ← List.take_append_drop 24 ((words1.drop 24).drop 24), List.all_append, w_t3, ← List.take_append_drop 24 (((words1.drop 24).drop 24).drop 24), List.all_append, w_t4, ← List.take_append_drop 24 ((((words1.drop 24).drop 24).drop 24).drop 24), List.all_append, w_t5, w_t6]
  rfl
set_option maxRecDepth 65536 in
theorem w_rest : rest_1_c.before args0 about1 = true := by decide +kernel
set_option maxRecDepth 65536 in
theorem w_case : (Jvm.Cond.and given_1 narrow_1).before args0 about1 = true := by decide +kernel
set_option maxRecDepth 65536 in
theorem w_consts : constsHeld consts_1 about1 := Jvm.Lit.constsHeldB_iff.mp (by decide +kernel)
theorem w_applies : (headSpec (Jvm.Cond.code x code maxLocals ret :: tables_1) room_1).applies x e0.platform about1 = true :=
  (Spec.applies_iff w_frames).mpr ⟨w_running, w_runnable, w_alone, w_named, w_hears, w_ripe, w_room, w_tables⟩
theorem atStart : AtStart classFile x code maxLocals ret World_1 tables_1 room_1 Calls_1 rest_1 Pre_1 launch0 p0 e0 about1 theMethod args0 below0 :=
  ⟨lists_1, trivial, launch0.admits_env _ _ _, launch0.least_env, fairChoices_fair.cas, fairChoices_fair.clock, w_frames, w_args, w_heap, w_applies, ⟨w_consts, trivial⟩, w_rest, w_case⟩
end start1
theorem witness_1 : WitnessClaimed_1 := ⟨start1.p0, start1.e0, start1.about1, start1.theMethod, start1.args0, start1.below0, start1.atStart⟩
end Jvm.Pilot.@@N@@
