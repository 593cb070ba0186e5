import JvmDerived
import JvmDerived.Pilot.@@N@@Statement
import JvmDerived.Pilot.@@N@@Code
set_option linter.unusedVariables false
set_option linter.unusedSimpArgs false
namespace Jvm.Pilot.@@N@@
open Jvm Jvm.ClassFile Sem Op Lib Jvm.Free Jvm.Stand Jvm.LawKit Jvm.RoadKit Bundle Jvm.Pilot.@@N@@.Jvm.D
/-- from the frame (pc, ls, st) over the heap h the goal G is reached -/
def Run (p : Program) (l : Launch) (e : Env) (R : Room) (s : State) (m : MethodId) (args : Array Value) (below : List Frame) (meth : Method) (c : Code) (Z : State) (own : String) (V : Vm → Nat → Prop) (n0 : Nat) (G : State → Outcome → Prop) (h : Heap) (cells slots pc : Nat) (ls : Array Slot) (st : List Value) : Prop :=
  ∀ (vm0 : Vm) (k0 : Nat) (T : State) (L : List Loc), Stand p l e R (s.setVm vm0) m args below meth c T L cells slots → V vm0 k0 → k0 ≤ h.size → Z.Warmed39 vm0 → vm0.findClass own = some m.cls → Fr n0 L → T.heap = h →
    ∃ U o, Steps p.tables e below (T.setTop (mkF m pc ls st)) U ∧ U.status = .running ∧ Ended U below o ∧ G U o
/-- what is known of the body -/
def Cx (p : Program) (c : Code) (meth : Method) (bytes : ByteArray) (maxL : Nat) (ret : Option FieldType) (nm : String) : Prop := p.tables.exec = Jvm.exec ∧ c.code = bytes ∧ c.maxLocals = maxL ∧ meth.sig.returnType = ret ∧ meth.locks = false ∧ meth.name = nm
def plainV (s : State) (vm : Vm) (_ : Nat) : Prop := vm = s.vm
def Gq (s : State) (n0 : Nat) (rm : Room) (P : Option Value → Heap → Prop) (U : State) (o : Outcome) : Prop := ∃ v L, o = .returned v ∧ (P v U.heap ∧ Fr n0 L) ∧ FrameEnd s o U L rm.cells rm.slots
/-- a contract -/
def Con (l : Launch) (Z : State) (y : MethodName) (bytes : ByteArray) (maxL : Nat) (ret : Option FieldType) (rm : Room) (as : Array Value) (h0 : Heap) (n0 : Nat) (P : Option Value → Heap → Prop) : Prop :=
  ∀ ws : List Jvm.Cond, MetFree l y (head1 (Jvm.Cond.code y bytes maxL ret :: ws) rm) (fun a U => a = as ∧ Z.Warmed39 U.vm ∧ U.heap = h0) (fun _ _ _ _ _ => True) (fun _ U o U' => Gq U n0 rm P U' o)
section Kit
variable {p : Program} {l : Launch} {e : Env} {R : Room} {s : State} {m : MethodId} {args : Array Value} {below : List Frame} {meth : Method} {c : Code} {Z : State} {own : String} {V : Vm → Nat → Prop} {n0 : Nat} {G : State → Outcome → Prop} {h : Heap} {cells slots pc pc' : Nat} {ls ls' : Array Slot} {st st' : List Value} {bytes : ByteArray} {maxL : Nat} {ret : Option FieldType} {nm : String} {a0 : Array Value}
theorem Con.of_body {y : MethodName} {rm : Room} {as : Array Value} {h0 : Heap} {P : Option Value → Heap → Prop} (hp : plainFor y = true) (Ls : Array Slot) (hent : ∀ m, entryFrame m as maxL = mkF m 0 Ls [])
    (body : ∀ p e s m below meth c, Cx p c meth bytes maxL ret y.name → Run p l e rm s m as below meth c Z y.cls (plainV s) n0 (Gq s n0 rm P) h0 0 0 0 Ls []) : Con l Z y bytes maxL ret rm as h0 n0 P := by
  intro ws
  refine MetFree.of_bodySF hp hisR ?_
  intro p e s m args below meth c s₁ Bd hml0 hP hK
  obtain ⟨rfl, hZ, hh⟩ := hP
  have hown : s.vm.findClass y.cls = some m.cls := findClass_of_methodNamed Bd.named
  have hnm := (name_of_methodNamed Bd.named Bd.method).1
  obtain ⟨U, o, h1, h2, h3, h4⟩ := body p e s m below meth c ⟨Bd.exec, Bd.bytes, hml0, Bd.returns, BodyLoose.notSynchronized Bd, hnm⟩ s.vm 0 s₁ [] (Stand.of_body Bd) rfl (Nat.zero_le _) hZ hown (Fr.nil n0) (by rw [← hh, Bd.state]; rfl)
  exact ⟨U, o, castTop (hent m) h1, h2, h3, h4⟩
theorem Run.go (hs : ∀ (T t : State), At T m c below → Steps p.tables e below (T.setTop (mkF m pc' ls' st')) t → Steps p.tables e below (T.setTop (mkF m pc ls st)) t) (k : Run p l e R s m args below meth c Z own V n0 G h cells slots pc' ls' st') : Run p l e R s m args below meth c Z own V n0 G h cells slots pc ls st :=
  fun vm0 k0 T L X hV hk hZ ho N eT => by
    obtain ⟨U, o, h1, r⟩ := k vm0 k0 T L X hV hk hZ ho N eT
    exact ⟨U, o, hs T U X.here h1, r⟩
theorem r_iadd {x y z : Int32} (C : Cx p c meth bytes maxL ret nm) (hd : decode bytes pc = .ok (.iadd, 1)) (hp : pc + 1 = pc') (hz : x + y = z) (k : Run p l e R s m args below meth c Z own V n0 G h cells slots pc' ls (.int z :: st)) : Run p l e R s m args below meth c Z own V n0 G h cells slots pc ls (.int y :: .int x :: st) := by
  subst hp hz
  exact k.go fun T t A q => XS.iadd (g := mkF m pc ls (.int y :: .int x :: st)) A C.1 rfl (hb C.2.1 hd) rfl q
theorem r_isub {x y z : Int32} (C : Cx p c meth bytes maxL ret nm) (hd : decode bytes pc = .ok (.isub, 1)) (hp : pc + 1 = pc') (hz : x - y = z) (k : Run p l e R s m args below meth c Z own V n0 G h cells slots pc' ls (.int z :: st)) : Run p l e R s m args below meth c Z own V n0 G h cells slots pc ls (.int y :: .int x :: st) := by
  subst hp hz
  exact k.go fun T t A q => XS.isub (g := mkF m pc ls (.int y :: .int x :: st)) A C.1 rfl (hb C.2.1 hd) rfl q
theorem r_imul {x y z : Int32} (C : Cx p c meth bytes maxL ret nm) (hd : decode bytes pc = .ok (.imul, 1)) (hp : pc + 1 = pc') (hz : x * y = z) (k : Run p l e R s m args below meth c Z own V n0 G h cells slots pc' ls (.int z :: st)) : Run p l e R s m args below meth c Z own V n0 G h cells slots pc ls (.int y :: .int x :: st) := by
  subst hp hz
  exact k.go fun T t A q => XS.imul (g := mkF m pc ls (.int y :: .int x :: st)) A C.1 rfl (hb C.2.1 hd) rfl q
theorem r_iand {x y z : Int32} (C : Cx p c meth bytes maxL ret nm) (hd : decode bytes pc = .ok (.iand, 1)) (hp : pc + 1 = pc') (hz : x &&& y = z) (k : Run p l e R s m args below meth c Z own V n0 G h cells slots pc' ls (.int z :: st)) : Run p l e R s m args below meth c Z own V n0 G h cells slots pc ls (.int y :: .int x :: st) := by
  subst hp hz
  exact k.go fun T t A q => XS.iand (g := mkF m pc ls (.int y :: .int x :: st)) A C.1 rfl (hb C.2.1 hd) rfl q
theorem r_ixor {x y z : Int32} (C : Cx p c meth bytes maxL ret nm) (hd : decode bytes pc = .ok (.ixor, 1)) (hp : pc + 1 = pc') (hz : x ^^^ y = z) (k : Run p l e R s m args below meth c Z own V n0 G h cells slots pc' ls (.int z :: st)) : Run p l e R s m args below meth c Z own V n0 G h cells slots pc ls (.int y :: .int x :: st) := by
  subst hp hz
  exact k.go fun T t A q => XT.ixor (g := mkF m pc ls (.int y :: .int x :: st)) A C.1 rfl (hb C.2.1 hd) rfl q
theorem r_ior {x y z : Int32} (C : Cx p c meth bytes maxL ret nm) (hd : decode bytes pc = .ok (.ior, 1)) (hp : pc + 1 = pc') (hz : x ||| y = z) (k : Run p l e R s m args below meth c Z own V n0 G h cells slots pc' ls (.int z :: st)) : Run p l e R s m args below meth c Z own V n0 G h cells slots pc ls (.int y :: .int x :: st) := by
  subst hp hz
  exact k.go fun T t A q => XT.ior (g := mkF m pc ls (.int y :: .int x :: st)) A C.1 rfl (hb C.2.1 hd) rfl q
theorem r_ishl {x y z : Int32} (C : Cx p c meth bytes maxL ret nm) (hd : decode bytes pc = .ok (.ishl, 1)) (hp : pc + 1 = pc') (hz : x <<< (y &&& 31) = z) (k : Run p l e R s m args below meth c Z own V n0 G h cells slots pc' ls (.int z :: st)) : Run p l e R s m args below meth c Z own V n0 G h cells slots pc ls (.int y :: .int x :: st) := by
  subst hp hz
  exact k.go fun T t A q => XT.ishl (g := mkF m pc ls (.int y :: .int x :: st)) A C.1 rfl (hb C.2.1 hd) rfl q
theorem r_ishr {x y z : Int32} (C : Cx p c meth bytes maxL ret nm) (hd : decode bytes pc = .ok (.ishr, 1)) (hp : pc + 1 = pc') (hz : x >>> (y &&& 31) = z) (k : Run p l e R s m args below meth c Z own V n0 G h cells slots pc' ls (.int z :: st)) : Run p l e R s m args below meth c Z own V n0 G h cells slots pc ls (.int y :: .int x :: st) := by
  subst hp hz
  exact k.go fun T t A q => XT.ishr (g := mkF m pc ls (.int y :: .int x :: st)) A C.1 rfl (hb C.2.1 hd) rfl q
theorem r_iushr {x y z : Int32} (C : Cx p c meth bytes maxL ret nm) (hd : decode bytes pc = .ok (.iushr, 1)) (hp : pc + 1 = pc') (hz : XT.ushr x y = z) (k : Run p l e R s m args below meth c Z own V n0 G h cells slots pc' ls (.int z :: st)) : Run p l e R s m args below meth c Z own V n0 G h cells slots pc ls (.int y :: .int x :: st) := by
  subst hp hz
  exact k.go fun T t A q => XT.iushr (g := mkF m pc ls (.int y :: .int x :: st)) A C.1 rfl (hb C.2.1 hd) rfl q
theorem r_ladd {x y z : Int64} (C : Cx p c meth bytes maxL ret nm) (hd : decode bytes pc = .ok (.ladd, 1)) (hp : pc + 1 = pc') (hz : x + y = z) (k : Run p l e R s m args below meth c Z own V n0 G h cells slots pc' ls (.long z :: st)) : Run p l e R s m args below meth c Z own V n0 G h cells slots pc ls (.long y :: .long x :: st) := by
  subst hp hz
  exact k.go fun T t A q => XT.ladd (g := mkF m pc ls (.long y :: .long x :: st)) A C.1 rfl (hb C.2.1 hd) rfl q
theorem r_lsub {x y z : Int64} (C : Cx p c meth bytes maxL ret nm) (hd : decode bytes pc = .ok (.lsub, 1)) (hp : pc + 1 = pc') (hz : x - y = z) (k : Run p l e R s m args below meth c Z own V n0 G h cells slots pc' ls (.long z :: st)) : Run p l e R s m args below meth c Z own V n0 G h cells slots pc ls (.long y :: .long x :: st) := by
  subst hp hz
  exact k.go fun T t A q => XT.lsub (g := mkF m pc ls (.long y :: .long x :: st)) A C.1 rfl (hb C.2.1 hd) rfl q
theorem r_lmul {x y z : Int64} (C : Cx p c meth bytes maxL ret nm) (hd : decode bytes pc = .ok (.lmul, 1)) (hp : pc + 1 = pc') (hz : x * y = z) (k : Run p l e R s m args below meth c Z own V n0 G h cells slots pc' ls (.long z :: st)) : Run p l e R s m args below meth c Z own V n0 G h cells slots pc ls (.long y :: .long x :: st) := by
  subst hp hz
  exact k.go fun T t A q => XT.lmul (g := mkF m pc ls (.long y :: .long x :: st)) A C.1 rfl (hb C.2.1 hd) rfl q
theorem r_land {x y z : Int64} (C : Cx p c meth bytes maxL ret nm) (hd : decode bytes pc = .ok (.land, 1)) (hp : pc + 1 = pc') (hz : x &&& y = z) (k : Run p l e R s m args below meth c Z own V n0 G h cells slots pc' ls (.long z :: st)) : Run p l e R s m args below meth c Z own V n0 G h cells slots pc ls (.long y :: .long x :: st) := by
  subst hp hz
  exact k.go fun T t A q => XT.land (g := mkF m pc ls (.long y :: .long x :: st)) A C.1 rfl (hb C.2.1 hd) rfl q
theorem r_lor {x y z : Int64} (C : Cx p c meth bytes maxL ret nm) (hd : decode bytes pc = .ok (.lor, 1)) (hp : pc + 1 = pc') (hz : x ||| y = z) (k : Run p l e R s m args below meth c Z own V n0 G h cells slots pc' ls (.long z :: st)) : Run p l e R s m args below meth c Z own V n0 G h cells slots pc ls (.long y :: .long x :: st) := by
  subst hp hz
  exact k.go fun T t A q => XT.lor (g := mkF m pc ls (.long y :: .long x :: st)) A C.1 rfl (hb C.2.1 hd) rfl q
theorem r_lxor {x y z : Int64} (C : Cx p c meth bytes maxL ret nm) (hd : decode bytes pc = .ok (.lxor, 1)) (hp : pc + 1 = pc') (hz : x ^^^ y = z) (k : Run p l e R s m args below meth c Z own V n0 G h cells slots pc' ls (.long z :: st)) : Run p l e R s m args below meth c Z own V n0 G h cells slots pc ls (.long y :: .long x :: st) := by
  subst hp hz
  exact k.go fun T t A q => XT.lxor (g := mkF m pc ls (.long y :: .long x :: st)) A C.1 rfl (hb C.2.1 hd) rfl q
theorem r_lshl {x z : Int64} {y : Int32} (C : Cx p c meth bytes maxL ret nm) (hd : decode bytes pc = .ok (.lshl, 1)) (hp : pc + 1 = pc') (hz : x <<< (y.toInt64 &&& 63) = z) (k : Run p l e R s m args below meth c Z own V n0 G h cells slots pc' ls (.long z :: st)) : Run p l e R s m args below meth c Z own V n0 G h cells slots pc ls (.int y :: .long x :: st) := by
  subst hp hz
  exact k.go fun T t A q => XT.lshl (g := mkF m pc ls (.int y :: .long x :: st)) A C.1 rfl (hb C.2.1 hd) rfl q
theorem r_lshr {x z : Int64} {y : Int32} (C : Cx p c meth bytes maxL ret nm) (hd : decode bytes pc = .ok (.lshr, 1)) (hp : pc + 1 = pc') (hz : x >>> (y.toInt64 &&& 63) = z) (k : Run p l e R s m args below meth c Z own V n0 G h cells slots pc' ls (.long z :: st)) : Run p l e R s m args below meth c Z own V n0 G h cells slots pc ls (.int y :: .long x :: st) := by
  subst hp hz
  exact k.go fun T t A q => XT.lshr (g := mkF m pc ls (.int y :: .long x :: st)) A C.1 rfl (hb C.2.1 hd) rfl q
theorem r_lushr {x z : Int64} {y : Int32} (C : Cx p c meth bytes maxL ret nm) (hd : decode bytes pc = .ok (.lushr, 1)) (hp : pc + 1 = pc') (hz : XT.ushrL x y = z) (k : Run p l e R s m args below meth c Z own V n0 G h cells slots pc' ls (.long z :: st)) : Run p l e R s m args below meth c Z own V n0 G h cells slots pc ls (.int y :: .long x :: st) := by
  subst hp hz
  exact k.go fun T t A q => XT.lushr (g := mkF m pc ls (.int y :: .long x :: st)) A C.1 rfl (hb C.2.1 hd) rfl q
theorem irem_mod (x y : Int32) : x - (x / y) * y = x % y := by
  have h : ∀ a b : Int, a - a.tdiv b * b = a.tmod b := fun a b => by have := Int.mul_tdiv_add_tmod a b; rw [Int.mul_comm] at this; omega
  by_cases hy : y = -1
  · subst hy
    apply Int32.toInt_inj.mp
    have h1 := c_isub x ((x / -1) * -1)
    have h2 := c_imul (x / -1) (-1)
    have h3 := c_idivM x (-1) rfl
    have h4 : (x % (-1 : Int32)).toInt = 0 := by rw [Int32.toInt_mod]; show x.toInt.tmod (-1) = 0; simp
    have h5 := rng32 (x - (x / -1) * -1)
    have h6 : ((-1 : Int32)).toInt = -1 := by decide
    rw [h6] at h2
    rw [h4]
    omega
  · apply Int32.toInt_inj.mp
    have h1 := c_isub x ((x / y) * y)
    have h2 := c_imul (x / y) y
    have h3 := Int32.toInt_div_of_ne_right x y hy
    have h4 := Int32.toInt_mod x y
    have h5 := rng32 (x - (x / y) * y)
    have h6 := rng32 (x % y)
    have h7 := h x.toInt y.toInt
    rw [h3] at h2
    rw [← h7] at h4
    omega
theorem r_idiv {x y z : Int32} (C : Cx p c meth bytes maxL ret nm) (hd : decode bytes pc = .ok (.idiv, 1)) (hp : pc + 1 = pc') (hy : y ≠ 0) (hz : x / y = z) (k : Run p l e R s m args below meth c Z own V n0 G h cells slots pc' ls (.int z :: st)) : Run p l e R s m args below meth c Z own V n0 G h cells slots pc ls (.int y :: .int x :: st) := by
  subst hp hz
  exact k.go fun T t A q => XS.idiv (g := mkF m pc ls (.int y :: .int x :: st)) A C.1 rfl (hb C.2.1 hd) rfl hy q
theorem r_irem {x y z : Int32} (C : Cx p c meth bytes maxL ret nm) (hd : decode bytes pc = .ok (.irem, 1)) (hp : pc + 1 = pc') (hy : y ≠ 0) (hz : x % y = z) (k : Run p l e R s m args below meth c Z own V n0 G h cells slots pc' ls (.int z :: st)) : Run p l e R s m args below meth c Z own V n0 G h cells slots pc ls (.int y :: .int x :: st) := by
  subst hp hz
  exact k.go fun T t A q => XS.irem (g := mkF m pc ls (.int y :: .int x :: st)) A C.1 rfl (hb C.2.1 hd) rfl hy (by rw [irem_mod]; exact q)
theorem r_ldiv {x y z : Int64} (C : Cx p c meth bytes maxL ret nm) (hd : decode bytes pc = .ok (.ldiv, 1)) (hp : pc + 1 = pc') (hy : y ≠ 0) (hz : x / y = z) (k : Run p l e R s m args below meth c Z own V n0 G h cells slots pc' ls (.long z :: st)) : Run p l e R s m args below meth c Z own V n0 G h cells slots pc ls (.long y :: .long x :: st) := by
  subst hp hz
  exact k.go fun T t A q => XT.ldiv (g := mkF m pc ls (.long y :: .long x :: st)) A C.1 rfl (hb C.2.1 hd) rfl hy q
theorem r_lrem {x y z : Int64} (C : Cx p c meth bytes maxL ret nm) (hd : decode bytes pc = .ok (.lrem, 1)) (hp : pc + 1 = pc') (hy : y ≠ 0) (hz : x % y = z) (k : Run p l e R s m args below meth c Z own V n0 G h cells slots pc' ls (.long z :: st)) : Run p l e R s m args below meth c Z own V n0 G h cells slots pc ls (.long y :: .long x :: st) := by
  subst hp hz
  exact k.go fun T t A q => XT.lrem (g := mkF m pc ls (.long y :: .long x :: st)) A C.1 rfl (hb C.2.1 hd) rfl hy (by rw [lrem_mod]; exact q)
theorem r_ineg {x z : Int32} (C : Cx p c meth bytes maxL ret nm) (hd : decode bytes pc = .ok (.ineg, 1)) (hp : pc + 1 = pc') (hz : -x = z) (k : Run p l e R s m args below meth c Z own V n0 G h cells slots pc' ls (.int z :: st)) : Run p l e R s m args below meth c Z own V n0 G h cells slots pc ls (.int x :: st) := by
  subst hp hz
  exact k.go fun T t A q => XS.ineg (g := mkF m pc ls (.int x :: st)) A C.1 rfl (hb C.2.1 hd) rfl q
theorem r_lneg {x z : Int64} (C : Cx p c meth bytes maxL ret nm) (hd : decode bytes pc = .ok (.lneg, 1)) (hp : pc + 1 = pc') (hz : -x = z) (k : Run p l e R s m args below meth c Z own V n0 G h cells slots pc' ls (.long z :: st)) : Run p l e R s m args below meth c Z own V n0 G h cells slots pc ls (.long x :: st) := by
  subst hp hz
  exact k.go fun T t A q => XT.lneg (g := mkF m pc ls (.long x :: st)) A C.1 rfl (hb C.2.1 hd) rfl q
theorem r_i2l {x : Int32} {z : Int64} (C : Cx p c meth bytes maxL ret nm) (hd : decode bytes pc = .ok (.i2l, 1)) (hp : pc + 1 = pc') (hz : x.toInt64 = z) (k : Run p l e R s m args below meth c Z own V n0 G h cells slots pc' ls (.long z :: st)) : Run p l e R s m args below meth c Z own V n0 G h cells slots pc ls (.int x :: st) := by
  subst hp hz
  exact k.go fun T t A q => XT.i2l (g := mkF m pc ls (.int x :: st)) A C.1 rfl (hb C.2.1 hd) rfl q
theorem r_l2i {x : Int64} {z : Int32} (C : Cx p c meth bytes maxL ret nm) (hd : decode bytes pc = .ok (.l2i, 1)) (hp : pc + 1 = pc') (hz : x.toInt32 = z) (k : Run p l e R s m args below meth c Z own V n0 G h cells slots pc' ls (.int z :: st)) : Run p l e R s m args below meth c Z own V n0 G h cells slots pc ls (.long x :: st) := by
  subst hp hz
  exact k.go fun T t A q => XT.l2i (g := mkF m pc ls (.long x :: st)) A C.1 rfl (hb C.2.1 hd) rfl q
theorem r_i2b {x : Int32} {z : Int32} (C : Cx p c meth bytes maxL ret nm) (hd : decode bytes pc = .ok (.i2b, 1)) (hp : pc + 1 = pc') (hz : x.toInt8.toInt32 = z) (k : Run p l e R s m args below meth c Z own V n0 G h cells slots pc' ls (.int z :: st)) : Run p l e R s m args below meth c Z own V n0 G h cells slots pc ls (.int x :: st) := by
  subst hp hz
  exact k.go fun T t A q => XT.i2b (g := mkF m pc ls (.int x :: st)) A C.1 rfl (hb C.2.1 hd) rfl q
theorem r_i2c {x : Int32} {z : Int32} (C : Cx p c meth bytes maxL ret nm) (hd : decode bytes pc = .ok (.i2c, 1)) (hp : pc + 1 = pc') (hz : x.toUInt32.toUInt16.toUInt32.toInt32 = z) (k : Run p l e R s m args below meth c Z own V n0 G h cells slots pc' ls (.int z :: st)) : Run p l e R s m args below meth c Z own V n0 G h cells slots pc ls (.int x :: st) := by
  subst hp hz
  exact k.go fun T t A q => XT.i2c (g := mkF m pc ls (.int x :: st)) A C.1 rfl (hb C.2.1 hd) rfl q
theorem r_i2s {x : Int32} {z : Int32} (C : Cx p c meth bytes maxL ret nm) (hd : decode bytes pc = .ok (.i2s, 1)) (hp : pc + 1 = pc') (hz : x.toInt16.toInt32 = z) (k : Run p l e R s m args below meth c Z own V n0 G h cells slots pc' ls (.int z :: st)) : Run p l e R s m args below meth c Z own V n0 G h cells slots pc ls (.int x :: st) := by
  subst hp hz
  exact k.go fun T t A q => XT.i2s (g := mkF m pc ls (.int x :: st)) A C.1 rfl (hb C.2.1 hd) rfl q
theorem r_iconst {i : Int} {z : Int32} (C : Cx p c meth bytes maxL ret nm) (hd : decode bytes pc = .ok (.iconst i, 1)) (hp : pc + 1 = pc') (hz : Int32.ofInt i = z) (k : Run p l e R s m args below meth c Z own V n0 G h cells slots pc' ls (.int z :: st)) : Run p l e R s m args below meth c Z own V n0 G h cells slots pc ls st := by
  subst hp hz
  exact k.go fun T t A q => XS.iconst (g := mkF m pc ls st) A C.1 rfl (hb C.2.1 hd) q
theorem r_bipush {i : Int} {z : Int32} (C : Cx p c meth bytes maxL ret nm) (hd : decode bytes pc = .ok (.bipush i, 2)) (hp : pc + 2 = pc') (hz : (Int8.ofInt i).toInt32 = z) (k : Run p l e R s m args below meth c Z own V n0 G h cells slots pc' ls (.int z :: st)) : Run p l e R s m args below meth c Z own V n0 G h cells slots pc ls st := by
  subst hp hz
  exact k.go fun T t A q => XS.bipush (g := mkF m pc ls st) A C.1 rfl (hb C.2.1 hd) q
theorem r_sipush {i : Int} {z : Int32} (C : Cx p c meth bytes maxL ret nm) (hd : decode bytes pc = .ok (.sipush i, 3)) (hp : pc + 3 = pc') (hz : (Int16.ofInt i).toInt32 = z) (k : Run p l e R s m args below meth c Z own V n0 G h cells slots pc' ls (.int z :: st)) : Run p l e R s m args below meth c Z own V n0 G h cells slots pc ls st := by
  subst hp hz
  exact k.go fun T t A q => XS.sipush (g := mkF m pc ls st) A C.1 rfl (hb C.2.1 hd) q
theorem r_lconst {i : Fin 2} {z : Int64} (C : Cx p c meth bytes maxL ret nm) (hd : decode bytes pc = .ok (.lconst i, 1)) (hp : pc + 1 = pc') (hz : Int64.ofNat i = z) (k : Run p l e R s m args below meth c Z own V n0 G h cells slots pc' ls (.long z :: st)) : Run p l e R s m args below meth c Z own V n0 G h cells slots pc ls st := by
  subst hp hz
  exact k.go fun T t A q => XT.lconst (g := mkF m pc ls st) A C.1 rfl (hb C.2.1 hd) q
theorem r_aconst_null  (C : Cx p c meth bytes maxL ret nm) (hd : decode bytes pc = .ok (.aconst_null, 1)) (hp : pc + 1 = pc')  (k : Run p l e R s m args below meth c Z own V n0 G h cells slots pc' ls (.null :: st)) : Run p l e R s m args below meth c Z own V n0 G h cells slots pc ls st := by
  subst hp
  exact k.go fun T t A q => XS.aconstNull (g := mkF m pc ls st) A C.1 rfl (hb C.2.1 hd) q
theorem r_iload_n {i : Fin 4} {x : Int32} (C : Cx p c meth bytes maxL ret nm) (hd : decode bytes pc = .ok (.iload_n i, 1)) (hp : pc + 1 = pc') (hl : ls[i.val]? = some (.val (.int x))) (k : Run p l e R s m args below meth c Z own V n0 G h cells slots pc' ls (.int x :: st)) : Run p l e R s m args below meth c Z own V n0 G h cells slots pc ls st := by
  subst hp
  exact k.go fun T t A q => XS.iloadN (g := mkF m pc ls st) A C.1 rfl (hb C.2.1 hd) hl q
theorem r_iload {i : Nat} {x : Int32} (C : Cx p c meth bytes maxL ret nm) (hd : decode bytes pc = .ok (.iload i, 2)) (hp : pc + 2 = pc') (hl : ls[i]? = some (.val (.int x))) (k : Run p l e R s m args below meth c Z own V n0 G h cells slots pc' ls (.int x :: st)) : Run p l e R s m args below meth c Z own V n0 G h cells slots pc ls st := by
  subst hp
  exact k.go fun T t A q => XS.iload (g := mkF m pc ls st) A C.1 rfl (hb C.2.1 hd) hl q
theorem r_istore_n {i : Fin 4} {x : Int32} (C : Cx p c meth bytes maxL ret nm) (hd : decode bytes pc = .ok (.istore_n i, 1)) (hp : pc + 1 = pc') (hl : storeLocals ls i.val (.int x) = some ls') (k : Run p l e R s m args below meth c Z own V n0 G h cells slots pc' ls' st) : Run p l e R s m args below meth c Z own V n0 G h cells slots pc ls (.int x :: st) := by
  subst hp
  exact k.go fun T t A q => XS.istoreN (g := mkF m pc ls (.int x :: st)) A C.1 rfl (hb C.2.1 hd) rfl hl q
theorem r_istore {i : Nat} {x : Int32} (C : Cx p c meth bytes maxL ret nm) (hd : decode bytes pc = .ok (.istore i, 2)) (hp : pc + 2 = pc') (hl : storeLocals ls i (.int x) = some ls') (k : Run p l e R s m args below meth c Z own V n0 G h cells slots pc' ls' st) : Run p l e R s m args below meth c Z own V n0 G h cells slots pc ls (.int x :: st) := by
  subst hp
  exact k.go fun T t A q => XS.istore (g := mkF m pc ls (.int x :: st)) A C.1 rfl (hb C.2.1 hd) rfl hl q
theorem r_lload_n {i : Fin 4} {x : Int64} (C : Cx p c meth bytes maxL ret nm) (hd : decode bytes pc = .ok (.lload_n i, 1)) (hp : pc + 1 = pc') (hl : ls[i.val]? = some (.val (.long x))) (k : Run p l e R s m args below meth c Z own V n0 G h cells slots pc' ls (.long x :: st)) : Run p l e R s m args below meth c Z own V n0 G h cells slots pc ls st := by
  subst hp
  exact k.go fun T t A q => XT.lloadN (g := mkF m pc ls st) A C.1 rfl (hb C.2.1 hd) hl q
theorem r_lload {i : Nat} {x : Int64} (C : Cx p c meth bytes maxL ret nm) (hd : decode bytes pc = .ok (.lload i, 2)) (hp : pc + 2 = pc') (hl : ls[i]? = some (.val (.long x))) (k : Run p l e R s m args below meth c Z own V n0 G h cells slots pc' ls (.long x :: st)) : Run p l e R s m args below meth c Z own V n0 G h cells slots pc ls st := by
  subst hp
  exact k.go fun T t A q => XT.lload (g := mkF m pc ls st) A C.1 rfl (hb C.2.1 hd) hl q
theorem r_lstore_n {i : Fin 4} {x : Int64} (C : Cx p c meth bytes maxL ret nm) (hd : decode bytes pc = .ok (.lstore_n i, 1)) (hp : pc + 1 = pc') (hl : storeLocals ls i.val (.long x) = some ls') (k : Run p l e R s m args below meth c Z own V n0 G h cells slots pc' ls' st) : Run p l e R s m args below meth c Z own V n0 G h cells slots pc ls (.long x :: st) := by
  subst hp
  exact k.go fun T t A q => XT.lstoreN (g := mkF m pc ls (.long x :: st)) A C.1 rfl (hb C.2.1 hd) rfl hl q
theorem r_lstore {i : Nat} {x : Int64} (C : Cx p c meth bytes maxL ret nm) (hd : decode bytes pc = .ok (.lstore i, 2)) (hp : pc + 2 = pc') (hl : storeLocals ls i (.long x) = some ls') (k : Run p l e R s m args below meth c Z own V n0 G h cells slots pc' ls' st) : Run p l e R s m args below meth c Z own V n0 G h cells slots pc ls (.long x :: st) := by
  subst hp
  exact k.go fun T t A q => XT.lstore (g := mkF m pc ls (.long x :: st)) A C.1 rfl (hb C.2.1 hd) rfl hl q
theorem r_aload_n {i : Fin 4} {x : Value} (C : Cx p c meth bytes maxL ret nm) (hd : decode bytes pc = .ok (.aload_n i, 1)) (hp : pc + 1 = pc') (hl : ls[i.val]? = some (.val x)) (hv : x.isRef = true) (k : Run p l e R s m args below meth c Z own V n0 G h cells slots pc' ls (x :: st)) : Run p l e R s m args below meth c Z own V n0 G h cells slots pc ls st := by
  subst hp
  exact k.go fun T t A q => XS.aloadN (g := mkF m pc ls st) A C.1 rfl (hb C.2.1 hd) hl hv q
theorem r_aload {i : Nat} {x : Value} (C : Cx p c meth bytes maxL ret nm) (hd : decode bytes pc = .ok (.aload i, 2)) (hp : pc + 2 = pc') (hl : ls[i]? = some (.val x)) (hv : x.isRef = true) (k : Run p l e R s m args below meth c Z own V n0 G h cells slots pc' ls (x :: st)) : Run p l e R s m args below meth c Z own V n0 G h cells slots pc ls st := by
  subst hp
  exact k.go fun T t A q => XS.aload (g := mkF m pc ls st) A C.1 rfl (hb C.2.1 hd) hl hv q
theorem r_astore_n {i : Fin 4} {x : Value} (C : Cx p c meth bytes maxL ret nm) (hd : decode bytes pc = .ok (.astore_n i, 1)) (hp : pc + 1 = pc') (hv : x.isRef = true) (hl : storeLocals ls i.val x = some ls') (k : Run p l e R s m args below meth c Z own V n0 G h cells slots pc' ls' st) : Run p l e R s m args below meth c Z own V n0 G h cells slots pc ls (x :: st) := by
  subst hp
  exact k.go fun T t A q => XS.astoreN (g := mkF m pc ls (x :: st)) A C.1 rfl (hb C.2.1 hd) rfl hv hl q
theorem r_astore {i : Nat} {x : Value} (C : Cx p c meth bytes maxL ret nm) (hd : decode bytes pc = .ok (.astore i, 2)) (hp : pc + 2 = pc') (hv : x.isRef = true) (hl : storeLocals ls i x = some ls') (k : Run p l e R s m args below meth c Z own V n0 G h cells slots pc' ls' st) : Run p l e R s m args below meth c Z own V n0 G h cells slots pc ls (x :: st) := by
  subst hp
  exact k.go fun T t A q => XS.astore (g := mkF m pc ls (x :: st)) A C.1 rfl (hb C.2.1 hd) rfl hv hl q
theorem r_iinc {i : Nat} {cst : Int} {x z : Int32} (C : Cx p c meth bytes maxL ret nm) (hd : decode bytes pc = .ok (.iinc i cst, 3)) (hp : pc + 3 = pc') (hl : ls[i]? = some (.val (.int x))) (hz : x + Int32.ofInt cst = z) (hl' : storeLocals ls i (.int z) = some ls') (k : Run p l e R s m args below meth c Z own V n0 G h cells slots pc' ls' st) : Run p l e R s m args below meth c Z own V n0 G h cells slots pc ls st := by
  subst hp hz
  exact k.go fun T t A q => XS.iinc (g := mkF m pc ls st) A C.1 rfl (hb C.2.1 hd) hl hl' q
theorem r_pop {x : Value} (C : Cx p c meth bytes maxL ret nm) (hd : decode bytes pc = .ok (.pop, 1)) (hp : pc + 1 = pc') (hc : x.category = 1) (k : Run p l e R s m args below meth c Z own V n0 G h cells slots pc' ls st) : Run p l e R s m args below meth c Z own V n0 G h cells slots pc ls (x :: st) := by
  subst hp
  exact k.go fun T t A q => XT.pop (g := mkF m pc ls (x :: st)) A C.1 rfl (hb C.2.1 hd) rfl hc q
theorem r_dup {x : Value} (C : Cx p c meth bytes maxL ret nm) (hd : decode bytes pc = .ok (.dup, 1)) (hp : pc + 1 = pc') (hc : x.category = 1) (k : Run p l e R s m args below meth c Z own V n0 G h cells slots pc' ls (x :: x :: st)) : Run p l e R s m args below meth c Z own V n0 G h cells slots pc ls (x :: st) := by
  subst hp
  exact k.go fun T t A q => XS.dup (g := mkF m pc ls (x :: st)) A C.1 rfl (hb C.2.1 hd) rfl hc q
theorem r_dup_x1 {x y : Value} (C : Cx p c meth bytes maxL ret nm) (hd : decode bytes pc = .ok (.dup_x1, 1)) (hp : pc + 1 = pc') (hc : x.category = 1) (hc' : y.category = 1) (k : Run p l e R s m args below meth c Z own V n0 G h cells slots pc' ls (x :: y :: x :: st)) : Run p l e R s m args below meth c Z own V n0 G h cells slots pc ls (x :: y :: st) := by
  subst hp
  exact k.go fun T t A q => XT.dupX1 (g := mkF m pc ls (x :: y :: st)) A C.1 rfl (hb C.2.1 hd) rfl hc hc' q
theorem r_dup2 {x y : Value} (C : Cx p c meth bytes maxL ret nm) (hd : decode bytes pc = .ok (.dup2, 1)) (hp : pc + 1 = pc') (hc : x.category = 1) (hc' : y.category = 1) (k : Run p l e R s m args below meth c Z own V n0 G h cells slots pc' ls (x :: y :: x :: y :: st)) : Run p l e R s m args below meth c Z own V n0 G h cells slots pc ls (x :: y :: st) := by
  subst hp
  exact k.go fun T t A q => XT.dup2 (g := mkF m pc ls (x :: y :: st)) A C.1 rfl (hb C.2.1 hd) rfl hc hc' q
theorem r_dup2L {x : Int64} (C : Cx p c meth bytes maxL ret nm) (hd : decode bytes pc = .ok (.dup2, 1)) (hp : pc + 1 = pc')  (k : Run p l e R s m args below meth c Z own V n0 G h cells slots pc' ls (.long x :: .long x :: st)) : Run p l e R s m args below meth c Z own V n0 G h cells slots pc ls (.long x :: st) := by
  subst hp
  exact k.go fun T t A q => XT.dup2L (g := mkF m pc ls (.long x :: st)) A C.1 rfl (hb C.2.1 hd) rfl q
theorem toN {a : Nat} {o : Int} {b : Nat} (h : (a : Int) + o = (b : Int)) : 0 ≤ (a : Int) + o ∧ ((a : Int) + o).toNat = b := by omega
theorem r_goto {o : Int} (C : Cx p c meth bytes maxL ret nm) (hd : decode bytes pc = .ok (.goto o, 3)) (hp : (pc : Int) + o = (pc' : Int)) (k : Run p l e R s m args below meth c Z own V n0 G h cells slots pc' ls st) : Run p l e R s m args below meth c Z own V n0 G h cells slots pc ls st :=
  k.go fun T t A q => XS.goto (g := mkF m pc ls st) A C.1 rfl (pc0 := pc) (pc' := pc') rfl (hb C.2.1 hd) (toN hp).1 (toN hp).2 q
theorem r_icmp {x y : Int32} {cd : ClassFile.Cond} {o : Int} {pcT pcF : Nat} (C : Cx p c meth bytes maxL ret nm) (hd : decode bytes pc = .ok (.if_icmp cd o, 3)) (hT : (pc : Int) + o = (pcT : Int)) (hF : pc + 3 = pcF) (kT : if_icmp.holds cd x y = true → Run p l e R s m args below meth c Z own V n0 G h cells slots pcT ls st) (kF : if_icmp.holds cd x y = false → Run p l e R s m args below meth c Z own V n0 G h cells slots pcF ls st) : Run p l e R s m args below meth c Z own V n0 G h cells slots pc ls (.int y :: .int x :: st) := by
  subst hF
  cases hc : if_icmp.holds cd x y
  · exact (kF hc).go fun T t A q => XS.icmpNo (g := mkF m pc ls (.int y :: .int x :: st)) A C.1 rfl (hb C.2.1 hd) rfl hc q
  · exact (kT hc).go fun T t A q => XS.icmpYes (g := mkF m pc ls (.int y :: .int x :: st)) A C.1 rfl (pc0 := pc) (pc' := pcT) rfl (hb C.2.1 hd) rfl hc (toN hT).1 (toN hT).2 q
theorem r_if {x : Int32} {cd : ClassFile.Cond} {o : Int} {pcT pcF : Nat} (C : Cx p c meth bytes maxL ret nm) (hd : decode bytes pc = .ok (.ifCond cd o, 3)) (hT : (pc : Int) + o = (pcT : Int)) (hF : pc + 3 = pcF) (kT : ifCond.holds cd x = true → Run p l e R s m args below meth c Z own V n0 G h cells slots pcT ls st) (kF : ifCond.holds cd x = false → Run p l e R s m args below meth c Z own V n0 G h cells slots pcF ls st) : Run p l e R s m args below meth c Z own V n0 G h cells slots pc ls (.int x :: st) := by
  subst hF
  cases hc : ifCond.holds cd x
  · exact (kF hc).go fun T t A q => XS.ifNo (g := mkF m pc ls (.int x :: st)) A C.1 rfl (hb C.2.1 hd) rfl hc q
  · exact (kT hc).go fun T t A q => XS.ifYes (g := mkF m pc ls (.int x :: st)) A C.1 rfl (pc0 := pc) (pc' := pcT) rfl (hb C.2.1 hd) rfl hc (toN hT).1 (toN hT).2 q
theorem tf {P : Prop} {b : Bool} (h1 : P → b = true) (h2 : ¬ P → b = false) : (b = true → P) ∧ (b = false → ¬ P) := ⟨fun h => Classical.byContradiction fun q => (by rw [h2 q] at h; cases h), fun h q => (by rw [h1 q] at h; cases h)⟩
theorem lt32 {x y : Int32} : x < y ↔ x.toInt < y.toInt := Int32.lt_iff_toInt_lt
theorem nlt32 {x y : Int32} : ¬ x < y ↔ y.toInt ≤ x.toInt := by rw [lt32]; omega
theorem lt64 {x y : Int64} : x < y ↔ x.toInt < y.toInt := Int64.lt_iff_toInt_lt
theorem nlt64 {x y : Int64} : ¬ x < y ↔ y.toInt ≤ x.toInt := by rw [lt64]; omega
theorem r_icmplt {x y : Int32} {o : Int} {pcT pcF : Nat} (C : Cx p c meth bytes maxL ret nm) (hd : decode bytes pc = .ok (.if_icmp .lt o, 3)) (hT : (pc : Int) + o = (pcT : Int)) (hF : pc + 3 = pcF) (kT : x.toInt < y.toInt → Run p l e R s m args below meth c Z own V n0 G h cells slots pcT ls st) (kF : y.toInt ≤ x.toInt → Run p l e R s m args below meth c Z own V n0 G h cells slots pcF ls st) : Run p l e R s m args below meth c Z own V n0 G h cells slots pc ls (.int y :: .int x :: st) :=
  r_icmp C hd hT hF (fun hc => kT (lt32.mp ((tf (P := x < y) XT.ii_lt_t XT.ii_lt_f).1 hc))) (fun hc => kF (nlt32.mp ((tf (P := x < y) XT.ii_lt_t XT.ii_lt_f).2 hc)))
theorem r_iflt {x : Int32} {o : Int} {pcT pcF : Nat} (C : Cx p c meth bytes maxL ret nm) (hd : decode bytes pc = .ok (.ifCond .lt o, 3)) (hT : (pc : Int) + o = (pcT : Int)) (hF : pc + 3 = pcF) (kT : x.toInt < 0 → Run p l e R s m args below meth c Z own V n0 G h cells slots pcT ls st) (kF : 0 ≤ x.toInt → Run p l e R s m args below meth c Z own V n0 G h cells slots pcF ls st) : Run p l e R s m args below meth c Z own V n0 G h cells slots pc ls (.int x :: st) :=
  r_if C hd hT hF (fun hc => kT (lt32.mp ((tf (P := x < (0 : Int32)) XT.i0_lt_t XT.i0_lt_f).1 hc))) (fun hc => kF (nlt32.mp ((tf (P := x < (0 : Int32)) XT.i0_lt_t XT.i0_lt_f).2 hc)))
theorem r_lcmplt {x y : Int64} {o : Int} {pcT pcF : Nat} (C : Cx p c meth bytes maxL ret nm) (hd0 : decode bytes pc = .ok (.lcmp, 1)) (hp : pc + 1 = pc') (hd : decode bytes pc' = .ok (.ifCond .lt o, 3)) (hT : (pc' : Int) + o = (pcT : Int)) (hF : pc' + 3 = pcF) (kT : x.toInt < y.toInt → Run p l e R s m args below meth c Z own V n0 G h cells slots pcT ls st) (kF : y.toInt ≤ x.toInt → Run p l e R s m args below meth c Z own V n0 G h cells slots pcF ls st) : Run p l e R s m args below meth c Z own V n0 G h cells slots pc ls (.long y :: .long x :: st) := by
  subst hp
  exact (r_if (x := XT.cmpL x y) C hd hT hF (fun hc => kT (lt64.mp ((tf (P := x < y) XT.ll_lt_t XT.ll_lt_f).1 hc))) (fun hc => kF (nlt64.mp ((tf (P := x < y) XT.ll_lt_t XT.ll_lt_f).2 hc)))).go fun T t A q => XT.lcmp (g := mkF m pc ls (.long y :: .long x :: st)) A C.1 rfl (hb C.2.1 hd0) rfl q
theorem r_icmpge {x y : Int32} {o : Int} {pcT pcF : Nat} (C : Cx p c meth bytes maxL ret nm) (hd : decode bytes pc = .ok (.if_icmp .ge o, 3)) (hT : (pc : Int) + o = (pcT : Int)) (hF : pc + 3 = pcF) (kT : y.toInt ≤ x.toInt → Run p l e R s m args below meth c Z own V n0 G h cells slots pcT ls st) (kF : x.toInt < y.toInt → Run p l e R s m args below meth c Z own V n0 G h cells slots pcF ls st) : Run p l e R s m args below meth c Z own V n0 G h cells slots pc ls (.int y :: .int x :: st) :=
  r_icmp C hd hT hF (fun hc => kT (nlt32.mp ((tf (P := ¬ x < y) XT.ii_ge_t (fun q => XT.ii_ge_f (Classical.not_not.mp q))).1 hc))) (fun hc => kF (lt32.mp (Classical.not_not.mp ((tf (P := ¬ x < y) XT.ii_ge_t (fun q => XT.ii_ge_f (Classical.not_not.mp q))).2 hc))))
theorem r_ifge {x : Int32} {o : Int} {pcT pcF : Nat} (C : Cx p c meth bytes maxL ret nm) (hd : decode bytes pc = .ok (.ifCond .ge o, 3)) (hT : (pc : Int) + o = (pcT : Int)) (hF : pc + 3 = pcF) (kT : 0 ≤ x.toInt → Run p l e R s m args below meth c Z own V n0 G h cells slots pcT ls st) (kF : x.toInt < 0 → Run p l e R s m args below meth c Z own V n0 G h cells slots pcF ls st) : Run p l e R s m args below meth c Z own V n0 G h cells slots pc ls (.int x :: st) :=
  r_if C hd hT hF (fun hc => kT (nlt32.mp ((tf (P := ¬ x < (0 : Int32)) XT.i0_ge_t (fun q => XT.i0_ge_f (Classical.not_not.mp q))).1 hc))) (fun hc => kF (lt32.mp (Classical.not_not.mp ((tf (P := ¬ x < (0 : Int32)) XT.i0_ge_t (fun q => XT.i0_ge_f (Classical.not_not.mp q))).2 hc))))
theorem r_lcmpge {x y : Int64} {o : Int} {pcT pcF : Nat} (C : Cx p c meth bytes maxL ret nm) (hd0 : decode bytes pc = .ok (.lcmp, 1)) (hp : pc + 1 = pc') (hd : decode bytes pc' = .ok (.ifCond .ge o, 3)) (hT : (pc' : Int) + o = (pcT : Int)) (hF : pc' + 3 = pcF) (kT : y.toInt ≤ x.toInt → Run p l e R s m args below meth c Z own V n0 G h cells slots pcT ls st) (kF : x.toInt < y.toInt → Run p l e R s m args below meth c Z own V n0 G h cells slots pcF ls st) : Run p l e R s m args below meth c Z own V n0 G h cells slots pc ls (.long y :: .long x :: st) := by
  subst hp
  exact (r_if (x := XT.cmpL x y) C hd hT hF (fun hc => kT (nlt64.mp ((tf (P := ¬ x < y) XT.ll_ge_t (fun q => XT.ll_ge_f (Classical.not_not.mp q))).1 hc))) (fun hc => kF (lt64.mp (Classical.not_not.mp ((tf (P := ¬ x < y) XT.ll_ge_t (fun q => XT.ll_ge_f (Classical.not_not.mp q))).2 hc))))).go fun T t A q => XT.lcmp (g := mkF m pc ls (.long y :: .long x :: st)) A C.1 rfl (hb C.2.1 hd0) rfl q
theorem r_icmpgt {x y : Int32} {o : Int} {pcT pcF : Nat} (C : Cx p c meth bytes maxL ret nm) (hd : decode bytes pc = .ok (.if_icmp .gt o, 3)) (hT : (pc : Int) + o = (pcT : Int)) (hF : pc + 3 = pcF) (kT : y.toInt < x.toInt → Run p l e R s m args below meth c Z own V n0 G h cells slots pcT ls st) (kF : x.toInt ≤ y.toInt → Run p l e R s m args below meth c Z own V n0 G h cells slots pcF ls st) : Run p l e R s m args below meth c Z own V n0 G h cells slots pc ls (.int y :: .int x :: st) :=
  r_icmp C hd hT hF (fun hc => kT (lt32.mp ((tf (P := y < x) XT.ii_gt_t XT.ii_gt_f).1 hc))) (fun hc => kF (nlt32.mp ((tf (P := y < x) XT.ii_gt_t XT.ii_gt_f).2 hc)))
theorem r_ifgt {x : Int32} {o : Int} {pcT pcF : Nat} (C : Cx p c meth bytes maxL ret nm) (hd : decode bytes pc = .ok (.ifCond .gt o, 3)) (hT : (pc : Int) + o = (pcT : Int)) (hF : pc + 3 = pcF) (kT : 0 < x.toInt → Run p l e R s m args below meth c Z own V n0 G h cells slots pcT ls st) (kF : x.toInt ≤ 0 → Run p l e R s m args below meth c Z own V n0 G h cells slots pcF ls st) : Run p l e R s m args below meth c Z own V n0 G h cells slots pc ls (.int x :: st) :=
  r_if C hd hT hF (fun hc => kT (lt32.mp ((tf (P := (0 : Int32) < x) XT.i0_gt_t XT.i0_gt_f).1 hc))) (fun hc => kF (nlt32.mp ((tf (P := (0 : Int32) < x) XT.i0_gt_t XT.i0_gt_f).2 hc)))
theorem r_lcmpgt {x y : Int64} {o : Int} {pcT pcF : Nat} (C : Cx p c meth bytes maxL ret nm) (hd0 : decode bytes pc = .ok (.lcmp, 1)) (hp : pc + 1 = pc') (hd : decode bytes pc' = .ok (.ifCond .gt o, 3)) (hT : (pc' : Int) + o = (pcT : Int)) (hF : pc' + 3 = pcF) (kT : y.toInt < x.toInt → Run p l e R s m args below meth c Z own V n0 G h cells slots pcT ls st) (kF : x.toInt ≤ y.toInt → Run p l e R s m args below meth c Z own V n0 G h cells slots pcF ls st) : Run p l e R s m args below meth c Z own V n0 G h cells slots pc ls (.long y :: .long x :: st) := by
  subst hp
  exact (r_if (x := XT.cmpL x y) C hd hT hF (fun hc => kT (lt64.mp ((tf (P := y < x) XT.ll_gt_t XT.ll_gt_f).1 hc))) (fun hc => kF (nlt64.mp ((tf (P := y < x) XT.ll_gt_t XT.ll_gt_f).2 hc)))).go fun T t A q => XT.lcmp (g := mkF m pc ls (.long y :: .long x :: st)) A C.1 rfl (hb C.2.1 hd0) rfl q
theorem r_icmple {x y : Int32} {o : Int} {pcT pcF : Nat} (C : Cx p c meth bytes maxL ret nm) (hd : decode bytes pc = .ok (.if_icmp .le o, 3)) (hT : (pc : Int) + o = (pcT : Int)) (hF : pc + 3 = pcF) (kT : x.toInt ≤ y.toInt → Run p l e R s m args below meth c Z own V n0 G h cells slots pcT ls st) (kF : y.toInt < x.toInt → Run p l e R s m args below meth c Z own V n0 G h cells slots pcF ls st) : Run p l e R s m args below meth c Z own V n0 G h cells slots pc ls (.int y :: .int x :: st) :=
  r_icmp C hd hT hF (fun hc => kT (nlt32.mp ((tf (P := ¬ y < x) XT.ii_le_t (fun q => XT.ii_le_f (Classical.not_not.mp q))).1 hc))) (fun hc => kF (lt32.mp (Classical.not_not.mp ((tf (P := ¬ y < x) XT.ii_le_t (fun q => XT.ii_le_f (Classical.not_not.mp q))).2 hc))))
theorem r_ifle {x : Int32} {o : Int} {pcT pcF : Nat} (C : Cx p c meth bytes maxL ret nm) (hd : decode bytes pc = .ok (.ifCond .le o, 3)) (hT : (pc : Int) + o = (pcT : Int)) (hF : pc + 3 = pcF) (kT : x.toInt ≤ 0 → Run p l e R s m args below meth c Z own V n0 G h cells slots pcT ls st) (kF : 0 < x.toInt → Run p l e R s m args below meth c Z own V n0 G h cells slots pcF ls st) : Run p l e R s m args below meth c Z own V n0 G h cells slots pc ls (.int x :: st) :=
  r_if C hd hT hF (fun hc => kT (nlt32.mp ((tf (P := ¬ (0 : Int32) < x) XT.i0_le_t (fun q => XT.i0_le_f (Classical.not_not.mp q))).1 hc))) (fun hc => kF (lt32.mp (Classical.not_not.mp ((tf (P := ¬ (0 : Int32) < x) XT.i0_le_t (fun q => XT.i0_le_f (Classical.not_not.mp q))).2 hc))))
theorem r_lcmple {x y : Int64} {o : Int} {pcT pcF : Nat} (C : Cx p c meth bytes maxL ret nm) (hd0 : decode bytes pc = .ok (.lcmp, 1)) (hp : pc + 1 = pc') (hd : decode bytes pc' = .ok (.ifCond .le o, 3)) (hT : (pc' : Int) + o = (pcT : Int)) (hF : pc' + 3 = pcF) (kT : x.toInt ≤ y.toInt → Run p l e R s m args below meth c Z own V n0 G h cells slots pcT ls st) (kF : y.toInt < x.toInt → Run p l e R s m args below meth c Z own V n0 G h cells slots pcF ls st) : Run p l e R s m args below meth c Z own V n0 G h cells slots pc ls (.long y :: .long x :: st) := by
  subst hp
  exact (r_if (x := XT.cmpL x y) C hd hT hF (fun hc => kT (nlt64.mp ((tf (P := ¬ y < x) XT.ll_le_t (fun q => XT.ll_le_f (Classical.not_not.mp q))).1 hc))) (fun hc => kF (lt64.mp (Classical.not_not.mp ((tf (P := ¬ y < x) XT.ll_le_t (fun q => XT.ll_le_f (Classical.not_not.mp q))).2 hc))))).go fun T t A q => XT.lcmp (g := mkF m pc ls (.long y :: .long x :: st)) A C.1 rfl (hb C.2.1 hd0) rfl q
theorem r_icmpeq {x y : Int32} {o : Int} {pcT pcF : Nat} (C : Cx p c meth bytes maxL ret nm) (hd : decode bytes pc = .ok (.if_icmp .eq o, 3)) (hT : (pc : Int) + o = (pcT : Int)) (hF : pc + 3 = pcF) (kT : x = y → Run p l e R s m args below meth c Z own V n0 G h cells slots pcT ls st) (kF : ¬ x = y → Run p l e R s m args below meth c Z own V n0 G h cells slots pcF ls st) : Run p l e R s m args below meth c Z own V n0 G h cells slots pc ls (.int y :: .int x :: st) :=
  r_icmp C hd hT hF (fun hc => kT ((tf (P := x = y) XT.ii_eq_t XT.ii_eq_f).1 hc)) (fun hc => kF ((tf (P := x = y) XT.ii_eq_t XT.ii_eq_f).2 hc))
theorem r_ifeq {x : Int32} {o : Int} {pcT pcF : Nat} (C : Cx p c meth bytes maxL ret nm) (hd : decode bytes pc = .ok (.ifCond .eq o, 3)) (hT : (pc : Int) + o = (pcT : Int)) (hF : pc + 3 = pcF) (kT : x = 0 → Run p l e R s m args below meth c Z own V n0 G h cells slots pcT ls st) (kF : ¬ x = 0 → Run p l e R s m args below meth c Z own V n0 G h cells slots pcF ls st) : Run p l e R s m args below meth c Z own V n0 G h cells slots pc ls (.int x :: st) :=
  r_if C hd hT hF (fun hc => kT ((tf (P := x = 0) XT.i0_eq_t XT.i0_eq_f).1 hc)) (fun hc => kF ((tf (P := x = 0) XT.i0_eq_t XT.i0_eq_f).2 hc))
theorem r_lcmpeq {x y : Int64} {o : Int} {pcT pcF : Nat} (C : Cx p c meth bytes maxL ret nm) (hd0 : decode bytes pc = .ok (.lcmp, 1)) (hp : pc + 1 = pc') (hd : decode bytes pc' = .ok (.ifCond .eq o, 3)) (hT : (pc' : Int) + o = (pcT : Int)) (hF : pc' + 3 = pcF) (kT : x = y → Run p l e R s m args below meth c Z own V n0 G h cells slots pcT ls st) (kF : ¬ x = y → Run p l e R s m args below meth c Z own V n0 G h cells slots pcF ls st) : Run p l e R s m args below meth c Z own V n0 G h cells slots pc ls (.long y :: .long x :: st) := by
  subst hp
  exact (r_if (x := XT.cmpL x y) C hd hT hF (fun hc => kT ((tf (P := x = y) XT.ll_eq_t XT.ll_eq_f).1 hc)) (fun hc => kF ((tf (P := x = y) XT.ll_eq_t XT.ll_eq_f).2 hc))).go fun T t A q => XT.lcmp (g := mkF m pc ls (.long y :: .long x :: st)) A C.1 rfl (hb C.2.1 hd0) rfl q
theorem r_icmpne {x y : Int32} {o : Int} {pcT pcF : Nat} (C : Cx p c meth bytes maxL ret nm) (hd : decode bytes pc = .ok (.if_icmp .ne o, 3)) (hT : (pc : Int) + o = (pcT : Int)) (hF : pc + 3 = pcF) (kT : ¬ x = y → Run p l e R s m args below meth c Z own V n0 G h cells slots pcT ls st) (kF : x = y → Run p l e R s m args below meth c Z own V n0 G h cells slots pcF ls st) : Run p l e R s m args below meth c Z own V n0 G h cells slots pc ls (.int y :: .int x :: st) :=
  r_icmp C hd hT hF (fun hc => kT ((tf (P := ¬ x = y) XT.ii_ne_t (fun q => XT.ii_ne_f (Classical.not_not.mp q))).1 hc)) (fun hc => kF (Classical.not_not.mp ((tf (P := ¬ x = y) XT.ii_ne_t (fun q => XT.ii_ne_f (Classical.not_not.mp q))).2 hc)))
theorem r_ifne {x : Int32} {o : Int} {pcT pcF : Nat} (C : Cx p c meth bytes maxL ret nm) (hd : decode bytes pc = .ok (.ifCond .ne o, 3)) (hT : (pc : Int) + o = (pcT : Int)) (hF : pc + 3 = pcF) (kT : ¬ x = 0 → Run p l e R s m args below meth c Z own V n0 G h cells slots pcT ls st) (kF : x = 0 → Run p l e R s m args below meth c Z own V n0 G h cells slots pcF ls st) : Run p l e R s m args below meth c Z own V n0 G h cells slots pc ls (.int x :: st) :=
  r_if C hd hT hF (fun hc => kT ((tf (P := ¬ x = 0) XT.i0_ne_t (fun q => XT.i0_ne_f (Classical.not_not.mp q))).1 hc)) (fun hc => kF (Classical.not_not.mp ((tf (P := ¬ x = 0) XT.i0_ne_t (fun q => XT.i0_ne_f (Classical.not_not.mp q))).2 hc)))
theorem r_lcmpne {x y : Int64} {o : Int} {pcT pcF : Nat} (C : Cx p c meth bytes maxL ret nm) (hd0 : decode bytes pc = .ok (.lcmp, 1)) (hp : pc + 1 = pc') (hd : decode bytes pc' = .ok (.ifCond .ne o, 3)) (hT : (pc' : Int) + o = (pcT : Int)) (hF : pc' + 3 = pcF) (kT : ¬ x = y → Run p l e R s m args below meth c Z own V n0 G h cells slots pcT ls st) (kF : x = y → Run p l e R s m args below meth c Z own V n0 G h cells slots pcF ls st) : Run p l e R s m args below meth c Z own V n0 G h cells slots pc ls (.long y :: .long x :: st) := by
  subst hp
  exact (r_if (x := XT.cmpL x y) C hd hT hF (fun hc => kT ((tf (P := ¬ x = y) XT.ll_ne_t (fun q => XT.ll_ne_f (Classical.not_not.mp q))).1 hc)) (fun hc => kF (Classical.not_not.mp ((tf (P := ¬ x = y) XT.ll_ne_t (fun q => XT.ll_ne_f (Classical.not_not.mp q))).2 hc)))).go fun T t A q => XT.lcmp (g := mkF m pc ls (.long y :: .long x :: st)) A C.1 rfl (hb C.2.1 hd0) rfl q
theorem r_ifnonnullR {a : Addr} {o : Int} (C : Cx p c meth bytes maxL ret nm) (hd : decode bytes pc = .ok (.ifnonnull o, 3)) (hp : (pc : Int) + o = (pc' : Int)) (k : Run p l e R s m args below meth c Z own V n0 G h cells slots pc' ls st) : Run p l e R s m args below meth c Z own V n0 G h cells slots pc ls (.ref a :: st) :=
  k.go fun T t A q => XT.ifnonnullYes (g := mkF m pc ls (.ref a :: st)) A C.1 rfl (pc0 := pc) (pc' := pc') rfl (hb C.2.1 hd) rfl (toN hp).1 (toN hp).2 q
theorem r_ifnullR {a : Addr} {o : Int} (C : Cx p c meth bytes maxL ret nm) (hd : decode bytes pc = .ok (.ifnull o, 3)) (hp : pc + 3 = pc') (k : Run p l e R s m args below meth c Z own V n0 G h cells slots pc' ls st) : Run p l e R s m args below meth c Z own V n0 G h cells slots pc ls (.ref a :: st) := by
  subst hp
  exact k.go fun T t A q => XS.ifnullNo (g := mkF m pc ls (.ref a :: st)) A C.1 rfl (hb C.2.1 hd) rfl q
theorem r_ldc {i : Nat} {x : Int32} (C : Cx p c meth bytes maxL ret nm) (w : (Jvm.Cond.constant own i x).before a0 Z = true) (hd : decode bytes pc = .ok (.ldc i, 2)) (hp : pc + 2 = pc') (k : Run p l e R s m args below meth c Z own V n0 G h cells slots pc' ls (.int x :: st)) : Run p l e R s m args below meth c Z own V n0 G h cells slots pc ls st := by
  subst hp
  intro vm0 k0 T L X hV hk hZ ho N eT
  obtain ⟨U, o, h1, r⟩ := k vm0 k0 T L X hV hk hZ ho N eT
  exact ⟨U, o, X.ldcI (g := mkF m pc ls st) C.1 (own := own) ho (mvT (s := s.setVm vm0) hZ w) rfl (hb C.2.1 hd) h1, r⟩
theorem r_ldc_w {i : Nat} {x : Int32} (C : Cx p c meth bytes maxL ret nm) (w : (Jvm.Cond.constant own i x).before a0 Z = true) (hd : decode bytes pc = .ok (.ldc_w i, 3)) (hp : pc + 3 = pc') (k : Run p l e R s m args below meth c Z own V n0 G h cells slots pc' ls (.int x :: st)) : Run p l e R s m args below meth c Z own V n0 G h cells slots pc ls st := by
  subst hp
  intro vm0 k0 T L X hV hk hZ ho N eT
  obtain ⟨U, o, h1, r⟩ := k vm0 k0 T L X hV hk hZ ho N eT
  exact ⟨U, o, X.ldcWI (g := mkF m pc ls st) C.1 (own := own) ho (mvT (s := s.setVm vm0) hZ w) rfl (hb C.2.1 hd) h1, r⟩
theorem r_ldc2_w {i : Nat} {x : Int64} (C : Cx p c meth bytes maxL ret nm) (w : (Jvm.Cond.constantLong own i x).before a0 Z = true) (hd : decode bytes pc = .ok (.ldc2_w i, 3)) (hp : pc + 3 = pc') (k : Run p l e R s m args below meth c Z own V n0 G h cells slots pc' ls (.long x :: st)) : Run p l e R s m args below meth c Z own V n0 G h cells slots pc ls st := by
  subst hp
  intro vm0 k0 T L X hV hk hZ ho N eT
  obtain ⟨U, o, h1, r⟩ := k vm0 k0 T L X hV hk hZ ho N eT
  exact ⟨U, o, X.ldc2J (g := mkF m pc ls st) C.1 (own := own) ho (mvT (s := s.setVm vm0) hZ w) rfl (hb C.2.1 hd) h1, r⟩
theorem retI0 {T : State} {locs : List Loc} {k n : Nat} (X : Stand p l e R s m args below meth c T locs k n) (hx : p.tables.exec = Jvm.exec) {pc : Nat} {Ls : Array Slot} {z : Int32} {rest : List Value} (hret : meth.sig.returnType = some .int) (hd : decode c.code pc = .ok (.ireturn, 1)) {fs : List Frame}
    (hl : ∀ (f : JFrame) (acts : List Action), f.method = m → f.locked = none → f.entered = [] → (doReturn e (T.setTop f) acts (some (.int z))).1 = T.setFrames fs) : Steps p.tables e below (T.setTop (mkF m pc Ls (.int z :: rest))) (T.setFrames fs) :=
  retOut X hx hret rfl (Or.inl ⟨rfl, Or.inl rfl, z, rfl⟩) hd hl
theorem r_ireturn {z : Int32} {P : Option Value → Heap → Prop} (C : Cx p c meth bytes maxL (some .int) nm) (hd : decode bytes pc = .ok (.ireturn, 1)) (hP : P (some (.int z)) h) (hc : cells ≤ R.cells) (hs : slots ≤ R.slots) : Run p l e R s m args below meth c Z own (plainV s) n0 (Gq s n0 R P) h cells slots pc ls (.int z :: st) := by
  intro vm0 k0 T L X hV hk hZ ho N eT
  cases (show vm0 = s.vm from hV)
  have X' : Stand p l e R s m args below meth c T L cells slots := X
  obtain ⟨fs, hr, hrun, hended, hW, hsame⟩ := X'.leave (v := (some (.int z))) (fun h => by first | rfl | (rw [C.2.2.2.1] at h; cases h)) C.2.2.2.2.1
  exact ⟨_, _, retI0 X' C.1 C.2.2.2.1 (hb C.2.1 hd) hr, hrun, hended, _, _, rfl, ⟨by show P _ T.heap; rw [eT]; exact hP, N⟩, ⟨_, rfl⟩, hW, hsame.mono hc hs⟩
theorem r_ireturnN {z : Int32} {t : FieldType} (ht : t = .boolean ∨ t = .byte ∨ t = .char ∨ t = .short) {P : Option Value → Heap → Prop} (C : Cx p c meth bytes maxL (some t) nm) (hd : decode bytes pc = .ok (.ireturn, 1)) (hP : P (some (.int (nar t z))) h) (hc : cells ≤ R.cells) (hs : slots ≤ R.slots) : Run p l e R s m args below meth c Z own (plainV s) n0 (Gq s n0 R P) h cells slots pc ls (.int z :: st) := by
  intro vm0 k0 T L X hV hk hZ ho N eT
  cases (show vm0 = s.vm from hV)
  have X' : Stand p l e R s m args below meth c T L cells slots := X
  obtain ⟨fs, hr, hrun, hended, hW, hsame⟩ := X'.leave (v := (some (.int (nar t z)))) (fun h => by first | rfl | (rw [C.2.2.2.1] at h; cases h)) C.2.2.2.2.1
  exact ⟨_, _, retN X' C.1 C.2.2.2.1 ht (hb C.2.1 hd) hr, hrun, hended, _, _, rfl, ⟨by show P _ T.heap; rw [eT]; exact hP, N⟩, ⟨_, rfl⟩, hW, hsame.mono hc hs⟩
theorem r_lreturn {z : Int64} {P : Option Value → Heap → Prop} (C : Cx p c meth bytes maxL (some .long) nm) (hd : decode bytes pc = .ok (.lreturn, 1)) (hP : P (some (.long z)) h) (hc : cells ≤ R.cells) (hs : slots ≤ R.slots) : Run p l e R s m args below meth c Z own (plainV s) n0 (Gq s n0 R P) h cells slots pc ls (.long z :: st) := by
  intro vm0 k0 T L X hV hk hZ ho N eT
  cases (show vm0 = s.vm from hV)
  have X' : Stand p l e R s m args below meth c T L cells slots := X
  obtain ⟨fs, hr, hrun, hended, hW, hsame⟩ := X'.leave (v := (some (.long z))) (fun h => by first | rfl | (rw [C.2.2.2.1] at h; cases h)) C.2.2.2.2.1
  exact ⟨_, _, retOut X' C.1 C.2.2.2.1 rfl (Or.inr (Or.inl ⟨rfl, rfl, z, rfl⟩)) (hb C.2.1 hd) hr, hrun, hended, _, _, rfl, ⟨by show P _ T.heap; rw [eT]; exact hP, N⟩, ⟨_, rfl⟩, hW, hsame.mono hc hs⟩
theorem r_areturn {a : Addr} {t : FieldType} (ht : t.isReference = true) (hn : narrow t (.ref a) = .ref a) {P : Option Value → Heap → Prop} (C : Cx p c meth bytes maxL (some t) nm) (hd : decode bytes pc = .ok (.areturn, 1)) (hP : P (some (.ref a)) h) (hc : cells ≤ R.cells) (hs : slots ≤ R.slots) : Run p l e R s m args below meth c Z own (plainV s) n0 (Gq s n0 R P) h cells slots pc ls (.ref a :: st) := by
  intro vm0 k0 T L X hV hk hZ ho N eT
  cases (show vm0 = s.vm from hV)
  have X' : Stand p l e R s m args below meth c T L cells slots := X
  obtain ⟨fs, hr, hrun, hended, hW, hsame⟩ := X'.leave (v := (some (.ref a))) (fun h => by first | rfl | (rw [C.2.2.2.1] at h; cases h)) C.2.2.2.2.1
  exact ⟨_, _, retOut X' C.1 C.2.2.2.1 hn (Or.inr (Or.inr (Or.inr (Or.inr ⟨rfl, ht, rfl⟩)))) (hb C.2.1 hd) hr, hrun, hended, _, _, rfl, ⟨by show P _ T.heap; rw [eT]; exact hP, N⟩, ⟨_, rfl⟩, hW, hsame.mono hc hs⟩
theorem r_return0  {P : Option Value → Heap → Prop} (C : Cx p c meth bytes maxL none nm) (hd : decode bytes pc = .ok (.return_, 1)) (hP : P none h) (hc : cells ≤ R.cells) (hs : slots ≤ R.slots) : Run p l e R s m args below meth c Z own (plainV s) n0 (Gq s n0 R P) h cells slots pc ls [] := by
  intro vm0 k0 T L X hV hk hZ ho N eT
  cases (show vm0 = s.vm from hV)
  have X' : Stand p l e R s m args below meth c T L cells slots := X
  obtain ⟨fs, hr, hrun, hended, hW, hsame⟩ := X'.leave (v := none) (fun h => by first | rfl | (rw [C.2.2.2.1] at h; cases h)) C.2.2.2.2.1
  exact ⟨_, _, X'.returnOut C.1 C.2.2.2.1 (hb C.2.1 hd) hr, hrun, hended, _, _, rfl, ⟨by show P _ T.heap; rw [eT]; exact hP, N⟩, ⟨_, rfl⟩, hW, hsame.mono hc hs⟩
theorem r_callS {y : MethodName} {bytes' : ByteArray} {maxL' : Nat} {ret' : Option FieldType} {rm : Room} {as : List Value} {P : Option Value → Heap → Prop} {index W : Nat} {ps : List FieldType} {r0 : Option FieldType} (C : Cx p c meth bytes maxL ret nm)
    (w1 : (Jvm.Cond.methodLink own index y).before a0 Z = true) (w2 : (Jvm.Cond.static y).before a0 Z = true) (w3 : (Jvm.Cond.initialized y.cls).before a0 Z = true) (w4 : (Jvm.Cond.code y bytes' maxL' ret').before a0 Z = true)
    (hy : y.cls ≠ "java/lang/invoke/MethodHandle" ∧ y.cls ≠ "java/lang/invoke/VarHandle") (hpd : parseMethodDescriptor y.desc = some ⟨ps, r0⟩) (hlen : as.length = ps.length) (hstk : st' = as.reverse ++ st) (hd : decode bytes pc = .ok (.invokestatic index, 3)) (hp : pc + 3 = pc')
    (hsz : ls.size = maxL) (hW : (st.map fun v => v.category).sum ≤ W) (K : Con l Z y bytes' maxL' ret' rm as.toArray h n0 P) (hf : rm.frames + 1 ≤ R.frames) (hl : W + (maxL' + 11) + rm.locals ≤ R.locals) (hc : cells + rm.cells ≤ R.cells) (hs : slots + rm.slots ≤ R.slots)
    (k : ∀ v h', P v h' → Run p l e R s m args below meth c Z own V n0 G h' (cells + rm.cells) (slots + rm.slots) pc' ls (v.toList ++ st)) : Run p l e R s m args below meth c Z own V n0 G h cells slots pc ls st' := by
  subst hp hstk
  intro vm0 k0 T L X hV hk hZ ho N eT
  have hZ' : Z.Warmed39 (s.setVm vm0).vm := hZ
  obtain ⟨v, vm₁, B, hw, X', ⟨L', hQ, e1, e2, e3⟩, stp⟩ := Jvm.LawKit.callS X C.1 (y := y) (own := own) ho (mvT hZ' w1) (mvT hZ' w2) (mvT hZ' w3) (mvT hZ' w4) hy
    (backOf (W := W) (Q := fun v h' L => P v h' ∧ Fr n0 L) (K []) hZ' w4 w3 hf hl) (g := mkF m pc ls (as.reverse ++ st)) rfl (by rw [C.2.2.1]; exact hsz) (argsL := as) (rest := st) (lenOf hpd hlen) rfl (by simpa using hW) (hb C.2.1 hd) (fun _ _ => ⟨rfl, eT, hc, hs⟩)
  obtain ⟨hP, N'⟩ := hQ
  obtain ⟨U, L2, ce2, sl2⟩ := B
  dsimp only [Pt.U, Pt.locs, Pt.cells, Pt.slots] at X' e1 e2 e3 stp hP
  subst e1 e2 e3
  have hle := (stp _ (Steps.refl _)).heap_le
  have hle' : h.size ≤ U.heap.size := by rw [← eT]; exact hle
  obtain ⟨U', o, h1, r⟩ := k v _ hP vm0 k0 U _ X' hV (Nat.le_trans hk hle') hZ ho (Fr.app N N') rfl
  exact ⟨U', o, stp _ h1, r⟩
/-- a constructor (or any '<init>') -/
theorem r_callI {y : MethodName} {bytes' : ByteArray} {maxL' : Nat} {rm : Room} {a : Addr} {as : List Value} {P : Option Value → Heap → Prop} {index W : Nat} {ps : List FieldType} {r0 : Option FieldType} (C : Cx p c meth bytes maxL ret nm) (hy1 : y.name = "<init>")
    (w1 : (Jvm.Cond.methodLink own index y).before a0 Z = true) (w2 : (Jvm.Cond.instanceMethod y).before a0 Z = true) (w3 : (Jvm.Cond.initialized y.cls).before a0 Z = true) (w4 : (Jvm.Cond.code y bytes' maxL' none).before a0 Z = true)
    (hy : y.cls ≠ "java/lang/invoke/MethodHandle" ∧ y.cls ≠ "java/lang/invoke/VarHandle") (hpd : parseMethodDescriptor y.desc = some ⟨ps, r0⟩) (hlen : as.length = ps.length) (hstk : st' = as.reverse ++ .ref a :: st) (hd : decode bytes pc = .ok (.invokespecial index, 3)) (hp : pc + 3 = pc')
    (hsz : ls.size = maxL) (hW : (st.map fun v => v.category).sum ≤ W) (K : Con l Z y bytes' maxL' none rm (.ref a :: as).toArray h n0 P) (hf : rm.frames + 1 ≤ R.frames) (hl : W + (maxL' + 11) + rm.locals ≤ R.locals) (hc : cells + rm.cells ≤ R.cells) (hs : slots + rm.slots ≤ R.slots)
    (k : ∀ v h', P v h' → Run p l e R s m args below meth c Z own V n0 G h' (cells + rm.cells) (slots + rm.slots) pc' ls (v.toList ++ st)) : Run p l e R s m args below meth c Z own V n0 G h cells slots pc ls st' := by
  subst hp hstk
  intro vm0 k0 T L X hV hk hZ ho N eT
  have hZ' : Z.Warmed39 (s.setVm vm0).vm := hZ
  obtain ⟨v, vm₁, B, hw, X', ⟨L', hQ, e1, e2, e3⟩, stp⟩ := X.specialBack C.1 (y := y) hy1 (own := own) ho (mvT hZ' w1) (mvT hZ' w2) (mvT hZ' w4) hy
    (backOf (W := W) (Q := fun v h' L => P v h' ∧ Fr n0 L) (K []) hZ' w4 w3 hf hl) (g := mkF m pc ls (as.reverse ++ .ref a :: st)) rfl (by rw [C.2.2.1]; exact hsz) (Steps.refl _) (a := a) (argsL := as) (rest := st) (lenOf hpd hlen) rfl (by simpa using hW) (hb C.2.1 hd) (fun _ _ => ⟨rfl, eT, hc, hs⟩)
  obtain ⟨hP, N'⟩ := hQ
  obtain ⟨U, L2, ce2, sl2⟩ := B
  dsimp only [Pt.U, Pt.locs, Pt.cells, Pt.slots] at X' e1 e2 e3 stp hP
  subst e1 e2 e3
  have hle := stp.heap_le
  have hle' : h.size ≤ U.heap.size := by rw [← eT]; exact hle
  obtain ⟨U', o, h1, r⟩ := k v _ hP vm0 k0 U _ X' hV (Nat.le_trans hk hle') hZ ho (Fr.app N N') rfl
  exact ⟨U', o, stp.trans h1, r⟩
/-- an instance method of an object whose class is known exactly -/
theorem r_callV {y z : MethodName} {K0 K1 : String} {bytes' : ByteArray} {maxL' : Nat} {ret' : Option FieldType} {rm : Room} {a : Addr} {as : List Value} {P : Option Value → Heap → Prop} {index W : Nat} {ps : List FieldType} {r0 : Option FieldType} (C : Cx p c meth bytes maxL ret nm)
    (w1 : (Jvm.Cond.methodLink own index y).before a0 Z = true) (w2 : (Jvm.Cond.declares y).before a0 Z = true) (w5 : (Jvm.Cond.selects K1 y y).before a0 Z = true) (w6 : (Jvm.Cond.selects K0 y z).before a0 Z = true) (w7 : (Jvm.Cond.instanceMethod z).before a0 Z = true) (w3 : (Jvm.Cond.initialized z.cls).before a0 Z = true) (w4 : (Jvm.Cond.code z bytes' maxL' ret').before a0 Z = true)
    (hy : y.cls ≠ "java/lang/invoke/MethodHandle" ∧ y.cls ≠ "java/lang/invoke/VarHandle") (hpd : parseMethodDescriptor y.desc = some ⟨ps, r0⟩) (hlen : as.length = ps.length) (hstk : st' = as.reverse ++ .ref a :: st) (hd : decode bytes pc = .ok (.invokevirtual index, 3)) (hp : pc + 3 = pc')
    (hsz : ls.size = maxL) (hW : (st.map fun v => v.category).sum ≤ W) (E : Exa Z h a K0) (K : Con l Z z bytes' maxL' ret' rm (.ref a :: as).toArray h n0 P) (hf : rm.frames + 1 ≤ R.frames) (hl : W + (maxL' + 11) + rm.locals ≤ R.locals) (hc : cells + rm.cells ≤ R.cells) (hs : slots + rm.slots ≤ R.slots)
    (k : ∀ v h', P v h' → Run p l e R s m args below meth c Z own V n0 G h' (cells + rm.cells) (slots + rm.slots) pc' ls (v.toList ++ st)) : Run p l e R s m args below meth c Z own V n0 G h cells slots pc ls st' := by
  subst hp hstk
  intro vm0 k0 T L X hV hk hZ ho N eT
  have hZ' : Z.Warmed39 (s.setVm vm0).vm := hZ
  obtain ⟨cq, kq, qa, qb, qc⟩ := isOf hZ' eT E
  have nf : NotFace (s.setVm vm0) y := notFace_of_selects (args := #[]) (mvT hZ' w5)
  obtain ⟨v, vm₁, B, hw, X', ⟨L', hQ, e1, e2, e3⟩, stp⟩ := X.virtualBack C.1 (y := y) (z := z) (own := own) ho (mvT hZ' w1) (mvT hZ' w2) nf (mvT hZ' w6) (mvT hZ' w7) hy
    (backOf (W := W) (Q := fun v h' L => P v h' ∧ Fr n0 L) (K []) hZ' w4 w3 hf hl) qa qc (g := mkF m pc ls (as.reverse ++ .ref a :: st)) rfl (by rw [C.2.2.1]; exact hsz) (Steps.refl _) (argsL := as) (rest := st) (lenOf hpd hlen) rfl (by simpa using hW) (hb C.2.1 hd) (fun _ _ => ⟨rfl, eT, hc, hs⟩)
  obtain ⟨hP, N'⟩ := hQ
  obtain ⟨U, L2, ce2, sl2⟩ := B
  dsimp only [Pt.U, Pt.locs, Pt.cells, Pt.slots] at X' e1 e2 e3 stp hP
  subst e1 e2 e3
  have hle := stp.heap_le
  have hle' : h.size ≤ U.heap.size := by rw [← eT]; exact hle
  obtain ⟨U', o, h1, r⟩ := k v _ hP vm0 k0 U _ X' hV (Nat.le_trans hk hle') hZ ho (Fr.app N N') rfl
  exact ⟨U', o, stp.trans h1, r⟩
theorem r_new {K0 : String} {index n : Nat} (C : Cx p c meth bytes maxL ret nm) (w1 : (Jvm.Cond.classLink own index K0).before a0 Z = true) (w2 : (Jvm.Cond.instantiable K0 n).before a0 Z = true) (w3 : (Jvm.Cond.initialized K0).before a0 Z = true) (hd : decode bytes pc = .ok (.new index, 3)) (hp : pc + 3 = pc') (hc : cells + 1 ≤ R.cells) (hs : slots + n ≤ R.slots)
    (k : ∀ (a : Addr) h', @Eq Nat a h.size → Keep h h' [] → Exa Z h' a K0 → (∀ {O nm d : String} {ty : FieldType}, Laid Z a0 K0 O nm d → parseFieldDescriptor d = some ty → Fld Z h' a O nm d (defaultValue ty)) → Run p l e R s m args below meth c Z own V n0 G h' (cells + 1) (slots + n) pc' ls (.ref a :: st)) : Run p l e R s m args below meth c Z own V n0 G h cells slots pc ls st := by
  subst hp
  intro vm0 k0 T L X hV hk hZ ho N eT
  have hZ' : Z.Warmed39 (s.setVm vm0).vm := hZ
  obtain ⟨T2, h2, X2, e2, E2, A2, D2, -, st2⟩ := newO X C.1 hZ' (own := own) ho w1 w2 w3 eT (g := mkF m pc ls st) rfl (hb C.2.1 hd) hc hs
  obtain ⟨U, o, h1, r⟩ := k _ h2 rfl ((Keep.refl h []).ext E2) A2 D2 vm0 k0 T2 L X2 hV (Nat.le_trans hk E2.1) hZ ho N e2
  exact ⟨U, o, st2 _ h1, r⟩
theorem r_getfield {R0 O n d : String} {host : String} {index : Nat} {a : Addr} {v : Value} (C : Cx p c meth bytes maxL ret nm) (w1 : (Jvm.Cond.fieldLink own index R0 n d).before a0 Z = true ∨ (Jvm.Cond.fieldLinkNest own index R0 n d host).before a0 Z = true) (via : Via Z R0 O n d) (hd : decode bytes pc = .ok (.getfield index, 3)) (hp : pc + 3 = pc') (F : Fld Z h a O n d v)
    (k : Run p l e R s m args below meth c Z own V n0 G h cells slots pc' ls (v :: st)) : Run p l e R s m args below meth c Z own V n0 G h cells slots pc ls (.ref a :: st) := by
  subst hp
  intro vm0 k0 T L X hV hk hZ ho N eT
  have hZ' : Z.Warmed39 (s.setVm vm0).vm := hZ
  obtain ⟨T2, X2, e2, st2⟩ := getF X C.1 hZ' (own := own) ho w1 via eT F (g := mkF m pc ls (.ref a :: st)) rfl rfl (hb C.2.1 hd)
  obtain ⟨U, o, h1, r⟩ := k vm0 k0 T2 L X2 hV hk hZ ho N e2
  exact ⟨U, o, st2 _ h1, r⟩
theorem r_putfield {R0 O n d K0 : String} {host : String} {index kk : Nat} {ty : FieldType} {a : Addr} {v old : Value} (C : Cx p c meth bytes maxL ret nm) (w1 : (Jvm.Cond.fieldLink own index R0 n d).before a0 Z = true ∨ (Jvm.Cond.fieldLinkNest own index R0 n d host).before a0 Z = true) (via : Via Z R0 O n d) (hL : (Jvm.Cond.lays K0 O n d).before a0 Z = true ∨ ((Jvm.Cond.laysFinal K0 O n d).before a0 Z = true ∧ own = O ∧ nm = "<init>")) (w2 : (Jvm.Cond.instantiable K0 kk).before a0 Z = true) (hty : parseFieldDescriptor d = some ty)
    (hd : decode bytes pc = .ok (.putfield index, 3)) (hp : pc + 3 = pc') (hn : narrow ty v = v) (hfi : fits ty v = true) (hge : n0 ≤ a) (F : Fld Z h a O n d old) (E : Exa Z h a K0)
    (k : ∀ h', Keep h h' [a] → Exa Z h' a K0 → Fld Z h' a O n d v → (∀ {O' n' d' : String} {w : Value} {t' : FieldType}, Laid Z a0 K0 O' n' d' → Laid Z a0 K0 O n d → n' ≠ n → parseFieldDescriptor d' = some t' → Fld Z h a O' n' d' w → Fld Z h' a O' n' d' w) → Run p l e R s m args below meth c Z own V n0 G h' cells slots pc' ls st) : Run p l e R s m args below meth c Z own V n0 G h cells slots pc ls (v :: .ref a :: st) := by
  subst hp
  intro vm0 k0 T L X hV hk hZ ho N eT
  have hZ' : Z.Warmed39 (s.setVm vm0).vm := hZ
  obtain ⟨T2, h2, X2, e2, W2, st2⟩ := putF X C.1 hZ' (own := own) ho w1 via eT F E (hL.imp id fun q => ⟨q.1, q.2.1, C.2.2.2.2.2.trans q.2.2⟩) w2 hty hn hfi (g := mkF m pc ls (v :: .ref a :: st)) rfl rfl (hb C.2.1 hd)
  obtain ⟨U, o, h1, r⟩ := k h2 (Keep.of_wr W2) (E.wr W2) (F.same W2) (fun L1 L2 hne ht F' => F'.other W2 (Or.inr (slot_ne L1 L2 hne ht hty))) vm0 k0 T2 _ X2 hV (by rw [W2.size]; exact hk) hZ ho (Fr.snoc X2 N hge) e2
  exact ⟨U, o, st2 _ h1, r⟩
theorem r_putfieldN {R0 O n d K0 : String} {index kk : Nat} {ty : FieldType} {a : Addr} {v v' old : Value} (C : Cx p c meth bytes maxL ret nm) (w1 : (Jvm.Cond.fieldLink own index R0 n d).before a0 Z = true) (via : Via Z R0 O n d) (hL : (Jvm.Cond.lays K0 O n d).before a0 Z = true ∨ ((Jvm.Cond.laysFinal K0 O n d).before a0 Z = true ∧ own = O ∧ nm = "<init>")) (w2 : (Jvm.Cond.instantiable K0 kk).before a0 Z = true) (hty : parseFieldDescriptor d = some ty)
    (hd : decode bytes pc = .ok (.putfield index, 3)) (hp : pc + 3 = pc') (hn : narrow ty v = v') (hfi : fits ty v' = true) (hge : n0 ≤ a) (F : Fld Z h a O n d old) (E : Exa Z h a K0)
    (k : ∀ h', Keep h h' [a] → Exa Z h' a K0 → Fld Z h' a O n d v' → (∀ {O' n' d' : String} {w : Value} {t' : FieldType}, Laid Z a0 K0 O' n' d' → Laid Z a0 K0 O n d → n' ≠ n → parseFieldDescriptor d' = some t' → Fld Z h a O' n' d' w → Fld Z h' a O' n' d' w) → Run p l e R s m args below meth c Z own V n0 G h' cells slots pc' ls st) : Run p l e R s m args below meth c Z own V n0 G h cells slots pc ls (v :: .ref a :: st) := by
  subst hp
  intro vm0 k0 T L X hV hk hZ ho N eT
  have hZ' : Z.Warmed39 (s.setVm vm0).vm := hZ
  obtain ⟨T2, h2, X2, e2, W2, st2⟩ := putFN X C.1 hZ' (own := own) ho w1 via eT F E (hL.imp id fun q => ⟨q.1, q.2.1, C.2.2.2.2.2.trans q.2.2⟩) w2 hty hn hfi (g := mkF m pc ls (v :: .ref a :: st)) rfl rfl (hb C.2.1 hd)
  obtain ⟨U, o, h1, r⟩ := k h2 (Keep.of_wr W2) (E.wr W2) (F.same W2) (fun L1 L2 hne ht F' => F'.other W2 (Or.inr (slot_ne L1 L2 hne ht hty))) vm0 k0 T2 _ X2 hV (by rw [W2.size]; exact hk) hZ ho (Fr.snoc X2 N hge) e2
  exact ⟨U, o, st2 _ h1, r⟩
theorem r_initO {index W : Nat} {a : Addr} (C : Cx p c meth bytes maxL ret nm) (w1 : (Jvm.Cond.methodLink own index Lib.objectInit).before a0 Z = true) (w2 : (Jvm.Cond.instanceMethod Lib.objectInit).before a0 Z = true) (w3 : (Jvm.Cond.code Lib.objectInit ⟨#[0xb1]⟩ 1 none).before a0 Z = true) (hd : decode bytes pc = .ok (.invokespecial index, 3)) (hp : pc + 3 = pc') (hsz : ls.size = maxL)
    (hf : 1 ≤ R.frames) (hW : (st.map fun v => v.category).sum ≤ W) (hl : W + 12 ≤ R.locals) (k : Run p l e R s m args below meth c Z own V n0 G h cells slots pc' ls st) : Run p l e R s m args below meth c Z own V n0 G h cells slots pc ls (.ref a :: st) := by
  subst hp
  intro vm0 k0 T L X hV hk hZ ho N eT
  have hZ' : Z.Warmed39 (s.setVm vm0).vm := hZ
  obtain ⟨T2, X2, e2, st2⟩ := initO X C.1 hZ' (own := own) ho w1 w2 w3 eT (g := mkF m pc ls (.ref a :: st)) rfl (by rw [C.2.2.1]; exact hsz) rfl (hb C.2.1 hd) hf (W := W) (by simpa using hW) hl
  obtain ⟨U, o, h1, r⟩ := k vm0 k0 T2 L X2 hV hk hZ ho N e2
  exact ⟨U, o, st2 _ h1, r⟩
theorem r_getstatic {R0 O n d host : String} {index : Nat} {v : Value} (C : Cx p c meth bytes maxL ret nm) (w1 : (Jvm.Cond.fieldLink own index R0 n d).before a0 Z = true) (via : Via Z R0 O n d) (hd : decode bytes pc = .ok (.getstatic index, 3)) (hp : pc + 3 = pc') (F : Sta Z h O n d v) (k : Run p l e R s m args below meth c Z own V n0 G h cells slots pc' ls (v :: st)) : Run p l e R s m args below meth c Z own V n0 G h cells slots pc ls st := by
  subst hp
  intro vm0 k0 T L X hV hk hZ ho N eT
  have hZ' : Z.Warmed39 (s.setVm vm0).vm := hZ
  obtain ⟨T2, X2, e2, st2⟩ := getS2 X C.1 hZ' (own := own) ho (host := "") (Or.inl w1) via eT F (g := mkF m pc ls st) rfl (hb C.2.1 hd)
  obtain ⟨U, o, h1, r⟩ := k vm0 k0 T2 L X2 hV hk hZ ho N e2
  exact ⟨U, o, st2 _ h1, r⟩
/-- the array at a: n places of kind ty, place j holds f j -/
def IA (Z : State) (h : Heap) (a : Addr) (ty : FieldType) (n : Nat) (f : Nat → Value) : Prop := ∃ cl : Cell, Arr Z h a cl ty ∧ cl.slots.size = n ∧ n < 2 ^ 31 ∧ ∀ j, j < n → cl.slots[j]? = some (f j)
theorem IA.lt {a : Addr} {ty : FieldType} {n : Nat} {f : Nat → Value} (A : IA Z h a ty n f) : a < h.size := by obtain ⟨cl, A, -⟩ := A; exact A.lt
theorem IA.keep {h' : Heap} {ws : List Addr} {a : Addr} {ty : FieldType} {n : Nat} {f : Nat → Value} (A : IA Z h a ty n f) (K : Keep h h' ws) (q : a ∉ ws) : IA Z h' a ty n f := by
  obtain ⟨cl, A, r⟩ := A
  exact ⟨cl, ⟨K.2.1 a cl A.1 q, A.2⟩, r⟩
theorem IA.congr {a : Addr} {ty : FieldType} {n : Nat} {f g : Nat → Value} (A : IA Z h a ty n f) (q : ∀ j, j < n → f j = g j) : IA Z h a ty n g := by
  obtain ⟨cl, A, r1, r2, r3⟩ := A
  exact ⟨cl, A, r1, r2, fun j hj => by rw [r3 j hj, q j hj]⟩
theorem tnn {j : Int32} {n : Nat} (h : j.toInt = (n : Int)) : ¬ j < 0 ∧ j.toNatClampNeg = n := by
  have h0 : ¬ j < 0 := nlt32.mpr (by rw [h]; show (0 : Int) ≤ _; omega)
  exact ⟨h0, by have := nat_of h0; omega⟩
theorem IA.set {h' : Heap} {a : Addr} {ty : FieldType} {n k : Nat} {f : Nat → Value} {v : Value} (A : IA Z h a ty n f) (W : Wr h h' a k v) : IA Z h' a ty n (fun j => if j = k then v else f j) := by
  obtain ⟨cl, A, r1, r2, r3⟩ := A
  refine ⟨cl.setSlot k v, A.same W, by rw [sz_set, r1], r2, fun j hj => ?_⟩
  show (cl.slots.setIfInBounds k v)[j]? = _
  rw [Array.getElem?_setIfInBounds]
  by_cases q : k = j
  · subst q; simp [r1, hj]
  · rw [if_neg q, r3 j hj]
    show some (f j) = some (if j = k then v else f j)
    rw [if_neg (fun z => q (Eq.symm z))]
theorem r_iaload {a : Addr} {n jn : Nat} {f : Nat → Int32} {j : Int32} {x : Int32} (C : Cx p c meth bytes maxL ret nm) (hd : decode bytes pc = .ok (.iaload, 1)) (hp : pc + 1 = pc') (A : IA Z h a .int n (fun i => .int (f i))) (hj : j.toInt = (jn : Int)) (hlt : jn < n) (hv : f jn = x) (k : Run p l e R s m args below meth c Z own V n0 G h cells slots pc' ls (.int x :: st)) : Run p l e R s m args below meth c Z own V n0 G h cells slots pc ls (.int j :: .ref a :: st) := by
  subst hp
  intro vm0 k0 T L X hV hk hZ ho N eT
  have hZ' : Z.Warmed39 (s.setVm vm0).vm := hZ
  obtain ⟨cl, A, r1, r2, r3⟩ := A
  obtain ⟨t1, t2⟩ := tnn hj
  obtain ⟨U, o, h1, r⟩ := k vm0 k0 T L X hV hk hZ ho N eT
  exact ⟨U, o, X.iaload C.1 (j := j) (v := .int x) (by rw [eT]; exact A.1) (State.isArrayOf_alike hZ'.alike A.2.1) A.2.2 (by rw [r1, t2]; exact fun q => q.elim t1 (Nat.not_le.mpr hlt)) (by rw [t2, r3 jn hlt, ← hv]) (g := mkF m pc ls (.int j :: .ref a :: st)) rfl rfl (hb C.2.1 hd) _ h1, r⟩
theorem r_laload {a : Addr} {n jn : Nat} {f : Nat → Int64} {j : Int32} {x : Int64} (C : Cx p c meth bytes maxL ret nm) (hd : decode bytes pc = .ok (.laload, 1)) (hp : pc + 1 = pc') (A : IA Z h a .long n (fun i => .long (f i))) (hj : j.toInt = (jn : Int)) (hlt : jn < n) (hv : f jn = x) (k : Run p l e R s m args below meth c Z own V n0 G h cells slots pc' ls (.long x :: st)) : Run p l e R s m args below meth c Z own V n0 G h cells slots pc ls (.int j :: .ref a :: st) := by
  subst hp
  intro vm0 k0 T L X hV hk hZ ho N eT
  have hZ' : Z.Warmed39 (s.setVm vm0).vm := hZ
  obtain ⟨cl, A, r1, r2, r3⟩ := A
  obtain ⟨t1, t2⟩ := tnn hj
  obtain ⟨U, o, h1, r⟩ := k vm0 k0 T L X hV hk hZ ho N eT
  exact ⟨U, o, X.laload C.1 (j := j) (v := .long x) (by rw [eT]; exact A.1) (State.isArrayOf_alike hZ'.alike A.2.1) A.2.2 (by rw [r1, t2]; exact fun q => q.elim t1 (Nat.not_le.mpr hlt)) (by rw [t2, r3 jn hlt, ← hv]) (g := mkF m pc ls (.int j :: .ref a :: st)) rfl rfl (hb C.2.1 hd) _ h1, r⟩
theorem r_caload {a : Addr} {n jn : Nat} {f : Nat → Int32} {j : Int32} {x : Int32} (C : Cx p c meth bytes maxL ret nm) (hd : decode bytes pc = .ok (.caload, 1)) (hp : pc + 1 = pc') (A : IA Z h a .char n (fun i => .int (f i))) (hj : j.toInt = (jn : Int)) (hlt : jn < n) (hv : f jn = x) (k : Run p l e R s m args below meth c Z own V n0 G h cells slots pc' ls (.int x :: st)) : Run p l e R s m args below meth c Z own V n0 G h cells slots pc ls (.int j :: .ref a :: st) := by
  subst hp
  intro vm0 k0 T L X hV hk hZ ho N eT
  have hZ' : Z.Warmed39 (s.setVm vm0).vm := hZ
  obtain ⟨cl, A, r1, r2, r3⟩ := A
  obtain ⟨t1, t2⟩ := tnn hj
  obtain ⟨U, o, h1, r⟩ := k vm0 k0 T L X hV hk hZ ho N eT
  exact ⟨U, o, X.caload C.1 (j := j) (v := .int x) (by rw [eT]; exact A.1) (State.isArrayOf_alike hZ'.alike A.2.1) A.2.2 (by rw [r1, t2]; exact fun q => q.elim t1 (Nat.not_le.mpr hlt)) (by rw [t2, r3 jn hlt, ← hv]) (g := mkF m pc ls (.int j :: .ref a :: st)) rfl rfl (hb C.2.1 hd) _ h1, r⟩
theorem r_baload {a : Addr} {n jn : Nat} {f : Nat → Int32} {j : Int32} {x : Int32} (C : Cx p c meth bytes maxL ret nm) (hd : decode bytes pc = .ok (.baload, 1)) (hp : pc + 1 = pc') (A : IA Z h a .byte n (fun i => .int (f i))) (hj : j.toInt = (jn : Int)) (hlt : jn < n) (hv : f jn = x) (k : Run p l e R s m args below meth c Z own V n0 G h cells slots pc' ls (.int x :: st)) : Run p l e R s m args below meth c Z own V n0 G h cells slots pc ls (.int j :: .ref a :: st) := by
  subst hp
  intro vm0 k0 T L X hV hk hZ ho N eT
  have hZ' : Z.Warmed39 (s.setVm vm0).vm := hZ
  obtain ⟨cl, A, r1, r2, r3⟩ := A
  obtain ⟨t1, t2⟩ := tnn hj
  obtain ⟨U, o, h1, r⟩ := k vm0 k0 T L X hV hk hZ ho N eT
  exact ⟨U, o, X.baloadBytes C.1 (j := j) (v := .int x) (by rw [eT]; exact A.1) (State.isArrayOf_alike hZ'.alike A.2.1) A.2.2 (by rw [r1, t2]; exact fun q => q.elim t1 (Nat.not_le.mpr hlt)) (by rw [t2, r3 jn hlt, ← hv]) (g := mkF m pc ls (.int j :: .ref a :: st)) rfl rfl (hb C.2.1 hd) _ h1, r⟩
theorem r_zaload {a : Addr} {n jn : Nat} {f : Nat → Int32} {j : Int32} {x : Int32} (C : Cx p c meth bytes maxL ret nm) (hd : decode bytes pc = .ok (.baload, 1)) (hp : pc + 1 = pc') (A : IA Z h a .boolean n (fun i => .int (f i))) (hj : j.toInt = (jn : Int)) (hlt : jn < n) (hv : f jn = x) (k : Run p l e R s m args below meth c Z own V n0 G h cells slots pc' ls (.int x :: st)) : Run p l e R s m args below meth c Z own V n0 G h cells slots pc ls (.int j :: .ref a :: st) := by
  subst hp
  intro vm0 k0 T L X hV hk hZ ho N eT
  have hZ' : Z.Warmed39 (s.setVm vm0).vm := hZ
  obtain ⟨cl, A, r1, r2, r3⟩ := A
  obtain ⟨t1, t2⟩ := tnn hj
  obtain ⟨U, o, h1, r⟩ := k vm0 k0 T L X hV hk hZ ho N eT
  exact ⟨U, o, X.baloadBooleans C.1 (j := j) (v := .int x) (by rw [eT]; exact A.1) (State.isArrayOf_alike hZ'.alike A.2.1) A.2.2 (by rw [r1, t2]; exact fun q => q.elim t1 (Nat.not_le.mpr hlt)) (by rw [t2, r3 jn hlt, ← hv]) (g := mkF m pc ls (.int j :: .ref a :: st)) rfl rfl (hb C.2.1 hd) _ h1, r⟩
theorem r_iastore {a : Addr} {n jn : Nat} {f : Nat → Int32} {j : Int32} {x : Int32} (C : Cx p c meth bytes maxL ret nm) (hd : decode bytes pc = .ok (.iastore, 1)) (hp : pc + 1 = pc') (A : IA Z h a .int n (fun i => .int (f i))) (hj : j.toInt = (jn : Int)) (hlt : jn < n) (hge : n0 ≤ a) (k : ∀ h', Keep h h' [a] → IA Z h' a .int n (fun i => .int (if i = jn then x else f i)) → Run p l e R s m args below meth c Z own V n0 G h' cells slots pc' ls st) : Run p l e R s m args below meth c Z own V n0 G h cells slots pc ls (.int x :: .int j :: .ref a :: st) := by
  subst hp
  intro vm0 k0 T L X hV hk hZ ho N eT
  have hZ' : Z.Warmed39 (s.setVm vm0).vm := hZ
  have A0 := A
  obtain ⟨cl, A, r1, r2, r3⟩ := A
  obtain ⟨t1, t2⟩ := tnn hj
  obtain ⟨T2, h2, X2, e2, W2, st2⟩ := stI X C.1 hZ' eT A (j := j) (x := x) (by rw [r1, t2]; exact fun q => q.elim t1 (Nat.not_le.mpr hlt)) (g := mkF m pc ls (.int x :: .int j :: .ref a :: st)) rfl rfl (hb C.2.1 hd)
  rw [t2] at W2
  obtain ⟨U, o, h1, r⟩ := k h2 (Keep.of_wr W2) ((A0.set W2).congr fun i _ => by by_cases q : i = jn <;> simp [q]) vm0 k0 T2 _ X2 hV (by rw [W2.size]; exact hk) hZ ho (Fr.snoc X2 N hge) e2
  exact ⟨U, o, st2 _ h1, r⟩
theorem r_lastore {a : Addr} {n jn : Nat} {f : Nat → Int64} {j : Int32} {x : Int64} (C : Cx p c meth bytes maxL ret nm) (hd : decode bytes pc = .ok (.lastore, 1)) (hp : pc + 1 = pc') (A : IA Z h a .long n (fun i => .long (f i))) (hj : j.toInt = (jn : Int)) (hlt : jn < n) (hge : n0 ≤ a) (k : ∀ h', Keep h h' [a] → IA Z h' a .long n (fun i => .long (if i = jn then x else f i)) → Run p l e R s m args below meth c Z own V n0 G h' cells slots pc' ls st) : Run p l e R s m args below meth c Z own V n0 G h cells slots pc ls (.long x :: .int j :: .ref a :: st) := by
  subst hp
  intro vm0 k0 T L X hV hk hZ ho N eT
  have hZ' : Z.Warmed39 (s.setVm vm0).vm := hZ
  have A0 := A
  obtain ⟨cl, A, r1, r2, r3⟩ := A
  obtain ⟨t1, t2⟩ := tnn hj
  obtain ⟨T2, h2, X2, e2, W2, st2⟩ := stJ X C.1 hZ' eT A (j := j) (x := x) (by rw [r1, t2]; exact fun q => q.elim t1 (Nat.not_le.mpr hlt)) (g := mkF m pc ls (.long x :: .int j :: .ref a :: st)) rfl rfl (hb C.2.1 hd)
  rw [t2] at W2
  obtain ⟨U, o, h1, r⟩ := k h2 (Keep.of_wr W2) ((A0.set W2).congr fun i _ => by by_cases q : i = jn <;> simp [q]) vm0 k0 T2 _ X2 hV (by rw [W2.size]; exact hk) hZ ho (Fr.snoc X2 N hge) e2
  exact ⟨U, o, st2 _ h1, r⟩
theorem r_castore {a : Addr} {n jn : Nat} {f : Nat → Int32} {j : Int32} {x : Int32} (C : Cx p c meth bytes maxL ret nm) (hd : decode bytes pc = .ok (.castore, 1)) (hp : pc + 1 = pc') (A : IA Z h a .char n (fun i => .int (f i))) (hj : j.toInt = (jn : Int)) (hlt : jn < n) (hge : n0 ≤ a) (k : ∀ h', Keep h h' [a] → IA Z h' a .char n (fun i => .int (if i = jn then (nar .char x) else f i)) → Run p l e R s m args below meth c Z own V n0 G h' cells slots pc' ls st) : Run p l e R s m args below meth c Z own V n0 G h cells slots pc ls (.int x :: .int j :: .ref a :: st) := by
  subst hp
  intro vm0 k0 T L X hV hk hZ ho N eT
  have hZ' : Z.Warmed39 (s.setVm vm0).vm := hZ
  have A0 := A
  obtain ⟨cl, A, r1, r2, r3⟩ := A
  obtain ⟨t1, t2⟩ := tnn hj
  obtain ⟨T2, h2, X2, e2, W2, st2⟩ := stC X C.1 hZ' eT A (j := j) (x := x) (by rw [r1, t2]; exact fun q => q.elim t1 (Nat.not_le.mpr hlt)) (g := mkF m pc ls (.int x :: .int j :: .ref a :: st)) rfl rfl (hb C.2.1 hd)
  rw [t2] at W2
  obtain ⟨U, o, h1, r⟩ := k h2 (Keep.of_wr W2) ((A0.set W2).congr fun i _ => by by_cases q : i = jn <;> simp [q]) vm0 k0 T2 _ X2 hV (by rw [W2.size]; exact hk) hZ ho (Fr.snoc X2 N hge) e2
  exact ⟨U, o, st2 _ h1, r⟩
theorem r_bastore {a : Addr} {n jn : Nat} {f : Nat → Int32} {j : Int32} {x : Int32} (C : Cx p c meth bytes maxL ret nm) (hd : decode bytes pc = .ok (.bastore, 1)) (hp : pc + 1 = pc') (A : IA Z h a .byte n (fun i => .int (f i))) (hj : j.toInt = (jn : Int)) (hlt : jn < n) (hge : n0 ≤ a) (k : ∀ h', Keep h h' [a] → IA Z h' a .byte n (fun i => .int (if i = jn then (nar .byte x) else f i)) → Run p l e R s m args below meth c Z own V n0 G h' cells slots pc' ls st) : Run p l e R s m args below meth c Z own V n0 G h cells slots pc ls (.int x :: .int j :: .ref a :: st) := by
  subst hp
  intro vm0 k0 T L X hV hk hZ ho N eT
  have hZ' : Z.Warmed39 (s.setVm vm0).vm := hZ
  have A0 := A
  obtain ⟨cl, A, r1, r2, r3⟩ := A
  obtain ⟨t1, t2⟩ := tnn hj
  obtain ⟨T2, h2, X2, e2, W2, st2⟩ := stB X C.1 hZ' eT A (j := j) (x := x) (by rw [r1, t2]; exact fun q => q.elim t1 (Nat.not_le.mpr hlt)) (g := mkF m pc ls (.int x :: .int j :: .ref a :: st)) rfl rfl (hb C.2.1 hd)
  rw [t2] at W2
  obtain ⟨U, o, h1, r⟩ := k h2 (Keep.of_wr W2) ((A0.set W2).congr fun i _ => by by_cases q : i = jn <;> simp [q]) vm0 k0 T2 _ X2 hV (by rw [W2.size]; exact hk) hZ ho (Fr.snoc X2 N hge) e2
  exact ⟨U, o, st2 _ h1, r⟩
theorem r_zastore {a : Addr} {n jn : Nat} {f : Nat → Int32} {j : Int32} {x : Int32} (C : Cx p c meth bytes maxL ret nm) (hd : decode bytes pc = .ok (.bastore, 1)) (hp : pc + 1 = pc') (A : IA Z h a .boolean n (fun i => .int (f i))) (hj : j.toInt = (jn : Int)) (hlt : jn < n) (hge : n0 ≤ a) (k : ∀ h', Keep h h' [a] → IA Z h' a .boolean n (fun i => .int (if i = jn then (nar .boolean x) else f i)) → Run p l e R s m args below meth c Z own V n0 G h' cells slots pc' ls st) : Run p l e R s m args below meth c Z own V n0 G h cells slots pc ls (.int x :: .int j :: .ref a :: st) := by
  subst hp
  intro vm0 k0 T L X hV hk hZ ho N eT
  have hZ' : Z.Warmed39 (s.setVm vm0).vm := hZ
  have A0 := A
  obtain ⟨cl, A, r1, r2, r3⟩ := A
  obtain ⟨t1, t2⟩ := tnn hj
  obtain ⟨T2, h2, X2, e2, W2, st2⟩ := stZ X C.1 hZ' eT A (j := j) (x := x) (by rw [r1, t2]; exact fun q => q.elim t1 (Nat.not_le.mpr hlt)) (g := mkF m pc ls (.int x :: .int j :: .ref a :: st)) rfl rfl (hb C.2.1 hd)
  rw [t2] at W2
  obtain ⟨U, o, h1, r⟩ := k h2 (Keep.of_wr W2) ((A0.set W2).congr fun i _ => by by_cases q : i = jn <;> simp [q]) vm0 k0 T2 _ X2 hV (by rw [W2.size]; exact hk) hZ ho (Fr.snoc X2 N hge) e2
  exact ⟨U, o, st2 _ h1, r⟩
theorem r_arraylength {a : Addr} {ty : FieldType} {n : Nat} {f : Nat → Value} {z : Int32} (C : Cx p c meth bytes maxL ret nm) (hd : decode bytes pc = .ok (.arraylength, 1)) (hp : pc + 1 = pc') (A : IA Z h a ty n f) (hz : z.toInt = (n : Int)) (k : Run p l e R s m args below meth c Z own V n0 G h cells slots pc' ls (.int z :: st)) : Run p l e R s m args below meth c Z own V n0 G h cells slots pc ls (.ref a :: st) := by
  subst hp
  intro vm0 k0 T L X hV hk hZ ho N eT
  have hZ' : Z.Warmed39 (s.setVm vm0).vm := hZ
  obtain ⟨cl, A, r1, r2, r3⟩ := A
  obtain ⟨t1, t2⟩ := tnn hz
  obtain ⟨U, o, h1, r⟩ := k vm0 k0 T L X hV hk hZ ho N eT
  have q : cl.slots.size.toInt32 = z := len_of (by rw [r1, t2]) t1
  exact ⟨U, o, X.arraylength C.1 (by rw [eT]; exact A.1) (State.isArrayOf_alike hZ'.alike A.2.1) (g := mkF m pc ls (.ref a :: st)) rfl rfl (hb C.2.1 hd) _ (by rw [q]; exact h1), r⟩
theorem r_newarray {aty : ArrayType} {ty : FieldType} {dv : Value} (hdv : defaultValue ty = dv) {z : Int32} {n cap : Nat} (C : Cx p c meth bytes maxL ret nm) (w1 : (Jvm.Cond.arrayClass ty).before a0 Z = true) (hty : newarray.typeOf aty = ty) (hd : decode bytes pc = .ok (.newarray aty, 2)) (hp : pc + 2 = pc') (hz : z.toInt = (n : Int)) (hcap : n ≤ cap) (hbg : cap * 8 ≤ 536870912) (hc : cells + 1 ≤ R.cells) (hs : slots + cap ≤ R.slots)
    (k : ∀ (a : Addr) h', @Eq Nat a h.size → Keep h h' [] → IA Z h' a ty n (fun _ => dv) → Run p l e R s m args below meth c Z own V n0 G h' (cells + 1) (slots + cap) pc' ls (.ref a :: st)) : Run p l e R s m args below meth c Z own V n0 G h cells slots pc ls (.int z :: st) := by
  subst hp hty hdv
  intro vm0 k0 T L X hV hk hZ ho N eT
  have hZ' : Z.Warmed39 (s.setVm vm0).vm := hZ
  obtain ⟨t1, t2⟩ := tnn hz
  obtain ⟨T2, h2, k2, X2, e2, E2, A2, st2⟩ := newP X C.1 hZ' w1 eT (g := mkF m pc ls (.int z :: st)) rfl (hb C.2.1 hd) rfl t1 (cap := cap) (by rw [t2]; exact hcap) hbg hc hs
  obtain ⟨U, o, h1, r⟩ := k _ h2 rfl ((Keep.refl h []).ext E2) ⟨_, A2, by rw [sz_new, t2], by have := rng32 z; omega, fun j hj => by simp [newA, t2, hj]⟩ vm0 k0 T2 L X2 hV (Nat.le_trans hk E2.1) hZ ho N e2
  exact ⟨U, o, st2 _ h1, r⟩
theorem Run.mono {ce sl : Nat} (k : Run p l e R s m args below meth c Z own V n0 G h ce sl pc ls st) (h1 : cells ≤ ce) (h2 : slots ≤ sl) : Run p l e R s m args below meth c Z own V n0 G h cells slots pc ls st :=
  fun vm0 k0 T L X => k vm0 k0 T L (X.mono h1 h2)
/-- where roads join: the goal from the join on, said once -/
theorem join {α : Type} (Φ : α → Prop) (hJ : α → Heap) (ce sl pcJ : Nat) (lsJ : α → Array Slot) (stJ : α → List Value) (j : ∀ x, Φ x → Run p l e R s m args below meth c Z own V n0 G (hJ x) ce sl pcJ (lsJ x) (stJ x)) (k : (∀ x, Φ x → Run p l e R s m args below meth c Z own V n0 G (hJ x) ce sl pcJ (lsJ x) (stJ x)) → Run p l e R s m args below meth c Z own V n0 G h cells slots pc ls st) : Run p l e R s m args below meth c Z own V n0 G h cells slots pc ls st := k j
/-- a loop: by a measure -/
theorem loop {α : Type} (μ : α → Nat) (Φ : α → Prop) (hJ : α → Heap) (ce sl pcJ : Nat) (lsJ : α → Array Slot) (stJ : α → List Value)
    (body : ∀ x, Φ x → (∀ x', Φ x' → μ x' < μ x → Run p l e R s m args below meth c Z own V n0 G (hJ x') ce sl pcJ (lsJ x') (stJ x')) → Run p l e R s m args below meth c Z own V n0 G (hJ x) ce sl pcJ (lsJ x) (stJ x)) (k : (∀ x, Φ x → Run p l e R s m args below meth c Z own V n0 G (hJ x) ce sl pcJ (lsJ x) (stJ x)) → Run p l e R s m args below meth c Z own V n0 G h cells slots pc ls st) : Run p l e R s m args below meth c Z own V n0 G h cells slots pc ls st := by
  refine k ?_
  have H : ∀ n x, μ x < n → Φ x → Run p l e R s m args below meth c Z own V n0 G (hJ x) ce sl pcJ (lsJ x) (stJ x) := by
    intro n
    induction n with
    | zero => intro x hx; omega
    | succ n ih => intro x hx hp; exact body x hp fun x' hp' hlt => ih x' (by omega) hp'
  exact fun x hp => H _ x (Nat.lt_succ_self _) hp
theorem xadd64 {x y : Int64} (h1 : -4611686018427387904 ≤ x.toInt + y.toInt) (h2 : x.toInt + y.toInt ≤ 4611686018427387904) : (x + y).toInt = x.toInt + y.toInt := by
  have h3 := c_ladd x y
  have h4 := rng64 (x + y)
  omega
theorem xsub64 {x y : Int64} (h1 : -4611686018427387904 ≤ x.toInt - y.toInt) (h2 : x.toInt - y.toInt ≤ 4611686018427387904) : (x - y).toInt = x.toInt - y.toInt := by
  have h3 := c_lsub x y
  have h4 := rng64 (x - y)
  omega
theorem xmul64 {x c : Int64} {k : Int} (hc : c.toInt = k) (h1 : -4611686018427387904 ≤ x.toInt * k) (h2 : x.toInt * k ≤ 4611686018427387904) : (x * c).toInt = x.toInt * k := by
  have h3 := c_lmul x c
  rw [hc] at h3
  have h4 := rng64 (x * c)
  generalize x.toInt * k = P at *
  omega
theorem xadd32 {x y : Int32} (h1 : -2147483648 ≤ x.toInt + y.toInt) (h2 : x.toInt + y.toInt < 2147483648) : (x + y).toInt = x.toInt + y.toInt := by
  have h3 := c_iadd x y
  have h4 := rng32 (x + y)
  omega
theorem xsub32 {x y : Int32} (h1 : -2147483648 ≤ x.toInt - y.toInt) (h2 : x.toInt - y.toInt < 2147483648) : (x - y).toInt = x.toInt - y.toInt := by
  have h3 := c_isub x y
  have h4 := rng32 (x - y)
  omega
theorem xl2i {x : Int64} (h1 : -2147483648 ≤ x.toInt) (h2 : x.toInt < 2147483648) : x.toInt32.toInt = x.toInt := by
  have h3 := c_l2i x
  have h4 := rng32 x.toInt32
  omega
end Kit
section Facts
theorem t0 {Z : State} {a0 : Array Value} (hw : ∀ d ∈ tables_1, d.before a0 Z = true) : (Jvm.Cond.arrayClass Jvm.ClassFile.FieldType.byte).before a0 Z = true := hw _ (List.mem_of_getElem? (i := 0) rfl)
theorem t1 {Z : State} {a0 : Array Value} (hw : ∀ d ∈ tables_1, d.before a0 Z = true) : (Jvm.Cond.methodLink "com/example/key_to_node/keytonode/Fnv1aHash32PinLaw" (7 : Nat) ({ cls := "com/example/key_to_node/keytonode/Fnv1a", name := "hash32", desc := "([B)I" } : Jvm.MethodName)).before a0 Z = true := hw _ (List.mem_of_getElem? (i := 1) rfl)
theorem t2 {Z : State} {a0 : Array Value} (hw : ∀ d ∈ tables_1, d.before a0 Z = true) : (Jvm.Cond.static ({ cls := "com/example/key_to_node/keytonode/Fnv1a", name := "hash32", desc := "([B)I" } : Jvm.MethodName)).before a0 Z = true := hw _ (List.mem_of_getElem? (i := 2) rfl)
theorem t3 {Z : State} {a0 : Array Value} (hw : ∀ d ∈ tables_1, d.before a0 Z = true) : (Jvm.Cond.initialized "com/example/key_to_node/keytonode/Fnv1a").before a0 Z = true := hw _ (List.mem_of_getElem? (i := 3) rfl)
theorem t4 {Z : State} {a0 : Array Value} (hw : ∀ d ∈ tables_1, d.before a0 Z = true) : (Jvm.Cond.code ({ cls := "com/example/key_to_node/keytonode/Fnv1a", name := "hash32", desc := "([B)I" } : Jvm.MethodName) prog_5_method_2_code (6 : Nat) (Option.some Jvm.ClassFile.FieldType.int)).before a0 Z = true := hw _ (List.mem_of_getElem? (i := 4) rfl)
theorem t5 {Z : State} {a0 : Array Value} (hw : ∀ d ∈ tables_1, d.before a0 Z = true) : (Jvm.Cond.constant "com/example/key_to_node/keytonode/Fnv1a" (9 : Nat) (-2128831035 : Int32)).before a0 Z = true := hw _ (List.mem_of_getElem? (i := 5) rfl)
theorem t6 {Z : State} {a0 : Array Value} (hw : ∀ d ∈ tables_1, d.before a0 Z = true) : (Jvm.Cond.constant "com/example/key_to_node/keytonode/Fnv1a" (10 : Nat) (16777619 : Int32)).before a0 Z = true := hw _ (List.mem_of_getElem? (i := 6) rfl)
theorem t7 {Z : State} {a0 : Array Value} (hw : ∀ d ∈ tables_1, d.before a0 Z = true) : (Jvm.Cond.constant "com/example/key_to_node/keytonode/Fnv1aHash32PinLaw" (13 : Nat) (-2128831035 : Int32)).before a0 Z = true := hw _ (List.mem_of_getElem? (i := 7) rfl)
theorem t8 {Z : State} {a0 : Array Value} (hw : ∀ d ∈ tables_1, d.before a0 Z = true) : (Jvm.Cond.constant "com/example/key_to_node/keytonode/Fnv1aHash32PinLaw" (14 : Nat) (-468965076 : Int32)).before a0 Z = true := hw _ (List.mem_of_getElem? (i := 8) rfl)
theorem t9 {Z : State} {a0 : Array Value} (hw : ∀ d ∈ tables_1, d.before a0 Z = true) : (Jvm.Cond.constant "com/example/key_to_node/keytonode/Fnv1aHash32PinLaw" (15 : Nat) (16777619 : Int32)).before a0 Z = true := hw _ (List.mem_of_getElem? (i := 9) rfl)
theorem d1_0 : decode prog_5_method_2_code 0 = .ok (.ldc 9, 2) := by decide +kernel
theorem d1_2 : decode prog_5_method_2_code 2 = .ok (.istore_n 1, 1) := by decide +kernel
theorem d1_3 : decode prog_5_method_2_code 3 = .ok (.aload_n 0, 1) := by decide +kernel
theorem d1_4 : decode prog_5_method_2_code 4 = .ok (.astore_n 2, 1) := by decide +kernel
theorem d1_5 : decode prog_5_method_2_code 5 = .ok (.aload_n 2, 1) := by decide +kernel
theorem d1_6 : decode prog_5_method_2_code 6 = .ok (.arraylength, 1) := by decide +kernel
theorem d1_7 : decode prog_5_method_2_code 7 = .ok (.istore_n 3, 1) := by decide +kernel
theorem d1_8 : decode prog_5_method_2_code 8 = .ok (.iconst 0, 1) := by decide +kernel
theorem d1_9 : decode prog_5_method_2_code 9 = .ok (.istore 4, 2) := by decide +kernel
theorem d1_11 : decode prog_5_method_2_code 11 = .ok (.iload 4, 2) := by decide +kernel
theorem d1_13 : decode prog_5_method_2_code 13 = .ok (.iload_n 3, 1) := by decide +kernel
theorem d1_14 : decode prog_5_method_2_code 14 = .ok (.if_icmp .ge 27, 3) := by decide +kernel
theorem d1_41 : decode prog_5_method_2_code 41 = .ok (.iload_n 1, 1) := by decide +kernel
theorem d1_42 : decode prog_5_method_2_code 42 = .ok (.ireturn, 1) := by decide +kernel
theorem d1_17 : decode prog_5_method_2_code 17 = .ok (.aload_n 2, 1) := by decide +kernel
theorem d1_18 : decode prog_5_method_2_code 18 = .ok (.iload 4, 2) := by decide +kernel
theorem d1_20 : decode prog_5_method_2_code 20 = .ok (.baload, 1) := by decide +kernel
theorem d1_21 : decode prog_5_method_2_code 21 = .ok (.istore 5, 2) := by decide +kernel
theorem d1_23 : decode prog_5_method_2_code 23 = .ok (.iload_n 1, 1) := by decide +kernel
theorem d1_24 : decode prog_5_method_2_code 24 = .ok (.iload 5, 2) := by decide +kernel
theorem d1_26 : decode prog_5_method_2_code 26 = .ok (.sipush 255, 3) := by decide +kernel
theorem d1_29 : decode prog_5_method_2_code 29 = .ok (.iand, 1) := by decide +kernel
theorem d1_30 : decode prog_5_method_2_code 30 = .ok (.ixor, 1) := by decide +kernel
theorem d1_31 : decode prog_5_method_2_code 31 = .ok (.ldc 10, 2) := by decide +kernel
theorem d1_33 : decode prog_5_method_2_code 33 = .ok (.imul, 1) := by decide +kernel
theorem d1_34 : decode prog_5_method_2_code 34 = .ok (.istore_n 1, 1) := by decide +kernel
theorem d1_35 : decode prog_5_method_2_code 35 = .ok (.iinc 4 1, 3) := by decide +kernel
theorem d1_38 : decode prog_5_method_2_code 38 = .ok (.goto (-27), 3) := by decide +kernel
theorem pd0 : parseMethodDescriptor "([B)I" = some ⟨[(.array .byte)], some .int⟩ := by decide +kernel
theorem pn0 : plainName "com/example/key_to_node/keytonode/Fnv1a" = true := by first | (simp [plainName, overriddenIn]; done) | decide +kernel
theorem pn1 : plainName "com/example/key_to_node/keytonode/Fnv1aHash32PinLaw" = true := by first | (simp [plainName, overriddenIn]; done) | decide +kernel
end Facts

theorem own_n (s : Int32) : ∃ k : Nat, (s &&& 3).toInt = (k : Int) ∧ k ≤ 3 := by
  have h1 := c_mask s 3 2 (by decide) (by decide)
  have h6 : ((2 ^ 2 : Nat) : Int) = 4 := by decide
  rw [h6] at h1
  refine ⟨(s &&& 3).toInt.toNat, ?_, ?_⟩ <;> omega
theorem own_nb (x : Int32) : nar .byte (x.toInt8.toInt32) = x.toInt8.toInt32 := by
  apply Int32.toInt_inj.mp
  have h1 := c_i2b x
  have h2 := c_i2b (x.toInt8.toInt32)
  show (x.toInt8.toInt32).toInt8.toInt32.toInt = _
  omega
theorem own_b255 (x : Int32) : x.toInt8.toInt32 &&& 255 = x &&& 255 := by
  apply Int32.toInt_inj.mp
  have h1 := c_i2b x
  have h2 := c_mask (x.toInt8.toInt32) 255 8 (by decide) (by decide)
  have h4 := c_mask x 255 8 (by decide) (by decide)
  have h3 : ((2 ^ 8 : Nat) : Int) = 256 := by decide
  rw [h3] at h2 h4
  omega
theorem own_add1 {x : Int32} {k : Nat} (h : x.toInt = (k : Int)) (h1 : k < 100) : (x + 1).toInt = ((k + 1 : Nat) : Int) := by
  have h2 := c_iadd x 1
  have h3 : ((1 : Int32)).toInt = 1 := by decide
  rw [h3] at h2
  have h4 := rng32 (x + 1)
  omega
def own_h (f : Nat → Int32) : Nat → Int32
  | 0 => -2128831035
  | n + 1 => (own_h f n ^^^ (f n &&& 255)) * 16777619
theorem own_hc {f g : Nat → Int32} : ∀ n, (∀ i, i < n → f i = g i) → own_h f n = own_h g n
  | 0, _ => rfl
  | n + 1, h => by
    show (own_h f n ^^^ (f n &&& 255)) * 16777619 = (own_h g n ^^^ (g n &&& 255)) * 16777619
    rw [own_hc n (fun i hi => h i (by omega)), h n (by omega)]
theorem own_st {a : Addr} {h n i v : Int32} {s : Slot} (hs : One s) : storeLocals #[.val (.ref a), .val (.int h), .val (.ref a), .val (.int n), .val (.int i), s] 5 (.int v) = some #[.val (.ref a), .val (.int h), .val (.ref a), .val (.int n), .val (.int i), .val (.int v)] := by
  rcases hs with rfl | ⟨w, rfl, hw⟩
  · rfl
  · cases w <;> first | rfl | (simp [Value.category] at hw)

set_option maxRecDepth 65536 in
set_option maxHeartbeats 40000000 in
theorem rm1 (l : Launch) (Z : State) (a0 : Array Value) (hw : ∀ d ∈ tables_1, d.before a0 Z = true) (ar : Addr) (k : Nat) (f : Nat → Int32) (h0 : Heap) (n0 : Nat) (A_ar : IA Z h0 ar .byte k (fun i => .int (f i))) (hk4 : k ≤ 4) :
    Con l Z (⟨"com/example/key_to_node/keytonode/Fnv1a", "hash32", "([B)I"⟩ : MethodName) prog_5_method_2_code 6 (some .int) ({ frames := 0, cells := 0, slots := 0, locals := 0 } : Room) #[(.ref ar)] h0 n0 (fun v h => v = some (.int (own_h f k)) ∧ h0 = h) := by
  refine Con.of_body (plainFor_of_name pn0) #[.val (.ref ar), .unset, .unset, .unset, .unset, .unset] (fun m => by first | (simp [entryFrame, mkF, argsToLocals, Value.category, maxLocals]; done) | rfl) ?_
  intro p e s m below meth c C
  obtain ⟨kk, hkk⟩ : ∃ z : Int32, z.toInt = (k : Int) := ⟨k.toInt32, len_toInt (by omega)⟩
  refine r_ldc C (t5 hw) d1_0 (pc' := 2) rfl ?_
  refine r_istore_n C d1_2 (pc' := 3) rfl (ls' := #[.val (.ref ar), .val (.int ((-2128831035) : Int32)), .unset, .unset, .unset, .unset]) rfl ?_
  refine r_aload_n C d1_3 (pc' := 4) rfl rfl rfl ?_
  refine r_astore_n C d1_4 (pc' := 5) rfl rfl (ls' := #[.val (.ref ar), .val (.int ((-2128831035) : Int32)), .val (.ref ar), .unset, .unset, .unset]) rfl ?_
  refine r_aload_n C d1_5 (pc' := 6) rfl rfl rfl ?_
  refine r_arraylength C d1_6 (pc' := 7) rfl A_ar (z := kk) hkk ?_
  refine r_istore_n C d1_7 (pc' := 8) rfl (ls' := #[.val (.ref ar), .val (.int ((-2128831035) : Int32)), .val (.ref ar), .val (.int kk), .unset, .unset]) rfl ?_
  refine r_iconst C d1_8 (pc' := 9) rfl (z := (0 : Int32)) rfl ?_
  refine r_istore C d1_9 (pc' := 11) rfl (ls' := #[.val (.ref ar), .val (.int ((-2128831035) : Int32)), .val (.ref ar), .val (.int kk), .val (.int (0 : Int32)), .unset]) rfl ?_
  refine loop (α := Int32 × Nat × Slot) (fun jq => k - jq.2.1) (fun jq => jq.1.toInt = (jq.2.1 : Int) ∧ jq.2.1 ≤ k ∧ One jq.2.2) (fun jq => h0) 0 0 11 (fun jq => #[.val (.ref ar), .val (.int (own_h f jq.2.1)), .val (.ref ar), .val (.int kk), .val (.int jq.1), jq.2.2]) (fun jq => []) ?_ ?_
  rotate_left
  · intro LP
    exact LP (0, 0, .unset) ⟨rfl, Nat.zero_le _, One.u⟩
  rintro ⟨ii, i, s5⟩ ⟨hi, hik, hs5⟩ IH
  dsimp only at hi hik hs5 IH ⊢
  show Run _ _ _ _ _ _ _ _ _ _ _ _ _ _ _ h0 0 0 11 #[.val (.ref ar), .val (.int (own_h f i)), .val (.ref ar), .val (.int kk), .val (.int ii), s5] []
  refine r_iload C d1_11 (pc' := 13) rfl rfl ?_
  refine r_iload_n C d1_13 (pc' := 14) rfl rfl ?_
  refine r_icmpge C d1_14 (pcT := 41) (pcF := 17) (by decide) rfl ?_ ?_
  · intro c14
    rw [hi, hkk] at c14
    obtain rfl : i = k := by omega
    refine r_iload_n C d1_41 (pc' := 42) rfl rfl ?_
    exact r_ireturn C d1_42 ⟨rfl, rfl⟩ (by decide) (by decide)
  · intro c14
    rw [hi, hkk] at c14
    refine r_aload_n C d1_17 (pc' := 18) rfl rfl rfl ?_
    refine r_iload C d1_18 (pc' := 20) rfl rfl ?_
    refine r_baload C d1_20 (pc' := 21) rfl A_ar (jn := i) hi (by omega) (x := (f i)) rfl ?_
    refine r_istore C d1_21 (pc' := 23) rfl (ls' := #[.val (.ref ar), .val (.int (own_h f i)), .val (.ref ar), .val (.int kk), .val (.int ii), .val (.int (f i))]) (own_st hs5) ?_
    refine r_iload_n C d1_23 (pc' := 24) rfl rfl ?_
    refine r_iload C d1_24 (pc' := 26) rfl rfl ?_
    refine r_sipush C d1_26 (pc' := 29) rfl (z := (255 : Int32)) rfl ?_
    refine r_iand C d1_29 (pc' := 30) rfl (z := ((f i) &&& (255 : Int32))) rfl ?_
    refine r_ixor C d1_30 (pc' := 31) rfl (z := ((own_h f i) ^^^ ((f i) &&& (255 : Int32)))) rfl ?_
    refine r_ldc C (t6 hw) d1_31 (pc' := 33) rfl ?_
    refine r_imul C d1_33 (pc' := 34) rfl (z := (own_h f (i + 1))) rfl ?_
    refine r_istore_n C d1_34 (pc' := 35) rfl (ls' := #[.val (.ref ar), .val (.int (own_h f (i + 1))), .val (.ref ar), .val (.int kk), .val (.int ii), .val (.int (f i))]) rfl ?_
    refine r_iinc C d1_35 (pc' := 38) rfl rfl (z := (ii + (1 : Int32))) rfl (ls' := #[.val (.ref ar), .val (.int (own_h f (i + 1))), .val (.ref ar), .val (.int kk), .val (.int (ii + (1 : Int32))), .val (.int (f i))]) rfl ?_
    refine r_goto C d1_38 (pc' := 11) (by decide) ?_
    exact IH (ii + 1, i + 1, _) ⟨own_add1 hi (by omega), by dsimp only; omega, One.val rfl⟩ (by dsimp only; omega)
set_option maxRecDepth 65536 in
set_option maxHeartbeats 40000000 in
theorem rm0 (l : Launch) (Z : State) (a0 : Array Value) (hw : ∀ d ∈ tables_1, d.before a0 Z = true) (le : Int32) (b0 : Int32) (b1 : Int32) (b2 : Int32) (ex : Int32) (h0 : Heap) (n0 : Nat) (Z0 : n0 ≤ h0.size) :
    Con l Z x code maxLocals ret room_1 #[(.int le), (.int b0), (.int b1), (.int b2), (.int ex)] h0 n0 (fun v h => v = some (.int 1)) := by
  refine Con.of_body (plainFor_of_name pn1) #[.val (.int le), .val (.int b0), .val (.int b1), .val (.int b2), .val (.int ex), .unset, .unset, .unset, .unset, .unset, .unset, .unset, .unset, .unset, .unset, .unset, .unset, .unset] (fun m => by first | (simp [entryFrame, mkF, argsToLocals, Value.category, maxLocals]; done) | rfl) ?_
  intro p e s m below meth c C
  obtain ⟨k, hk, hk3⟩ := own_n le
  obtain ⟨nn, hnn⟩ : ∃ q : Int32, le &&& 3 = q := ⟨_, rfl⟩
  rw [hnn] at hk
  have hk1 := own_add1 hk (by omega)
  refine r_iload_n C at_0 (pc' := 1) rfl rfl ?_
  refine r_iconst C at_1 (pc' := 2) rfl (z := (3 : Int32)) rfl ?_
  refine r_iand C at_2 (pc' := 3) rfl (z := nn) hnn ?_
  refine r_istore C at_3 (pc' := 5) rfl (ls' := #[.val (.int le), .val (.int b0), .val (.int b1), .val (.int b2), .val (.int ex), .val (.int nn), .unset, .unset, .unset, .unset, .unset, .unset, .unset, .unset, .unset, .unset, .unset, .unset]) rfl ?_
  refine r_iload C at_5 (pc' := 7) rfl rfl ?_
  refine r_newarray (ty := .byte) (dv := (.int (0 : Int32))) rfl (n := k) (cap := 3) C (t0 hw) rfl at_7 (pc' := 9) rfl hk hk3 (by decide) (by decide) (by decide) ?_
  intro sh h1 ha_sh K1 A_sh
  have ge_sh : n0 ≤ sh := Nat.le_trans Z0 (Nat.le_of_eq (Eq.symm ha_sh))
  have Z0 := Nat.le_trans Z0 K1.1
  have A_sh : IA Z h1 sh .byte k (fun i => .int ((fun _ => (0 : Int32)) i)) := A_sh
  refine r_astore C at_9 (pc' := 11) rfl rfl (ls' := #[.val (.int le), .val (.int b0), .val (.int b1), .val (.int b2), .val (.int ex), .val (.int nn), .val (.ref sh), .unset, .unset, .unset, .unset, .unset, .unset, .unset, .unset, .unset, .unset, .unset]) rfl ?_
  refine r_iload C at_11 (pc' := 13) rfl rfl ?_
  refine r_iconst C at_13 (pc' := 14) rfl (z := (1 : Int32)) rfl ?_
  refine r_iadd C at_14 (pc' := 15) rfl (z := (nn + (1 : Int32))) rfl ?_
  refine r_newarray (ty := .byte) (dv := (.int (0 : Int32))) rfl (n := (k + 1)) (cap := 4) C (t0 hw) rfl at_15 (pc' := 17) rfl hk1 (by omega) (by decide) (by decide) (by decide) ?_
  intro lo h2 ha_lo K2 A_lo
  have ne_sh_lo : sh ≠ lo := Nat.ne_of_lt (Nat.lt_of_lt_of_le A_sh.lt (Nat.le_of_eq (Eq.symm ha_lo)))
  have ne_lo_sh : lo ≠ sh := fun q => ne_sh_lo q.symm
  have ge_lo : n0 ≤ lo := Nat.le_trans Z0 (Nat.le_of_eq (Eq.symm ha_lo))
  have A_sh := A_sh.keep K2 nin0
  have Z0 := Nat.le_trans Z0 K2.1
  have A_lo : IA Z h2 lo .byte (k + 1) (fun i => .int ((fun _ => (0 : Int32)) i)) := A_lo
  refine r_astore C at_17 (pc' := 19) rfl rfl (ls' := #[.val (.int le), .val (.int b0), .val (.int b1), .val (.int b2), .val (.int ex), .val (.int nn), .val (.ref sh), .val (.ref lo), .unset, .unset, .unset, .unset, .unset, .unset, .unset, .unset, .unset, .unset]) rfl ?_
  have hf : ∀ i : Nat, i < 0 → i < k → (fun _ => (0 : Int32)) i = (fun _ => (0 : Int32)) i := fun i hi => by omega
  refine join (α := Heap × (Nat → Int32) × (Nat → Int32)) (fun jq => n0 ≤ jq.1.size ∧ IA Z jq.1 sh .byte k (fun i => .int (jq.2.1 i)) ∧ IA Z jq.1 lo .byte (k + 1) (fun i => .int (jq.2.2 i)) ∧ ∀ i, i < 1 → i < k → jq.2.1 i = jq.2.2 i) (fun jq => jq.1) 2 7 36 (fun jq => #[.val (.int le), .val (.int b0), .val (.int b1), .val (.int b2), .val (.int ex), .val (.int nn), .val (.ref sh), .val (.ref lo), .unset, .unset, .unset, .unset, .unset, .unset, .unset, .unset, .unset, .unset]) (fun jq => []) ?_ ?_
  rotate_left
  · intro J36
    refine r_iload C at_19 (pc' := 21) rfl rfl ?_
    refine r_ifle C at_21 (pcT := 36) (pcF := 24) (by decide) rfl ?_ ?_
    · intro cc
      replace cc : nn.toInt ≤ 0 := cc
      exact J36 (h2, _, _) ⟨Z0, A_sh, A_lo, fun i h1 h2 => hf i (by omega) h2⟩
    · intro cc
      replace cc : 0 < nn.toInt := cc
      refine r_aload C at_24 (pc' := 26) rfl rfl rfl ?_
      refine r_iconst C at_26 (pc' := 27) rfl (z := (0 : Int32)) rfl ?_
      refine r_iload_n C at_27 (pc' := 28) rfl rfl ?_
      refine r_i2b C at_28 (pc' := 29) rfl (z := ((b0).toInt8.toInt32)) rfl ?_
      refine r_bastore C at_29 (pc' := 30) rfl A_sh (jn := 0) (by decide) (by omega) ge_sh ?_
      intro h3 K3 A_sh
      have A_lo := A_lo.keep K3 (ninS ne_lo_sh nin0)
      have Z0 := Nat.le_trans Z0 K3.1
      have A_sh : IA Z h3 sh .byte k (fun i => .int ((fun i => if i = 0 then ((b0).toInt8.toInt32) else (fun _ => (0 : Int32)) i) i)) := A_sh.congr (fun j _ => by simp only [own_nb])
      refine r_aload C at_30 (pc' := 32) rfl rfl rfl ?_
      refine r_iconst C at_32 (pc' := 33) rfl (z := (0 : Int32)) rfl ?_
      refine r_iload_n C at_33 (pc' := 34) rfl rfl ?_
      refine r_i2b C at_34 (pc' := 35) rfl (z := ((b0).toInt8.toInt32)) rfl ?_
      refine r_bastore C at_35 (pc' := 36) rfl A_lo (jn := 0) (by decide) (by omega) ge_lo ?_
      intro h4 K4 A_lo
      have A_sh := A_sh.keep K4 (ninS ne_sh_lo nin0)
      have Z0 := Nat.le_trans Z0 K4.1
      have A_lo : IA Z h4 lo .byte (k + 1) (fun i => .int ((fun i => if i = 0 then ((b0).toInt8.toInt32) else (fun _ => (0 : Int32)) i) i)) := A_lo.congr (fun j _ => by simp only [own_nb])
      exact J36 (h4, (fun i => if i = 0 then ((b0).toInt8.toInt32) else (fun _ => (0 : Int32)) i), (fun i => if i = 0 then ((b0).toInt8.toInt32) else (fun _ => (0 : Int32)) i)) ⟨Z0, A_sh, A_lo, fun i h1 h2 => by
          by_cases q : i = 0
          · subst q
            show (if (0 : Nat) = 0 then ((b0).toInt8.toInt32) else (fun _ => (0 : Int32)) 0) = (if (0 : Nat) = 0 then ((b0).toInt8.toInt32) else (fun _ => (0 : Int32)) 0)
            exact (if_pos rfl).trans (if_pos rfl).symm
          · exact (if_neg q).trans ((hf i (by omega) h2).trans (if_neg q).symm)⟩
  rintro ⟨h5, f0, g0⟩ ⟨Z0, A_sh, A_lo, hf⟩
  dsimp only at Z0 A_sh A_lo hf ⊢
  refine join (α := Heap × (Nat → Int32) × (Nat → Int32)) (fun jq => n0 ≤ jq.1.size ∧ IA Z jq.1 sh .byte k (fun i => .int (jq.2.1 i)) ∧ IA Z jq.1 lo .byte (k + 1) (fun i => .int (jq.2.2 i)) ∧ ∀ i, i < 2 → i < k → jq.2.1 i = jq.2.2 i) (fun jq => jq.1) 2 7 54 (fun jq => #[.val (.int le), .val (.int b0), .val (.int b1), .val (.int b2), .val (.int ex), .val (.int nn), .val (.ref sh), .val (.ref lo), .unset, .unset, .unset, .unset, .unset, .unset, .unset, .unset, .unset, .unset]) (fun jq => []) ?_ ?_
  rotate_left
  · intro J54
    refine r_iload C at_36 (pc' := 38) rfl rfl ?_
    refine r_iconst C at_38 (pc' := 39) rfl (z := (1 : Int32)) rfl ?_
    refine r_icmple C at_39 (pcT := 54) (pcF := 42) (by decide) rfl ?_ ?_
    · intro cc
      replace cc : nn.toInt ≤ 1 := cc
      exact J54 (h5, _, _) ⟨Z0, A_sh, A_lo, fun i h1 h2 => hf i (by omega) h2⟩
    · intro cc
      replace cc : 1 < nn.toInt := cc
      refine r_aload C at_42 (pc' := 44) rfl rfl rfl ?_
      refine r_iconst C at_44 (pc' := 45) rfl (z := (1 : Int32)) rfl ?_
      refine r_iload_n C at_45 (pc' := 46) rfl rfl ?_
      refine r_i2b C at_46 (pc' := 47) rfl (z := ((b1).toInt8.toInt32)) rfl ?_
      refine r_bastore C at_47 (pc' := 48) rfl A_sh (jn := 1) (by decide) (by omega) ge_sh ?_
      intro h6 K6 A_sh
      have A_lo := A_lo.keep K6 (ninS ne_lo_sh nin0)
      have Z0 := Nat.le_trans Z0 K6.1
      have A_sh : IA Z h6 sh .byte k (fun i => .int ((fun i => if i = 1 then ((b1).toInt8.toInt32) else f0 i) i)) := A_sh.congr (fun j _ => by simp only [own_nb])
      refine r_aload C at_48 (pc' := 50) rfl rfl rfl ?_
      refine r_iconst C at_50 (pc' := 51) rfl (z := (1 : Int32)) rfl ?_
      refine r_iload_n C at_51 (pc' := 52) rfl rfl ?_
      refine r_i2b C at_52 (pc' := 53) rfl (z := ((b1).toInt8.toInt32)) rfl ?_
      refine r_bastore C at_53 (pc' := 54) rfl A_lo (jn := 1) (by decide) (by omega) ge_lo ?_
      intro h7 K7 A_lo
      have A_sh := A_sh.keep K7 (ninS ne_sh_lo nin0)
      have Z0 := Nat.le_trans Z0 K7.1
      have A_lo : IA Z h7 lo .byte (k + 1) (fun i => .int ((fun i => if i = 1 then ((b1).toInt8.toInt32) else g0 i) i)) := A_lo.congr (fun j _ => by simp only [own_nb])
      exact J54 (h7, (fun i => if i = 1 then ((b1).toInt8.toInt32) else f0 i), (fun i => if i = 1 then ((b1).toInt8.toInt32) else g0 i)) ⟨Z0, A_sh, A_lo, fun i h1 h2 => by
          by_cases q : i = 1
          · subst q
            show (if (1 : Nat) = 1 then ((b1).toInt8.toInt32) else f0 1) = (if (1 : Nat) = 1 then ((b1).toInt8.toInt32) else g0 1)
            exact (if_pos rfl).trans (if_pos rfl).symm
          · exact (if_neg q).trans ((hf i (by omega) h2).trans (if_neg q).symm)⟩
  rintro ⟨h8, f1, g1⟩ ⟨Z0, A_sh, A_lo, hf⟩
  dsimp only at Z0 A_sh A_lo hf ⊢
  refine join (α := Heap × (Nat → Int32) × (Nat → Int32)) (fun jq => n0 ≤ jq.1.size ∧ IA Z jq.1 sh .byte k (fun i => .int (jq.2.1 i)) ∧ IA Z jq.1 lo .byte (k + 1) (fun i => .int (jq.2.2 i)) ∧ ∀ i, i < 3 → i < k → jq.2.1 i = jq.2.2 i) (fun jq => jq.1) 2 7 72 (fun jq => #[.val (.int le), .val (.int b0), .val (.int b1), .val (.int b2), .val (.int ex), .val (.int nn), .val (.ref sh), .val (.ref lo), .unset, .unset, .unset, .unset, .unset, .unset, .unset, .unset, .unset, .unset]) (fun jq => []) ?_ ?_
  rotate_left
  · intro J72
    refine r_iload C at_54 (pc' := 56) rfl rfl ?_
    refine r_iconst C at_56 (pc' := 57) rfl (z := (2 : Int32)) rfl ?_
    refine r_icmple C at_57 (pcT := 72) (pcF := 60) (by decide) rfl ?_ ?_
    · intro cc
      replace cc : nn.toInt ≤ 2 := cc
      exact J72 (h8, _, _) ⟨Z0, A_sh, A_lo, fun i h1 h2 => hf i (by omega) h2⟩
    · intro cc
      replace cc : 2 < nn.toInt := cc
      refine r_aload C at_60 (pc' := 62) rfl rfl rfl ?_
      refine r_iconst C at_62 (pc' := 63) rfl (z := (2 : Int32)) rfl ?_
      refine r_iload_n C at_63 (pc' := 64) rfl rfl ?_
      refine r_i2b C at_64 (pc' := 65) rfl (z := ((b2).toInt8.toInt32)) rfl ?_
      refine r_bastore C at_65 (pc' := 66) rfl A_sh (jn := 2) (by decide) (by omega) ge_sh ?_
      intro h9 K9 A_sh
      have A_lo := A_lo.keep K9 (ninS ne_lo_sh nin0)
      have Z0 := Nat.le_trans Z0 K9.1
      have A_sh : IA Z h9 sh .byte k (fun i => .int ((fun i => if i = 2 then ((b2).toInt8.toInt32) else f1 i) i)) := A_sh.congr (fun j _ => by simp only [own_nb])
      refine r_aload C at_66 (pc' := 68) rfl rfl rfl ?_
      refine r_iconst C at_68 (pc' := 69) rfl (z := (2 : Int32)) rfl ?_
      refine r_iload_n C at_69 (pc' := 70) rfl rfl ?_
      refine r_i2b C at_70 (pc' := 71) rfl (z := ((b2).toInt8.toInt32)) rfl ?_
      refine r_bastore C at_71 (pc' := 72) rfl A_lo (jn := 2) (by decide) (by omega) ge_lo ?_
      intro h10 K10 A_lo
      have A_sh := A_sh.keep K10 (ninS ne_sh_lo nin0)
      have Z0 := Nat.le_trans Z0 K10.1
      have A_lo : IA Z h10 lo .byte (k + 1) (fun i => .int ((fun i => if i = 2 then ((b2).toInt8.toInt32) else g1 i) i)) := A_lo.congr (fun j _ => by simp only [own_nb])
      exact J72 (h10, (fun i => if i = 2 then ((b2).toInt8.toInt32) else f1 i), (fun i => if i = 2 then ((b2).toInt8.toInt32) else g1 i)) ⟨Z0, A_sh, A_lo, fun i h1 h2 => by
          by_cases q : i = 2
          · subst q
            show (if (2 : Nat) = 2 then ((b2).toInt8.toInt32) else f1 2) = (if (2 : Nat) = 2 then ((b2).toInt8.toInt32) else g1 2)
            exact (if_pos rfl).trans (if_pos rfl).symm
          · exact (if_neg q).trans ((hf i (by omega) h2).trans (if_neg q).symm)⟩
  rintro ⟨h11, f2, g2⟩ ⟨Z0, A_sh, A_lo, hf⟩
  dsimp only at Z0 A_sh A_lo hf ⊢
  refine r_aload C at_72 (pc' := 74) rfl rfl rfl ?_
  refine r_iload C at_74 (pc' := 76) rfl rfl ?_
  refine r_iload C at_76 (pc' := 78) rfl rfl ?_
  refine r_i2b C at_78 (pc' := 79) rfl (z := ((ex).toInt8.toInt32)) rfl ?_
  refine r_bastore C at_79 (pc' := 80) rfl A_lo (jn := k) hk (by omega) ge_lo ?_
  intro h12 K12 A_lo
  have A_sh := A_sh.keep K12 (ninS ne_sh_lo nin0)
  have Z0 := Nat.le_trans Z0 K12.1
  have A_lo : IA Z h12 lo .byte (k + 1) (fun i => .int ((fun i => if i = k then ((ex).toInt8.toInt32) else g2 i) i)) := A_lo.congr (fun j _ => by simp only [own_nb])
  refine r_iconst C at_80 (pc' := 81) rfl (z := (0 : Int32)) rfl ?_
  refine r_newarray (ty := .byte) (dv := (.int (0 : Int32))) rfl (n := 0) (cap := 0) C (t0 hw) rfl at_81 (pc' := 83) rfl (by decide) (by decide) (by decide) (by decide) (by decide) ?_
  intro em h13 ha_em K13 A_em
  have ne_sh_em : sh ≠ em := Nat.ne_of_lt (Nat.lt_of_lt_of_le A_sh.lt (Nat.le_of_eq (Eq.symm ha_em)))
  have ne_em_sh : em ≠ sh := fun q => ne_sh_em q.symm
  have ne_lo_em : lo ≠ em := Nat.ne_of_lt (Nat.lt_of_lt_of_le A_lo.lt (Nat.le_of_eq (Eq.symm ha_em)))
  have ne_em_lo : em ≠ lo := fun q => ne_lo_em q.symm
  have ge_em : n0 ≤ em := Nat.le_trans Z0 (Nat.le_of_eq (Eq.symm ha_em))
  have A_sh := A_sh.keep K13 nin0
  have A_lo := A_lo.keep K13 nin0
  have Z0 := Nat.le_trans Z0 K13.1
  have A_em : IA Z h13 em .byte 0 (fun i => .int ((fun _ => (0 : Int32)) i)) := A_em
  refine r_astore C at_83 (pc' := 85) rfl rfl (ls' := #[.val (.int le), .val (.int b0), .val (.int b1), .val (.int b2), .val (.int ex), .val (.int nn), .val (.ref sh), .val (.ref lo), .val (.ref em), .unset, .unset, .unset, .unset, .unset, .unset, .unset, .unset, .unset]) rfl ?_
  refine r_iconst C at_85 (pc' := 86) rfl (z := (1 : Int32)) rfl ?_
  refine r_newarray (ty := .byte) (dv := (.int (0 : Int32))) rfl (n := 1) (cap := 1) C (t0 hw) rfl at_86 (pc' := 88) rfl (by decide) (by decide) (by decide) (by decide) (by decide) ?_
  intro aa h14 ha_aa K14 A_aa
  have ne_sh_aa : sh ≠ aa := Nat.ne_of_lt (Nat.lt_of_lt_of_le A_sh.lt (Nat.le_of_eq (Eq.symm ha_aa)))
  have ne_aa_sh : aa ≠ sh := fun q => ne_sh_aa q.symm
  have ne_lo_aa : lo ≠ aa := Nat.ne_of_lt (Nat.lt_of_lt_of_le A_lo.lt (Nat.le_of_eq (Eq.symm ha_aa)))
  have ne_aa_lo : aa ≠ lo := fun q => ne_lo_aa q.symm
  have ne_em_aa : em ≠ aa := Nat.ne_of_lt (Nat.lt_of_lt_of_le A_em.lt (Nat.le_of_eq (Eq.symm ha_aa)))
  have ne_aa_em : aa ≠ em := fun q => ne_em_aa q.symm
  have ge_aa : n0 ≤ aa := Nat.le_trans Z0 (Nat.le_of_eq (Eq.symm ha_aa))
  have A_sh := A_sh.keep K14 nin0
  have A_lo := A_lo.keep K14 nin0
  have A_em := A_em.keep K14 nin0
  have Z0 := Nat.le_trans Z0 K14.1
  have A_aa : IA Z h14 aa .byte 1 (fun i => .int ((fun _ => (0 : Int32)) i)) := A_aa
  refine r_astore C at_88 (pc' := 90) rfl rfl (ls' := #[.val (.int le), .val (.int b0), .val (.int b1), .val (.int b2), .val (.int ex), .val (.int nn), .val (.ref sh), .val (.ref lo), .val (.ref em), .val (.ref aa), .unset, .unset, .unset, .unset, .unset, .unset, .unset, .unset]) rfl ?_
  refine r_aload C at_90 (pc' := 92) rfl rfl rfl ?_
  refine r_iconst C at_92 (pc' := 93) rfl (z := (0 : Int32)) rfl ?_
  refine r_bipush C at_93 (pc' := 95) rfl (z := (97 : Int32)) rfl ?_
  refine r_bastore C at_95 (pc' := 96) rfl A_aa (jn := 0) (by decide) (by decide) ge_aa ?_
  intro h15 K15 A_aa
  have A_sh := A_sh.keep K15 (ninS ne_sh_aa nin0)
  have A_lo := A_lo.keep K15 (ninS ne_lo_aa nin0)
  have A_em := A_em.keep K15 (ninS ne_em_aa nin0)
  have Z0 := Nat.le_trans Z0 K15.1
  have A_aa : IA Z h15 aa .byte 1 (fun i => .int ((fun _ => (97 : Int32)) i)) := A_aa.congr (fun j hj => congrArg _ (by rw [show j = 0 by omega]; rfl))
  refine r_aload C at_96 (pc' := 98) rfl rfl rfl ?_
  refine r_callS (y := (⟨"com/example/key_to_node/keytonode/Fnv1a", "hash32", "([B)I"⟩ : MethodName)) (as := [(.ref em)]) (st := []) C (t1 hw) (t2 hw) (t3 hw) (t4 hw) (by decide) pd0 rfl rfl at_98 (pc' := 101) rfl rfl (W := 0) (Nat.le_of_eq rfl) (rm1 l Z a0 hw em 0 (fun _ => (0 : Int32)) h15 n0 A_em (by decide)) (by decide) (by decide) (by decide) (by decide) ?_
  rintro _ _ ⟨rfl, rfl⟩
  show Run _ _ _ _ _ _ _ _ _ _ _ _ _ _ _ h15 4 8 101 #[.val (.int le), .val (.int b0), .val (.int b1), .val (.int b2), .val (.int ex), .val (.int nn), .val (.ref sh), .val (.ref lo), .val (.ref em), .val (.ref aa), .unset, .unset, .unset, .unset, .unset, .unset, .unset, .unset] [(.int (own_h (fun _ => (0 : Int32)) 0))]
  refine r_istore C at_101 (pc' := 103) rfl (ls' := #[.val (.int le), .val (.int b0), .val (.int b1), .val (.int b2), .val (.int ex), .val (.int nn), .val (.ref sh), .val (.ref lo), .val (.ref em), .val (.ref aa), .val (.int (own_h (fun _ => (0 : Int32)) 0)), .unset, .unset, .unset, .unset, .unset, .unset, .unset]) rfl ?_
  refine r_aload C at_103 (pc' := 105) rfl rfl rfl ?_
  refine r_callS (y := (⟨"com/example/key_to_node/keytonode/Fnv1a", "hash32", "([B)I"⟩ : MethodName)) (as := [(.ref aa)]) (st := []) C (t1 hw) (t2 hw) (t3 hw) (t4 hw) (by decide) pd0 rfl rfl at_105 (pc' := 108) rfl rfl (W := 0) (Nat.le_of_eq rfl) (rm1 l Z a0 hw aa 1 (fun _ => (97 : Int32)) h15 n0 A_aa (by decide)) (by decide) (by decide) (by decide) (by decide) ?_
  rintro _ _ ⟨rfl, rfl⟩
  show Run _ _ _ _ _ _ _ _ _ _ _ _ _ _ _ h15 4 8 108 #[.val (.int le), .val (.int b0), .val (.int b1), .val (.int b2), .val (.int ex), .val (.int nn), .val (.ref sh), .val (.ref lo), .val (.ref em), .val (.ref aa), .val (.int (own_h (fun _ => (0 : Int32)) 0)), .unset, .unset, .unset, .unset, .unset, .unset, .unset] [(.int (own_h (fun _ => (97 : Int32)) 1))]
  refine r_istore C at_108 (pc' := 110) rfl (ls' := #[.val (.int le), .val (.int b0), .val (.int b1), .val (.int b2), .val (.int ex), .val (.int nn), .val (.ref sh), .val (.ref lo), .val (.ref em), .val (.ref aa), .val (.int (own_h (fun _ => (0 : Int32)) 0)), .val (.int (own_h (fun _ => (97 : Int32)) 1)), .unset, .unset, .unset, .unset, .unset, .unset]) rfl ?_
  refine r_aload C at_110 (pc' := 112) rfl rfl rfl ?_
  refine r_callS (y := (⟨"com/example/key_to_node/keytonode/Fnv1a", "hash32", "([B)I"⟩ : MethodName)) (as := [(.ref sh)]) (st := []) C (t1 hw) (t2 hw) (t3 hw) (t4 hw) (by decide) pd0 rfl rfl at_112 (pc' := 115) rfl rfl (W := 0) (Nat.le_of_eq rfl) (rm1 l Z a0 hw sh k f2 h15 n0 A_sh (by omega)) (by decide) (by decide) (by decide) (by decide) ?_
  rintro _ _ ⟨rfl, rfl⟩
  show Run _ _ _ _ _ _ _ _ _ _ _ _ _ _ _ h15 4 8 115 #[.val (.int le), .val (.int b0), .val (.int b1), .val (.int b2), .val (.int ex), .val (.int nn), .val (.ref sh), .val (.ref lo), .val (.ref em), .val (.ref aa), .val (.int (own_h (fun _ => (0 : Int32)) 0)), .val (.int (own_h (fun _ => (97 : Int32)) 1)), .unset, .unset, .unset, .unset, .unset, .unset] [(.int (own_h f2 k))]
  refine r_istore C at_115 (pc' := 117) rfl (ls' := #[.val (.int le), .val (.int b0), .val (.int b1), .val (.int b2), .val (.int ex), .val (.int nn), .val (.ref sh), .val (.ref lo), .val (.ref em), .val (.ref aa), .val (.int (own_h (fun _ => (0 : Int32)) 0)), .val (.int (own_h (fun _ => (97 : Int32)) 1)), .val (.int (own_h f2 k)), .unset, .unset, .unset, .unset, .unset]) rfl ?_
  refine r_aload C at_117 (pc' := 119) rfl rfl rfl ?_
  refine r_callS (y := (⟨"com/example/key_to_node/keytonode/Fnv1a", "hash32", "([B)I"⟩ : MethodName)) (as := [(.ref lo)]) (st := []) C (t1 hw) (t2 hw) (t3 hw) (t4 hw) (by decide) pd0 rfl rfl at_119 (pc' := 122) rfl rfl (W := 0) (Nat.le_of_eq rfl) (rm1 l Z a0 hw lo (k + 1) (fun i => if i = k then ((ex).toInt8.toInt32) else g2 i) h15 n0 A_lo (by omega)) (by decide) (by decide) (by decide) (by decide) ?_
  rintro _ _ ⟨rfl, rfl⟩
  show Run _ _ _ _ _ _ _ _ _ _ _ _ _ _ _ h15 4 8 122 #[.val (.int le), .val (.int b0), .val (.int b1), .val (.int b2), .val (.int ex), .val (.int nn), .val (.ref sh), .val (.ref lo), .val (.ref em), .val (.ref aa), .val (.int (own_h (fun _ => (0 : Int32)) 0)), .val (.int (own_h (fun _ => (97 : Int32)) 1)), .val (.int (own_h f2 k)), .unset, .unset, .unset, .unset, .unset] [(.int (own_h (fun i => if i = k then ((ex).toInt8.toInt32) else g2 i) (k + 1)))]
  refine r_istore C at_122 (pc' := 124) rfl (ls' := #[.val (.int le), .val (.int b0), .val (.int b1), .val (.int b2), .val (.int ex), .val (.int nn), .val (.ref sh), .val (.ref lo), .val (.ref em), .val (.ref aa), .val (.int (own_h (fun _ => (0 : Int32)) 0)), .val (.int (own_h (fun _ => (97 : Int32)) 1)), .val (.int (own_h f2 k)), .val (.int (own_h (fun i => if i = k then ((ex).toInt8.toInt32) else g2 i) (k + 1))), .unset, .unset, .unset, .unset]) rfl ?_
  refine r_iload C at_124 (pc' := 126) rfl rfl ?_
  refine r_ldc C (t7 hw) at_126 (pc' := 128) rfl ?_
  refine r_icmpne C at_128 (pcT := 135) (pcF := 131) (by decide) rfl ?_ ?_
  · intro c128
    exact absurd rfl c128
  intro c128
  refine r_iconst C at_131 (pc' := 132) rfl (z := (1 : Int32)) rfl ?_
  refine r_goto C at_132 (pc' := 136) (by decide) ?_
  refine r_istore C at_136 (pc' := 138) rfl (ls' := #[.val (.int le), .val (.int b0), .val (.int b1), .val (.int b2), .val (.int ex), .val (.int nn), .val (.ref sh), .val (.ref lo), .val (.ref em), .val (.ref aa), .val (.int (own_h (fun _ => (0 : Int32)) 0)), .val (.int (own_h (fun _ => (97 : Int32)) 1)), .val (.int (own_h f2 k)), .val (.int (own_h (fun i => if i = k then ((ex).toInt8.toInt32) else g2 i) (k + 1))), .val (.int (1 : Int32)), .unset, .unset, .unset]) rfl ?_
  refine r_iload C at_138 (pc' := 140) rfl rfl ?_
  refine r_ldc C (t8 hw) at_140 (pc' := 142) rfl ?_
  refine r_icmpne C at_142 (pcT := 149) (pcF := 145) (by decide) rfl ?_ ?_
  · intro c142
    exact absurd (by decide) c142
  intro c142
  have hfin : own_h (fun i => if i = k then ((ex).toInt8.toInt32) else g2 i) (k + 1) = (own_h f2 k ^^^ (ex &&& 255)) * 16777619 := by
    show (own_h (fun i => if i = k then ((ex).toInt8.toInt32) else g2 i) k ^^^ (((fun i => if i = k then ((ex).toInt8.toInt32) else g2 i)) k &&& 255)) * 16777619 = _
    rw [show ((fun i => if i = k then ((ex).toInt8.toInt32) else g2 i)) k = ex.toInt8.toInt32 from if_pos rfl, own_b255, own_hc k (fun i hi => (if_neg (show i ≠ k by omega)).trans (hf i (by omega) hi).symm)]
  refine r_iconst C at_145 (pc' := 146) rfl (z := (1 : Int32)) rfl ?_
  refine r_goto C at_146 (pc' := 150) (by decide) ?_
  refine r_istore C at_150 (pc' := 152) rfl (ls' := #[.val (.int le), .val (.int b0), .val (.int b1), .val (.int b2), .val (.int ex), .val (.int nn), .val (.ref sh), .val (.ref lo), .val (.ref em), .val (.ref aa), .val (.int (own_h (fun _ => (0 : Int32)) 0)), .val (.int (own_h (fun _ => (97 : Int32)) 1)), .val (.int (own_h f2 k)), .val (.int (own_h (fun i => if i = k then ((ex).toInt8.toInt32) else g2 i) (k + 1))), .val (.int (1 : Int32)), .val (.int (1 : Int32)), .unset, .unset]) rfl ?_
  refine r_iload C at_152 (pc' := 154) rfl rfl ?_
  refine r_iload C at_154 (pc' := 156) rfl rfl ?_
  refine r_sipush C at_156 (pc' := 159) rfl (z := (255 : Int32)) rfl ?_
  refine r_iand C at_159 (pc' := 160) rfl (z := (ex &&& (255 : Int32))) rfl ?_
  refine r_ixor C at_160 (pc' := 161) rfl (z := ((own_h f2 k) ^^^ (ex &&& (255 : Int32)))) rfl ?_
  refine r_ldc C (t9 hw) at_161 (pc' := 163) rfl ?_
  refine r_imul C at_163 (pc' := 164) rfl (z := (((own_h f2 k) ^^^ (ex &&& (255 : Int32))) * (16777619 : Int32))) rfl ?_
  refine r_istore C at_164 (pc' := 166) rfl (ls' := #[.val (.int le), .val (.int b0), .val (.int b1), .val (.int b2), .val (.int ex), .val (.int nn), .val (.ref sh), .val (.ref lo), .val (.ref em), .val (.ref aa), .val (.int (own_h (fun _ => (0 : Int32)) 0)), .val (.int (own_h (fun _ => (97 : Int32)) 1)), .val (.int (own_h f2 k)), .val (.int (own_h (fun i => if i = k then ((ex).toInt8.toInt32) else g2 i) (k + 1))), .val (.int (1 : Int32)), .val (.int (1 : Int32)), .val (.int (((own_h f2 k) ^^^ (ex &&& (255 : Int32))) * (16777619 : Int32))), .unset]) rfl ?_
  refine r_iload C at_166 (pc' := 168) rfl rfl ?_
  refine r_iload C at_168 (pc' := 170) rfl rfl ?_
  refine r_icmpne C at_170 (pcT := 177) (pcF := 173) (by decide) rfl ?_ ?_
  · intro c170
    exact absurd hfin c170
  intro c170
  refine r_iconst C at_173 (pc' := 174) rfl (z := (1 : Int32)) rfl ?_
  refine r_goto C at_174 (pc' := 178) (by decide) ?_
  refine r_istore C at_178 (pc' := 180) rfl (ls' := #[.val (.int le), .val (.int b0), .val (.int b1), .val (.int b2), .val (.int ex), .val (.int nn), .val (.ref sh), .val (.ref lo), .val (.ref em), .val (.ref aa), .val (.int (own_h (fun _ => (0 : Int32)) 0)), .val (.int (own_h (fun _ => (97 : Int32)) 1)), .val (.int (own_h f2 k)), .val (.int (own_h (fun i => if i = k then ((ex).toInt8.toInt32) else g2 i) (k + 1))), .val (.int (1 : Int32)), .val (.int (1 : Int32)), .val (.int (((own_h f2 k) ^^^ (ex &&& (255 : Int32))) * (16777619 : Int32))), .val (.int (1 : Int32))]) rfl ?_
  refine r_iload C at_180 (pc' := 182) rfl rfl ?_
  refine r_ifeq C at_182 (pcT := 199) (pcF := 185) (by decide) rfl ?_ ?_
  · intro c182
    exact absurd c182 (by decide)
  intro c182
  refine r_iload C at_185 (pc' := 187) rfl rfl ?_
  refine r_ifeq C at_187 (pcT := 199) (pcF := 190) (by decide) rfl ?_ ?_
  · intro c187
    exact absurd c187 (by decide)
  intro c187
  refine r_iload C at_190 (pc' := 192) rfl rfl ?_
  refine r_ifeq C at_192 (pcT := 199) (pcF := 195) (by decide) rfl ?_ ?_
  · intro c192
    exact absurd c192 (by decide)
  intro c192
  refine r_iconst C at_195 (pc' := 196) rfl (z := (1 : Int32)) rfl ?_
  refine r_goto C at_196 (pc' := 200) (by decide) ?_
  exact r_ireturnN (t := .boolean) (by simp) C at_200 rfl (by decide) (by decide)
set_option maxRecDepth 65536 in
set_option maxHeartbeats 40000000 in
theorem comes_1 {Post : Tables → Env → Array Value → State → Outcome → State → Prop} (hpost : ∀ tb e args s v u, (limb_1_1.after args s (.returned v) u = true ∧ limb_1_2.after args s (.returned v) u = true ∧ True) → FrameEnd s (.returned v) u (Jvm.fieldLocs frame_1_writes args s ++ Jvm.arrayLocs frame_1_arrays args s ++ Jvm.staticLocs frame_1_statics s) 16 128 → Post tb e args s (.returned v) u) :
    ArmFor flags0 classFile x code maxLocals ret World_1 tables_1 room_1 Calls_1 rest_1 Pre_1 Post := by
  intro l hfl _ _ p e ha hc hk s m args below hf hA hF happ hP
  obtain ⟨hcalls, hrest, hpre⟩ := hP
  obtain ⟨-, -, -, hnamed, -, -, -, hat⟩ := (Spec.applies_iff hf).mp happ
  obtain ⟨hg, hn⟩ := and_e (Cond.before_iff.mp (show (Jvm.Cond.and given_1 narrow_1).before args s = true from hpre))
  obtain ⟨g0, k0⟩ := and_e hg
  obtain ⟨w0, w1, w2, w3, w4, rfl⟩ : ∃ w0 w1 w2 w3 w4 : Value, args = #[w0, w1, w2, w3, w4] := by
    have hs : args.size = 5 := by simpa [Cond.value, given_1] using g0
    obtain ⟨L⟩ := args
    match L, hs with
    | [w0, w1, w2, w3, w4], _ => exact ⟨w0, w1, w2, w3, w4, rfl⟩
  have hw := fun d (hd : d ∈ tables_1) => atoms_spec (ws := Jvm.Cond.code x code maxLocals ret :: tables_1) hat d (List.mem_cons_of_mem _ hd)
  obtain ⟨j0, k1⟩ := and_e k0
  obtain ⟨i0, e0⟩ := is_v j0
  obtain rfl : w0 = (.int i0) := Option.some.inj e0
  obtain ⟨j1, k2⟩ := and_e k1
  obtain ⟨i1, e1⟩ := is_v j1
  obtain rfl : w1 = (.int i1) := Option.some.inj e1
  obtain ⟨j2, k3⟩ := and_e k2
  obtain ⟨i2, e2⟩ := is_v j2
  obtain rfl : w2 = (.int i2) := Option.some.inj e2
  obtain ⟨j3, k4⟩ := and_e k3
  obtain ⟨i3, e3⟩ := is_v j3
  obtain rfl : w3 = (.int i3) := Option.some.inj e3
  have j4 := k4
  obtain ⟨i4, e4⟩ := is_v j4
  obtain rfl : w4 = (.int i4) := Option.some.inj e4
  obtain ⟨n, o, h1, h2, h3, _, L, rfl, ⟨rfl, N⟩, hq⟩ := rm0 l s _ hw i0 i1 i2 i3 i4 s.heap s.heap.size (Nat.le_refl _) tables_1 p e ha hc hk s m _ below hf ((Spec.applies_iff_loose hf).mp happ).1 ⟨rfl, State.Warmed39.refl s, rfl⟩ trivial
  refine ⟨n, _, h1, h2, h3, hpost _ _ _ _ _ _ ⟨Cond.after_iff.mpr rfl, Cond.after_iff.mpr (eq_i res_at (Term.int_eval (1)) rfl), trivial⟩ ⟨hq.1, hq.2.1, (hq.2.2.sift fun y hy => Or.inr (N y hy)).mono (by decide) (by decide)⟩⟩
theorem main_1_1 : Claimed_1_1 := comes_1 fun _ _ _ _ _ _ h hF => ⟨h.1, hF⟩
theorem main_1_2 : Claimed_1_2 := comes_1 fun _ _ _ _ _ _ h hF => ⟨h.2.1, hF⟩
end Jvm.Pilot.@@N@@
namespace Jvm.Pilot.@@N@@
open Jvm Jvm.ClassFile Sem Op Lib Jvm.Free Jvm.Stand Jvm.Pilot.@@N@@.Jvm.D
/-! MADE BY PROGRAM (witnessworld.py) out of the Statement's table words and the real class files: 9 classes; the members and pool entries that the words name. The judged class is class 1, her method 1. -/
namespace start1
open Jvm.ClassFile
def u (s : String) : CpInfo := .utf8 (stringToUtf16 s)
/-- a pool by its gaps: so many unusable entries, then the entry; so many at the end -/
def gap : Nat → List CpInfo → List CpInfo
  | 0, r => r
  | n + 1, r => .unusable :: gap n r
def poolList (es : List (Nat × CpInfo)) (last : Nat) : List CpInfo := es.foldr (fun e r => gap e.1 (e.2 :: r)) (gap last [])
def pool (es : List (Nat × CpInfo)) (last : Nat) : Array CpInfo := ⟨poolList es last⟩
def fileOf (pool : Array CpInfo) (this : Nat) (attrs : Array Attribute := #[]) (ms : Array MethodInfo := #[]) (fl : Nat := 33) (sup : Nat := 0) (ifs : Array Nat := #[]) (fds : Array FieldInfo := #[]) : ClassFile where
  minorVersion := 0
  majorVersion := 65
  constantPool := pool
  accessFlags := fl
  thisClass := this
  superClass := sup
  interfaces := ifs
  fields := fds
  methods := ms
  attributes := attrs
def plain (name : String) (sup : Option ClassId) : Class where
  name := name
  kind := .ordinary
  loader := none
  accessFlags := 33
  super := sup
  interfaces := #[]
  cf := none
  fields := #[]
  methods := #[]
  instanceTypes := #[]
  staticTypes := #[]
  resolved := #[]
  callSites := []
  init := .initialized
  statics := none
  mirror := none

def pool0 : Array CpInfo := pool [(5, u "<init>"), (0, u "()V"), (1, .class_ 10), (1, u "java/lang/Object")] 113

def k0m0 : Method := { name := "<init>", desc := "()V", sig := { parameters := [], returnType := none }, accessFlags := 1, code := none }
/-- java/lang/Object -/
def k0 : Class := { plain "java/lang/Object" none with
  accessFlags := 33
  interfaces := #[]
  cf := some (fileOf pool0 8 #[] #[{ accessFlags := 1, nameIndex := 5, descriptorIndex := 6, attributes := #[] }] 33 0 #[] #[])
  fields := #[]
  methods := #[k0m0]
  instanceTypes := #[]
  staticTypes := #[]
  resolved := Array.replicate 124 none
  statics := none }

def pool1 : Array CpInfo := pool [(2, .class_ 4), (1, u "java/lang/Object"), (0, u "<init>"), (0, u "()V"), (0, .methodref 8 9), (0, .class_ 10), (0, .nameAndType 11 12), (0, u "com/example/key_to_node/keytonode/Fnv1a"), (0, u "hash32"), (0, u "([B)I"), (0, .integer 2166136261), (0, .integer 3826002220), (0, .integer 16777619), (0, .class_ 17), (0, u "com/example/key_to_node/keytonode/Fnv1aHash32PinLaw"), (2, u "law"), (0, u "(IIIII)Z")] 5

def k1m0 : Method := { name := "<init>", desc := "()V", sig := { parameters := [], returnType := none }, accessFlags := 2, code := none }
def k1c1 : Code := { maxStack := 3, maxLocals := 18, code := code, exceptionTable := #[], attributes := #[] }
def k1m1 : Method := { name := "law", desc := "(IIIII)Z", sig := { parameters := [.int, .int, .int, .int, .int], returnType := some .boolean }, accessFlags := 9, code := some k1c1 }
/-- com/example/key_to_node/keytonode/Fnv1aHash32PinLaw -/
def k1 : Class := { plain "com/example/key_to_node/keytonode/Fnv1aHash32PinLaw" (some 0) with
  accessFlags := 49
  interfaces := #[]
  cf := some (fileOf pool1 16 #[] #[{ accessFlags := 2, nameIndex := 5, descriptorIndex := 6, attributes := #[] }, { accessFlags := 9, nameIndex := 20, descriptorIndex := 21, attributes := #[] }] 49 2 #[] #[])
  fields := #[]
  methods := #[k1m0, k1m1]
  instanceTypes := #[]
  staticTypes := #[]
  resolved := Array.replicate 27 none
  statics := none }

def pool2 : Array CpInfo := pool [(2, .class_ 4), (1, u "java/lang/Object"), (0, u "<init>"), (0, u "()V"), (0, .class_ 8), (0, u "com/example/key_to_node/keytonode/Fnv1a"), (0, .integer 2166136261), (0, .integer 16777619), (0, u "OFFSET_BASIS"), (0, u "I"), (1, u "PRIME"), (2, u "hash32"), (0, u "([B)I")] 5

def k2m0 : Method := { name := "<init>", desc := "()V", sig := { parameters := [], returnType := none }, accessFlags := 2, code := none }
def k2c1 : Code := { maxStack := 3, maxLocals := 6, code := prog_5_method_2_code, exceptionTable := #[], attributes := #[] }
def k2m1 : Method := { name := "hash32", desc := "([B)I", sig := { parameters := [(.array .byte)], returnType := some .int }, accessFlags := 8, code := some k2c1 }
/-- com/example/key_to_node/keytonode/Fnv1a -/
def k2 : Class := { plain "com/example/key_to_node/keytonode/Fnv1a" (some 0) with
  accessFlags := 48
  interfaces := #[]
  cf := some (fileOf pool2 7 #[] #[{ accessFlags := 2, nameIndex := 5, descriptorIndex := 6, attributes := #[] }, { accessFlags := 8, nameIndex := 17, descriptorIndex := 18, attributes := #[] }] 48 2 #[] #[{ accessFlags := 26, nameIndex := 11, descriptorIndex := 12, attributes := #[] }, { accessFlags := 26, nameIndex := 14, descriptorIndex := 12, attributes := #[] }])
  fields := #[{ name := "OFFSET_BASIS", type := .int, accessFlags := 26, slot := 0, constantValue := 0 }, { name := "PRIME", type := .int, accessFlags := 26, slot := 1, constantValue := 0 }]
  methods := #[k2m0, k2m1]
  instanceTypes := #[]
  staticTypes := #[.int, .int]
  resolved := Array.replicate 24 none
  statics := none }

def pool3 : Array CpInfo := pool [(1, u "java/lang/Cloneable"), (0, .class_ 1), (0, u "java/lang/Object"), (0, .class_ 3)] 3

/-- java/lang/Cloneable -/
def k3 : Class := { plain "java/lang/Cloneable" (some 0) with
  accessFlags := 1537
  interfaces := #[]
  cf := some (fileOf pool3 2 #[] #[] 1537 4 #[] #[])
  fields := #[]
  methods := #[]
  instanceTypes := #[]
  staticTypes := #[]
  resolved := Array.replicate 8 none
  statics := none }

def pool4 : Array CpInfo := pool [(1, u "java/io/Serializable"), (0, .class_ 1), (0, u "java/lang/Object"), (0, .class_ 3)] 3

/-- java/io/Serializable -/
def k4 : Class := { plain "java/io/Serializable" (some 0) with
  accessFlags := 1537
  interfaces := #[]
  cf := some (fileOf pool4 2 #[] #[] 1537 4 #[] #[])
  fields := #[]
  methods := #[]
  instanceTypes := #[]
  staticTypes := #[]
  resolved := Array.replicate 8 none
  statics := none }

/-- the primitive byte -/
def k5 : Class := { plain "byte" none with kind := .primitive 'B', accessFlags := 0x411 }
/-- [B -/
def k6 : Class := { plain "[B" (some 0) with kind := .array 5 .byte, interfaces := #[3, 4], accessFlags := 1041 }

/-- the primitive int -/
def k7 : Class := { plain "int" none with kind := .primitive 'I', accessFlags := 0x411 }
/-- [I -/
def k8 : Class := { plain "[I" (some 0) with kind := .array 7 .int, interfaces := #[3, 4], accessFlags := 1041 }

def heap : Heap := #[]
def classes : Array Class := #[k0, k1, k2, k3, k4, k5, k6, k7, k8]
def interned : List (Array UInt16 × Addr) := []
def slotsUsed : Nat := 0
def theMethod : MethodId := ⟨1, 1⟩
def args0 : Array Value := #[.int 5, .int 5, .int 5, .int 5, .int 5]
def aboutOver (below : List Frame) : State where
  vm := { classes := classes, interned := interned.toArray }
  heap := heap
  slotsUsed := slotsUsed
  threads := #[{ frames := .invoking theMethod args0 :: below }]
def below0 : List Frame := [.native { method := ⟨0, 0⟩, args := #[] }]
def about1 : State := aboutOver below0
def p0 : Program := .bare "" "" ""
def e0 : Env := launch0.env 0 0 0
theorem w_frames : about1.frames = Frame.invoking theMethod args0 :: below0 := rfl
set_option maxRecDepth 65536 in
theorem w_args : argsFit about1.vm theMethod args0 = true := by decide +kernel
set_option maxRecDepth 65536 in
theorem w_heap : heapFits about1 = true := by decide +kernel
set_option maxRecDepth 65536 in
theorem w_runnable : about1.curStatus? = some .runnable := by decide +kernel
set_option maxRecDepth 65536 in
theorem w_alone : about1.alone = true := by decide +kernel
set_option maxRecDepth 65536 in
theorem w_named : about1.methodNamed? x = some theMethod := by decide +kernel
set_option maxRecDepth 65536 in
theorem w_hears : about1.hears theMethod below0 = true := by decide +kernel
set_option maxRecDepth 65536 in
theorem w_ripe : about1.ripe theMethod args0 below0 = true := by decide +kernel
theorem w_running : about1.status = .running := rfl
set_option maxRecDepth 65536 in
theorem w_room : about1.hasRoom e0.platform room_1 = true :=
  launch0.hasRoom_least _ room_1 (by decide +kernel) (by decide +kernel) (by decide +kernel) (by decide +kernel) (by decide +kernel) (by decide +kernel)
theorem allAtoms_all (ts : List Jvm.Cond) (a : Array Jvm.Value) (st : Jvm.State) : (allAtoms ts).before a st = ts.all (fun c => c.before a st) := by
  induction ts with
  | nil => rfl
  | cons c t ih =>
    show (Jvm.Cond.and c (allAtoms t)).before a st = _
    rw [Jvm.Cond.before_and, ih, List.all_cons]
def words1 : List Jvm.Cond := Jvm.Cond.code x code maxLocals ret :: tables_1
/-- a 'code' word, met by the world's own term for the bytes: nothing is compared byte by byte -/
theorem code_word {y : MethodName} {bytes : ByteArray} {mx : Nat} {rt : Option FieldType} {a : Array Value} {s : State} {m : MethodId} {meth : Method} {c : Code} (h1 : s.methodNamed? y = some m) (h2 : s.vm.method? m = some meth) (h3 : meth.code = some c) (h4 : c.code = bytes)
    (h5 : (c.maxLocals == mx && c.exceptionTable.isEmpty && decide (c.maxStack ≤ mostOperands) && decide (meth.sig.returnType = rt) && !meth.locks && decide (parseMethodDescriptor y.desc = some meth.sig)) = true) : (Jvm.Cond.code y bytes mx rt).before a s = true := by
  simp only [Bool.and_eq_true, beq_iff_eq, Bool.not_eq_true', decide_eq_true_eq] at h5
  obtain ⟨⟨⟨⟨⟨g1, g2⟩, g3⟩, g4⟩, g5⟩, g6⟩ := h5
  simp [Cond.before, Cond.holds, Cond.value, h1, h2, h3, h4, g1, g2, g3, g4, g5, g6]
def isCode : Jvm.Cond → Bool
  | .code _ _ _ _ => true
  | _ => false
theorem all_split {L : List Jvm.Cond} {P : Jvm.Cond → Bool} (h1 : L.all (fun c => isCode c || P c) = true) (h2 : ∀ c ∈ L.filter isCode, P c = true) : L.all P = true := by
  refine List.all_eq_true.mpr fun c hc => ?_
  have h := List.all_eq_true.mp h1 c hc
  rcases Bool.eq_false_or_eq_true (isCode c) with hi | hi
  · exact h2 c (List.mem_filter.mpr ⟨hc, hi⟩)
  · simpa [hi] using h
set_option maxRecDepth 65536 in
theorem w_c0 : (Jvm.Cond.code x code maxLocals ret).before args0 about1 = true := code_word (m := ⟨1, 1⟩) (meth := k1m1) (c := k1c1) (by decide +kernel) rfl rfl rfl (by decide +kernel)
set_option maxRecDepth 65536 in
theorem w_c1 : (Jvm.Cond.code ({ cls := "com/example/key_to_node/keytonode/Fnv1a", name := "hash32", desc := "([B)I" } : Jvm.MethodName) prog_5_method_2_code (6 : Nat) (Option.some Jvm.ClassFile.FieldType.int)).before args0 about1 = true := code_word (m := ⟨2, 1⟩) (meth := k2m1) (c := k2c1) (by decide +kernel) rfl rfl rfl (by decide +kernel)
def codes1 : List Jvm.Cond := [Jvm.Cond.code x code maxLocals ret, Jvm.Cond.code ({ cls := "com/example/key_to_node/keytonode/Fnv1a", name := "hash32", desc := "([B)I" } : Jvm.MethodName) prog_5_method_2_code (6 : Nat) (Option.some Jvm.ClassFile.FieldType.int)]
set_option maxRecDepth 65536 in
theorem codes_eq : words1.filter isCode = codes1 := rfl
theorem w_codes : ∀ c ∈ words1.filter isCode, c.before args0 about1 = true := by
  rw [codes_eq]
  intro c hc
  simp only [codes1, List.mem_cons, List.not_mem_nil, or_false] at hc
  rcases hc with rfl | rfl
  · exact w_c0
  · exact w_c1
set_option maxRecDepth 65536 in
theorem w_t1 : words1.all (fun c => isCode c || c.before args0 about1) = true := by decide +kernel
theorem w_tables : (allAtoms (Jvm.Cond.code x code maxLocals ret :: tables_1)).before args0 about1 = true := by
  rw [allAtoms_all]
  show words1.all (fun c => c.before args0 about1) = true
  refine all_split ?_ w_codes
  rw [w_t1]
set_option maxRecDepth 65536 in
theorem w_case : (Jvm.Cond.and given_1 narrow_1).before args0 about1 = true := by decide +kernel
theorem w_applies : (headSpec (Jvm.Cond.code x code maxLocals ret :: tables_1) room_1).applies x e0.platform about1 = true :=
  (Spec.applies_iff w_frames).mpr ⟨w_running, w_runnable, w_alone, w_named, w_hears, w_ripe, w_room, w_tables⟩
theorem atStart : AtStart classFile x code maxLocals ret World_1 tables_1 room_1 Calls_1 rest_1 Pre_1 launch0 p0 e0 about1 theMethod args0 below0 :=
  ⟨lists_1, trivial, launch0.admits_env _ _ _, launch0.least_env, fairChoices_fair.cas, fairChoices_fair.clock, w_frames, w_args, w_heap, w_applies, trivial, trivial, w_case⟩
end start1
theorem witness_1 : WitnessClaimed_1 := ⟨start1.p0, start1.e0, start1.about1, start1.theMethod, start1.args0, start1.below0, start1.atStart⟩
end Jvm.Pilot.@@N@@
