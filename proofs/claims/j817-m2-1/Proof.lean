import JvmDerived
import JvmDerived.Pilot.@@N@@Statement
import JvmDerived.Pilot.@@N@@Code
set_option linter.unusedVariables false
set_option linter.unusedSimpArgs false
@@BLOCK:LamKit.lean.txt@@
namespace Jvm.Pilot.@@N@@
open Jvm Jvm.ClassFile Sem Op Lib Jvm.Free Jvm.Stand Jvm.LawKit Jvm.RoadKit Bundle Jvm.Pilot.@@N@@.Jvm.D
/-! A walk in continuation form over the library's Stand (one rule an instruction; the state T, the tables, the written places and the start's tables are hidden in Wk). -/
abbrev Cx : Type := Program × Launch × Env × Room × State × MethodId × Array Value × List Frame × Method × Code × Bool × (Option Value → Heap → Prop)
/-- what is known of the tables at hand: Cln: the start's own (nothing interned so far); Dty: nothing -/
abbrev Ph : Type := State → Vm → Prop
def Cln : Ph := fun s v => v = s.vm
def Dty : Ph := fun _ _ => True
def PhA : Bool → Ph → Ph
  | false, ph => ph
  | true, _ => Dty
abbrev Els : Type := List (String × Nat)
theorem chv_nil {Z : State} {vm : Vm} {h : Heap} : CHv Z [] vm h := fun p hp => by cases hp
def Cx.me (K : Cx) : MethodId := K.2.2.2.2.2.1
def EndW : Bool → State → Outcome → State → List Loc → Nat → Nat → Prop
  | false, s, o, t, L, k, n => FrameEnd s o t L k n
  | true, s, o, t, L, k, n => ReturnedEndW s o t L k n
def Pst (Z : State) (n : Nat) (Q : Option Value → Heap → Prop) (v : Option Value) (h : Heap) (L : List Loc) : Prop := Q v h ∧ Fr Z.heap.size L ∧ Ext Z.heap h ∧ n ≤ h.size
def rV (Q : Value → Heap → Prop) (v : Option Value) (h : Heap) : Prop := ∃ x, v = some x ∧ Q x h
def rU (Q : Heap → Prop) (v : Option Value) (h : Heap) : Prop := v = none ∧ Q h
def Wk (Z : State) : Cx → Ph → State → Heap → Nat → Nat → Prop
  | (p, l, e, R, s, m, args, below, meth, c, w, Q), ph, T, h, n1, n2 => ∃ vm0 k0 locs, Stand p l e R (s.setVm vm0) m args below meth c T locs n1 n2 ∧ s.Since vm0 k0 ∧ k0 ≤ T.heap.size ∧ Z.Warmed39 vm0 ∧ Fr Z.heap.size locs ∧ T.heap = h ∧ ph s vm0
def Go (Z : State) : Cx → State → Prop
  | (p, l, e, R, s, m, args, below, meth, c, w, Q), st => ∃ s₂ o, Steps p.tables e below st s₂ ∧ s₂.status = .running ∧ Ended s₂ below o ∧ ∃ v L, o = .returned v ∧ Pst Z s.heap.size Q v s₂.heap L ∧ EndW w s o s₂ L R.cells R.slots
def Run (Z : State) (K : Cx) (ph : Ph) (h : Heap) (n1 n2 pc : Nat) (ls : Array Slot) (st : List Value) : Prop := ∀ T, Ext Z.heap h → Wk Z K ph T h n1 n2 → Go Z K (T.setTop (mkF K.me pc ls st))
def Ok (Z : State) : Cx → Els → String → ByteArray → Nat → Option FieldType → String → Room → Launch → Bool → (Option Value → Heap → Prop) → Prop
  | (p, l, e, R, s, m, args, below, meth, c, w, Q), EL, own, code, maxL, ret, nm, R0, l0, w0, Q0 => p.tables.exec = Jvm.exec ∧ c.code = code ∧ c.maxLocals = maxL ∧ (∀ vm0, Z.Warmed39 vm0 → vm0.findClass own = some m.cls) ∧ meth.sig.returnType = ret ∧ meth.locks = false ∧ meth.name = nm ∧ R = R0 ∧ l = l0 ∧ w = w0 ∧ Q = Q0 ∧ CHv Z EL s.vm Z.heap
def Con (l : Launch) (Z : State) (EL : Els) (ws : List Jvm.Cond) (w : Bool) (y : MethodName) (bytes : ByteArray) (maxL : Nat) (ret : Option FieldType) (R : Room) (as : Array Value) (h0 : Heap) (Q : Option Value → Heap → Prop) : Prop :=
  Ext Z.heap h0 → MetFree l y (head1 (Jvm.Cond.code y bytes maxL ret :: ws) R) (fun a U => a = as ∧ Z.Warmed39 U.vm ∧ U.heap = h0 ∧ CHv Z EL U.vm Z.heap) (fun _ _ _ _ _ => True) (fun _ U o U' => ∃ v L, o = .returned v ∧ Pst Z h0.size Q v U'.heap L ∧ EndW w U o U' L R.cells R.slots)
def Pay (Z : State) (EL : Els) : Bool → Launch → Room → MethodName → Nat → Nat → Array Value → Heap → Nat → Nat → (Option Value → Heap → Prop) → Prop
  | false, l, R, y, len, W, as, h, k, n, Q => ∀ (p : Program) (e : Env) (below : List Frame) (s : State) (args : Array Value), Z.Warmed39 s.vm → CHv Z EL s.vm Z.heap → Ext Z.heap h →
      Back l R p e below s args y len W (fun A a => a = as ∧ A.U.heap = h ∧ A.cells + k ≤ R.cells ∧ A.slots + n ≤ R.slots) (fun A _ v B => ∃ L, Pst Z h.size Q v B.U.heap L ∧ B.locs = A.locs ++ L ∧ B.cells = A.cells + k ∧ B.slots = A.slots + n)
  | true, l, R, y, len, W, as, h, k, n, Q => ∀ (p : Program) (e : Env) (below : List Frame) (s : State) (args : Array Value), Z.Warmed39 s.vm → CHv Z EL s.vm Z.heap → Ext Z.heap h →
      BackS l R p e below s args y len W (fun A a => a = as ∧ A.U.heap = h ∧ A.cells + k ≤ R.cells ∧ A.slots + n ≤ R.slots) (fun A _ v B => ∃ L, Pst Z h.size Q v B.U.heap L ∧ B.locs = A.locs ++ L ∧ B.cells = A.cells + k ∧ B.slots = A.slots + n)
section Walk
variable {Z : State} {K : Cx} {EL : Els} {ph : Ph} {own : String} {code : ByteArray} {maxL : Nat} {ret : Option FieldType} {nm : String} {R : Room} {l : Launch} {w : Bool} {Q : Option Value → Heap → Prop} {h : Heap} {n1 n2 pc pc' pcY : Nat} {ls ls' : Array Slot} {st st' : List Value} {a0 : Array Value}
theorem rS (ok : Ok Z K EL own code maxL ret nm R l w Q) (hr : Run Z K ph h n1 n2 pc' ls' st')
    (f : ∀ (p : Program) (e : Env) (below : List Frame) (m : MethodId) (c : Code) (T : State), At T m c below → p.tables.exec = Jvm.exec → c.code = code → ∀ t, Steps p.tables e below (T.setTop (mkF m pc' ls' st')) t → Steps p.tables e below (T.setTop (mkF m pc ls st)) t) : Run Z K ph h n1 n2 pc ls st := by
  obtain ⟨p, l1, e, R1, s, m, args, below, meth, c, w1, Q1⟩ := K
  obtain ⟨hx, hby, -⟩ := ok
  intro T X W
  obtain ⟨s₂, o, h1, r⟩ := hr T X W
  obtain ⟨vm0, k0, locs, S, -⟩ := W
  exact ⟨s₂, o, f p e below m c T S.here hx hby _ h1, r⟩
theorem rX (ok : Ok Z K EL own code maxL ret nm R l w Q) (hr : Run Z K ph h n1 n2 pc' ls' st')
    (f : ∀ (p : Program) (e : Env) (s : State) (m : MethodId) (args : Array Value) (below : List Frame) (meth : Method) (c : Code) (T : State) (locs : List Loc), Stand p l e R s m args below meth c T locs n1 n2 → p.tables.exec = Jvm.exec → c.code = code → Z.Warmed39 s.vm → s.vm.findClass own = some m.cls → T.heap = h →
      ∀ t, Steps p.tables e below (T.setTop (mkF m pc' ls' st')) t → Steps p.tables e below (T.setTop (mkF m pc ls st)) t) : Run Z K ph h n1 n2 pc ls st := by
  obtain ⟨p, l1, e, R1, s, m, args, below, meth, c, w1, Q1⟩ := K
  obtain ⟨hx, hby, -, ho, -, -, -, rfl, rfl, -⟩ := ok
  intro T X W
  obtain ⟨s₂, o, h1, r⟩ := hr T X W
  obtain ⟨vm0, k0, locs, S, -, -, hZ, -, eT, -⟩ := W
  exact ⟨s₂, o, f p e (s.setVm vm0) m args below meth c T locs S hx hby hZ (ho vm0 hZ) eT _ h1, r⟩
theorem rH (ok : Ok Z K EL own code maxL ret nm R l w Q) {P : Heap → Prop} {m1 m2 : Nat}
    (f : ∀ (p : Program) (e : Env) (s : State) (m : MethodId) (args : Array Value) (below : List Frame) (meth : Method) (c : Code) (T : State) (locs : List Loc), Stand p l e R s m args below meth c T locs n1 n2 → p.tables.exec = Jvm.exec → c.code = code → c.maxLocals = maxL → Z.Warmed39 s.vm → s.vm.findClass own = some m.cls → meth.name = nm → T.heap = h → Ext Z.heap h →
      ∃ T' h' L, Stand p l e R s m args below meth c T' (locs ++ L) m1 m2 ∧ T'.heap = h' ∧ Fr Z.heap.size L ∧ h.size ≤ h'.size ∧ Ext Z.heap h' ∧ P h' ∧ ∀ t, Steps p.tables e below (T'.setTop (mkF m pc' ls' st')) t → Steps p.tables e below (T.setTop (mkF m pc ls st)) t)
    (hr : ∀ h', P h' → Run Z K ph h' m1 m2 pc' ls' st') : Run Z K ph h n1 n2 pc ls st := by
  obtain ⟨p, l1, e, R1, s, m, args, below, meth, c, w1, Q1⟩ := K
  obtain ⟨hx, hby, hml, ho, hret, hlk, hnm, rfl, rfl, rfl, rfl, hCH⟩ := ok
  intro T X W
  obtain ⟨vm0, k0, locs, S, hS, hk, hZ, hF, eT, hw⟩ := W
  obtain ⟨T', h', L, S', eT', hL, hle, hX', hP, hst⟩ := f p e (s.setVm vm0) m args below meth c T locs S hx hby hml hZ (ho vm0 hZ) hnm eT X
  obtain ⟨s₂, o, h1, r⟩ := hr h' hP T' hX' ⟨vm0, k0, locs ++ L, S', hS, by rw [eT']; rw [eT] at hk; exact Nat.le_trans hk hle, hZ, hF.app hL, eT', hw⟩
  exact ⟨s₂, o, hst _ h1, r⟩
theorem r_old (f : Ext Z.heap h → Run Z K ph h n1 n2 pc ls st) : Run Z K ph h n1 n2 pc ls st := fun T X W => f X T X W
theorem r_more {m1 m2 : Nat} (hc : n1 ≤ m1) (hn : n2 ≤ m2) (hr : Run Z K ph h m1 m2 pc ls st) : Run Z K ph h n1 n2 pc ls st := by
  obtain ⟨p, l1, e, R1, s, m, args, below, meth, c, w1, Q1⟩ := K
  intro T X W
  obtain ⟨vm0, k0, locs, S, r⟩ := W
  exact hr T X ⟨vm0, k0, locs, S.more hc hn, r⟩

theorem r_iadd (ok : Ok Z K EL own code maxL ret nm R l w Q) (hp : pc + 1 = pc') {x y : Int32} (hd : decode code pc = .ok (.iadd, 1)) (hr : Run Z K ph h n1 n2 pc' ls (.int (x + y) :: st)) : Run Z K ph h n1 n2 pc ls (.int y :: .int x :: st) := by
  subst hp; exact rS ok hr fun p e below m c T A hx hby t => XS.iadd (g := mkF m pc ls (.int y :: .int x :: st)) A hx rfl (hb hby hd) rfl
theorem r_isub (ok : Ok Z K EL own code maxL ret nm R l w Q) (hp : pc + 1 = pc') {x y : Int32} (hd : decode code pc = .ok (.isub, 1)) (hr : Run Z K ph h n1 n2 pc' ls (.int (x - y) :: st)) : Run Z K ph h n1 n2 pc ls (.int y :: .int x :: st) := by
  subst hp; exact rS ok hr fun p e below m c T A hx hby t => XS.isub (g := mkF m pc ls (.int y :: .int x :: st)) A hx rfl (hb hby hd) rfl
theorem r_imul (ok : Ok Z K EL own code maxL ret nm R l w Q) (hp : pc + 1 = pc') {x y : Int32} (hd : decode code pc = .ok (.imul, 1)) (hr : Run Z K ph h n1 n2 pc' ls (.int (x * y) :: st)) : Run Z K ph h n1 n2 pc ls (.int y :: .int x :: st) := by
  subst hp; exact rS ok hr fun p e below m c T A hx hby t => XS.imul (g := mkF m pc ls (.int y :: .int x :: st)) A hx rfl (hb hby hd) rfl
theorem r_iand (ok : Ok Z K EL own code maxL ret nm R l w Q) (hp : pc + 1 = pc') {x y : Int32} (hd : decode code pc = .ok (.iand, 1)) (hr : Run Z K ph h n1 n2 pc' ls (.int (x &&& y) :: st)) : Run Z K ph h n1 n2 pc ls (.int y :: .int x :: st) := by
  subst hp; exact rS ok hr fun p e below m c T A hx hby t => XS.iand (g := mkF m pc ls (.int y :: .int x :: st)) A hx rfl (hb hby hd) rfl
theorem r_ior (ok : Ok Z K EL own code maxL ret nm R l w Q) (hp : pc + 1 = pc') {x y : Int32} (hd : decode code pc = .ok (.ior, 1)) (hr : Run Z K ph h n1 n2 pc' ls (.int (x ||| y) :: st)) : Run Z K ph h n1 n2 pc ls (.int y :: .int x :: st) := by
  subst hp; exact rS ok hr fun p e below m c T A hx hby t => XS.ior (g := mkF m pc ls (.int y :: .int x :: st)) A hx rfl (hb hby hd) rfl
theorem r_ixor (ok : Ok Z K EL own code maxL ret nm R l w Q) (hp : pc + 1 = pc') {x y : Int32} (hd : decode code pc = .ok (.ixor, 1)) (hr : Run Z K ph h n1 n2 pc' ls (.int (x ^^^ y) :: st)) : Run Z K ph h n1 n2 pc ls (.int y :: .int x :: st) := by
  subst hp; exact rS ok hr fun p e below m c T A hx hby t => XS.ixor (g := mkF m pc ls (.int y :: .int x :: st)) A hx rfl (hb hby hd) rfl
theorem r_ishl (ok : Ok Z K EL own code maxL ret nm R l w Q) (hp : pc + 1 = pc') {x y : Int32} (hd : decode code pc = .ok (.ishl, 1)) (hr : Run Z K ph h n1 n2 pc' ls (.int (x <<< (y &&& 31)) :: st)) : Run Z K ph h n1 n2 pc ls (.int y :: .int x :: st) := by
  subst hp; exact rS ok hr fun p e below m c T A hx hby t => XS.ishl (g := mkF m pc ls (.int y :: .int x :: st)) A hx rfl (hb hby hd) rfl
theorem r_ishr (ok : Ok Z K EL own code maxL ret nm R l w Q) (hp : pc + 1 = pc') {x y : Int32} (hd : decode code pc = .ok (.ishr, 1)) (hr : Run Z K ph h n1 n2 pc' ls (.int (x >>> (y &&& 31)) :: st)) : Run Z K ph h n1 n2 pc ls (.int y :: .int x :: st) := by
  subst hp; exact rS ok hr fun p e below m c T A hx hby t => XS.ishr (g := mkF m pc ls (.int y :: .int x :: st)) A hx rfl (hb hby hd) rfl
theorem r_iushr (ok : Ok Z K EL own code maxL ret nm R l w Q) (hp : pc + 1 = pc') {x y : Int32} (hd : decode code pc = .ok (.iushr, 1)) (hr : Run Z K ph h n1 n2 pc' ls (.int ((x.toUInt32 >>> (y &&& 31).toUInt32).toInt32) :: st)) : Run Z K ph h n1 n2 pc ls (.int y :: .int x :: st) := by
  subst hp; exact rS ok hr fun p e below m c T A hx hby t => XS.iushr (g := mkF m pc ls (.int y :: .int x :: st)) A hx rfl (hb hby hd) rfl
theorem r_ladd (ok : Ok Z K EL own code maxL ret nm R l w Q) (hp : pc + 1 = pc') {x y : Int64} (hd : decode code pc = .ok (.ladd, 1)) (hr : Run Z K ph h n1 n2 pc' ls (.long (x + y) :: st)) : Run Z K ph h n1 n2 pc ls (.long y :: .long x :: st) := by
  subst hp; exact rS ok hr fun p e below m c T A hx hby t => XS.ladd (g := mkF m pc ls (.long y :: .long x :: st)) A hx rfl (hb hby hd) rfl
theorem r_lsub (ok : Ok Z K EL own code maxL ret nm R l w Q) (hp : pc + 1 = pc') {x y : Int64} (hd : decode code pc = .ok (.lsub, 1)) (hr : Run Z K ph h n1 n2 pc' ls (.long (x - y) :: st)) : Run Z K ph h n1 n2 pc ls (.long y :: .long x :: st) := by
  subst hp; exact rS ok hr fun p e below m c T A hx hby t => XS.lsub (g := mkF m pc ls (.long y :: .long x :: st)) A hx rfl (hb hby hd) rfl
theorem r_lmul (ok : Ok Z K EL own code maxL ret nm R l w Q) (hp : pc + 1 = pc') {x y : Int64} (hd : decode code pc = .ok (.lmul, 1)) (hr : Run Z K ph h n1 n2 pc' ls (.long (x * y) :: st)) : Run Z K ph h n1 n2 pc ls (.long y :: .long x :: st) := by
  subst hp; exact rS ok hr fun p e below m c T A hx hby t => XS.lmul (g := mkF m pc ls (.long y :: .long x :: st)) A hx rfl (hb hby hd) rfl
theorem r_land (ok : Ok Z K EL own code maxL ret nm R l w Q) (hp : pc + 1 = pc') {x y : Int64} (hd : decode code pc = .ok (.land, 1)) (hr : Run Z K ph h n1 n2 pc' ls (.long (x &&& y) :: st)) : Run Z K ph h n1 n2 pc ls (.long y :: .long x :: st) := by
  subst hp; exact rS ok hr fun p e below m c T A hx hby t => XS.land (g := mkF m pc ls (.long y :: .long x :: st)) A hx rfl (hb hby hd) rfl
theorem r_lor (ok : Ok Z K EL own code maxL ret nm R l w Q) (hp : pc + 1 = pc') {x y : Int64} (hd : decode code pc = .ok (.lor, 1)) (hr : Run Z K ph h n1 n2 pc' ls (.long (x ||| y) :: st)) : Run Z K ph h n1 n2 pc ls (.long y :: .long x :: st) := by
  subst hp; exact rS ok hr fun p e below m c T A hx hby t => XS.lor (g := mkF m pc ls (.long y :: .long x :: st)) A hx rfl (hb hby hd) rfl
theorem r_lxor (ok : Ok Z K EL own code maxL ret nm R l w Q) (hp : pc + 1 = pc') {x y : Int64} (hd : decode code pc = .ok (.lxor, 1)) (hr : Run Z K ph h n1 n2 pc' ls (.long (x ^^^ y) :: st)) : Run Z K ph h n1 n2 pc ls (.long y :: .long x :: st) := by
  subst hp; exact rS ok hr fun p e below m c T A hx hby t => XS.lxor (g := mkF m pc ls (.long y :: .long x :: st)) A hx rfl (hb hby hd) rfl
theorem r_lshl (ok : Ok Z K EL own code maxL ret nm R l w Q) (hp : pc + 1 = pc') {x : Int64} {y : Int32} (hd : decode code pc = .ok (.lshl, 1)) (hr : Run Z K ph h n1 n2 pc' ls (.long (x <<< (y &&& 0x3f).toInt64) :: st)) : Run Z K ph h n1 n2 pc ls (.int y :: .long x :: st) := by
  subst hp; exact rS ok hr fun p e below m c T A hx hby t => XS.lshl (g := mkF m pc ls (.int y :: .long x :: st)) A hx rfl (hb hby hd) rfl
theorem r_lshr (ok : Ok Z K EL own code maxL ret nm R l w Q) (hp : pc + 1 = pc') {x : Int64} {y : Int32} (hd : decode code pc = .ok (.lshr, 1)) (hr : Run Z K ph h n1 n2 pc' ls (.long (x >>> (y &&& 0x3f).toInt64) :: st)) : Run Z K ph h n1 n2 pc ls (.int y :: .long x :: st) := by
  subst hp; exact rS ok hr fun p e below m c T A hx hby t => XS.lshr (g := mkF m pc ls (.int y :: .long x :: st)) A hx rfl (hb hby hd) rfl
theorem r_lushr (ok : Ok Z K EL own code maxL ret nm R l w Q) (hp : pc + 1 = pc') {x : Int64} {y : Int32} (hd : decode code pc = .ok (.lushr, 1)) (hr : Run Z K ph h n1 n2 pc' ls (.long ((x.toUInt64 >>> (y &&& 0x3f).toInt64.toUInt64).toInt64) :: st)) : Run Z K ph h n1 n2 pc ls (.int y :: .long x :: st) := by
  subst hp; exact rS ok hr fun p e below m c T A hx hby t => XS.lushr (g := mkF m pc ls (.int y :: .long x :: st)) A hx rfl (hb hby hd) rfl
theorem r_ineg (ok : Ok Z K EL own code maxL ret nm R l w Q) (hp : pc + 1 = pc') {x : Int32} (hd : decode code pc = .ok (.ineg, 1)) (hr : Run Z K ph h n1 n2 pc' ls (.int (-x) :: st)) : Run Z K ph h n1 n2 pc ls (.int x :: st) := by
  subst hp; exact rS ok hr fun p e below m c T A hx hby t => XS.ineg (g := mkF m pc ls (.int x :: st)) A hx rfl (hb hby hd) rfl
theorem r_lneg (ok : Ok Z K EL own code maxL ret nm R l w Q) (hp : pc + 1 = pc') {x : Int64} (hd : decode code pc = .ok (.lneg, 1)) (hr : Run Z K ph h n1 n2 pc' ls (.long (-x) :: st)) : Run Z K ph h n1 n2 pc ls (.long x :: st) := by
  subst hp; exact rS ok hr fun p e below m c T A hx hby t => XS.lneg (g := mkF m pc ls (.long x :: st)) A hx rfl (hb hby hd) rfl
theorem r_i2l (ok : Ok Z K EL own code maxL ret nm R l w Q) (hp : pc + 1 = pc') {x : Int32} (hd : decode code pc = .ok (.i2l, 1)) (hr : Run Z K ph h n1 n2 pc' ls (.long (x.toInt64) :: st)) : Run Z K ph h n1 n2 pc ls (.int x :: st) := by
  subst hp; exact rS ok hr fun p e below m c T A hx hby t => XS.i2l (g := mkF m pc ls (.int x :: st)) A hx rfl (hb hby hd) rfl
theorem r_l2i (ok : Ok Z K EL own code maxL ret nm R l w Q) (hp : pc + 1 = pc') {x : Int64} (hd : decode code pc = .ok (.l2i, 1)) (hr : Run Z K ph h n1 n2 pc' ls (.int (x.toInt32) :: st)) : Run Z K ph h n1 n2 pc ls (.long x :: st) := by
  subst hp; exact rS ok hr fun p e below m c T A hx hby t => XS.l2i (g := mkF m pc ls (.long x :: st)) A hx rfl (hb hby hd) rfl
theorem r_i2b (ok : Ok Z K EL own code maxL ret nm R l w Q) (hp : pc + 1 = pc') {x : Int32} (hd : decode code pc = .ok (.i2b, 1)) (hr : Run Z K ph h n1 n2 pc' ls (.int (x.toInt8.toInt32) :: st)) : Run Z K ph h n1 n2 pc ls (.int x :: st) := by
  subst hp; exact rS ok hr fun p e below m c T A hx hby t => XS.i2b (g := mkF m pc ls (.int x :: st)) A hx rfl (hb hby hd) rfl
theorem r_i2s (ok : Ok Z K EL own code maxL ret nm R l w Q) (hp : pc + 1 = pc') {x : Int32} (hd : decode code pc = .ok (.i2s, 1)) (hr : Run Z K ph h n1 n2 pc' ls (.int (x.toInt16.toInt32) :: st)) : Run Z K ph h n1 n2 pc ls (.int x :: st) := by
  subst hp; exact rS ok hr fun p e below m c T A hx hby t => XS.i2s (g := mkF m pc ls (.int x :: st)) A hx rfl (hb hby hd) rfl
theorem r_i2c (ok : Ok Z K EL own code maxL ret nm R l w Q) (hp : pc + 1 = pc') {x : Int32} (hd : decode code pc = .ok (.i2c, 1)) (hr : Run Z K ph h n1 n2 pc' ls (.int (x.toUInt32.toUInt16.toUInt32.toInt32) :: st)) : Run Z K ph h n1 n2 pc ls (.int x :: st) := by
  subst hp; exact rS ok hr fun p e below m c T A hx hby t => XS.i2c (g := mkF m pc ls (.int x :: st)) A hx rfl (hb hby hd) rfl
theorem r_iload (ok : Ok Z K EL own code maxL ret nm R l w Q) (hp : pc + 2 = pc') {k : Nat} {v : Int32} (hd : decode code pc = .ok (.iload k, 2)) (hl : ls[k]? = some (.val (.int v))) (hr : Run Z K ph h n1 n2 pc' ls (.int v :: st)) : Run Z K ph h n1 n2 pc ls st := by
  subst hp; exact rS ok hr fun p e below m c T A hx hby t => XS.iload (g := mkF m pc ls st) A hx rfl (hb hby hd) hl
theorem r_iloadN (ok : Ok Z K EL own code maxL ret nm R l w Q) (hp : pc + 1 = pc') {k : Fin 4} {v : Int32} (hd : decode code pc = .ok (.iload_n k, 1)) (hl : ls[k.val]? = some (.val (.int v))) (hr : Run Z K ph h n1 n2 pc' ls (.int v :: st)) : Run Z K ph h n1 n2 pc ls st := by
  subst hp; exact rS ok hr fun p e below m c T A hx hby t => XS.iloadN (g := mkF m pc ls st) A hx rfl (hb hby hd) hl
theorem r_istore (ok : Ok Z K EL own code maxL ret nm R l w Q) (hp : pc + 2 = pc') {x : Int32} {k : Nat} {ls' : Int32 → Array Slot} (hd : decode code pc = .ok (.istore k, 2)) (hl : ∀ z, storeLocals ls k (.int z) = some (ls' z)) (hr : ∀ z, z = x → Run Z K ph h n1 n2 pc' (ls' z) st) : Run Z K ph h n1 n2 pc ls (.int x :: st) := by
  subst hp; exact rS ok (hr x rfl) fun p e below m c T A hx hby t => XS.istore (g := mkF m pc ls (.int x :: st)) A hx rfl (hb hby hd) rfl (hl x)
theorem r_istoreN (ok : Ok Z K EL own code maxL ret nm R l w Q) (hp : pc + 1 = pc') {x : Int32} {k : Fin 4} {ls' : Int32 → Array Slot} (hd : decode code pc = .ok (.istore_n k, 1)) (hl : ∀ z, storeLocals ls k.val (.int z) = some (ls' z)) (hr : ∀ z, z = x → Run Z K ph h n1 n2 pc' (ls' z) st) : Run Z K ph h n1 n2 pc ls (.int x :: st) := by
  subst hp; exact rS ok (hr x rfl) fun p e below m c T A hx hby t => XS.istoreN (g := mkF m pc ls (.int x :: st)) A hx rfl (hb hby hd) rfl (hl x)
theorem r_lload (ok : Ok Z K EL own code maxL ret nm R l w Q) (hp : pc + 2 = pc') {k : Nat} {v : Int64} (hd : decode code pc = .ok (.lload k, 2)) (hl : ls[k]? = some (.val (.long v))) (hr : Run Z K ph h n1 n2 pc' ls (.long v :: st)) : Run Z K ph h n1 n2 pc ls st := by
  subst hp; exact rS ok hr fun p e below m c T A hx hby t => XS.lload (g := mkF m pc ls st) A hx rfl (hb hby hd) hl
theorem r_lloadN (ok : Ok Z K EL own code maxL ret nm R l w Q) (hp : pc + 1 = pc') {k : Fin 4} {v : Int64} (hd : decode code pc = .ok (.lload_n k, 1)) (hl : ls[k.val]? = some (.val (.long v))) (hr : Run Z K ph h n1 n2 pc' ls (.long v :: st)) : Run Z K ph h n1 n2 pc ls st := by
  subst hp; exact rS ok hr fun p e below m c T A hx hby t => XS.lloadN (g := mkF m pc ls st) A hx rfl (hb hby hd) hl
theorem r_lstore (ok : Ok Z K EL own code maxL ret nm R l w Q) (hp : pc + 2 = pc') {x : Int64} {k : Nat} {ls' : Int64 → Array Slot} (hd : decode code pc = .ok (.lstore k, 2)) (hl : ∀ z, storeLocals ls k (.long z) = some (ls' z)) (hr : ∀ z, z = x → Run Z K ph h n1 n2 pc' (ls' z) st) : Run Z K ph h n1 n2 pc ls (.long x :: st) := by
  subst hp; exact rS ok (hr x rfl) fun p e below m c T A hx hby t => XS.lstore (g := mkF m pc ls (.long x :: st)) A hx rfl (hb hby hd) rfl (hl x)
theorem r_lstoreN (ok : Ok Z K EL own code maxL ret nm R l w Q) (hp : pc + 1 = pc') {x : Int64} {k : Fin 4} {ls' : Int64 → Array Slot} (hd : decode code pc = .ok (.lstore_n k, 1)) (hl : ∀ z, storeLocals ls k.val (.long z) = some (ls' z)) (hr : ∀ z, z = x → Run Z K ph h n1 n2 pc' (ls' z) st) : Run Z K ph h n1 n2 pc ls (.long x :: st) := by
  subst hp; exact rS ok (hr x rfl) fun p e below m c T A hx hby t => XS.lstoreN (g := mkF m pc ls (.long x :: st)) A hx rfl (hb hby hd) rfl (hl x)
theorem r_astore (ok : Ok Z K EL own code maxL ret nm R l w Q) (hp : pc + 2 = pc') {x : Value} {k : Nat} {ls' : Array Slot} (hd : decode code pc = .ok (.astore k, 2)) (hv : x.isRef = true) (hl : storeLocals ls k x = some ls') (hr : Run Z K ph h n1 n2 pc' ls' st) : Run Z K ph h n1 n2 pc ls (x :: st) := by
  subst hp; exact rS ok hr fun p e below m c T A hx hby t => XS.astore (g := mkF m pc ls (x :: st)) A hx rfl (hb hby hd) rfl hv hl
theorem r_aload (ok : Ok Z K EL own code maxL ret nm R l w Q) (hp : pc + 2 = pc') {v : Value} {k : Nat} (hd : decode code pc = .ok (.aload k, 2)) (hl : ls[k]? = some (.val v)) (hv : v.isRef = true) (hr : Run Z K ph h n1 n2 pc' ls (v :: st)) : Run Z K ph h n1 n2 pc ls st := by
  subst hp; exact rS ok hr fun p e below m c T A hx hby t => XS.aload (g := mkF m pc ls st) A hx rfl (hb hby hd) hl hv
theorem r_astoreN (ok : Ok Z K EL own code maxL ret nm R l w Q) (hp : pc + 1 = pc') {x : Value} {k : Fin 4} {ls' : Array Slot} (hd : decode code pc = .ok (.astore_n k, 1)) (hv : x.isRef = true) (hl : storeLocals ls k.val x = some ls') (hr : Run Z K ph h n1 n2 pc' ls' st) : Run Z K ph h n1 n2 pc ls (x :: st) := by
  subst hp; exact rS ok hr fun p e below m c T A hx hby t => XS.astoreN (g := mkF m pc ls (x :: st)) A hx rfl (hb hby hd) rfl hv hl
theorem r_aloadN (ok : Ok Z K EL own code maxL ret nm R l w Q) (hp : pc + 1 = pc') {v : Value} {k : Fin 4} (hd : decode code pc = .ok (.aload_n k, 1)) (hl : ls[k.val]? = some (.val v)) (hv : v.isRef = true) (hr : Run Z K ph h n1 n2 pc' ls (v :: st)) : Run Z K ph h n1 n2 pc ls st := by
  subst hp; exact rS ok hr fun p e below m c T A hx hby t => XS.aloadN (g := mkF m pc ls st) A hx rfl (hb hby hd) hl hv
theorem r_iconst (ok : Ok Z K EL own code maxL ret nm R l w Q) (hp : pc + 1 = pc') {i : Int} (hd : decode code pc = .ok (.iconst i, 1)) (hr : Run Z K ph h n1 n2 pc' ls (.int (Int32.ofInt i) :: st)) : Run Z K ph h n1 n2 pc ls st := by
  subst hp; exact rS ok hr fun p e below m c T A hx hby t => XS.iconst (g := mkF m pc ls st) A hx rfl (hb hby hd)
theorem r_bipush (ok : Ok Z K EL own code maxL ret nm R l w Q) (hp : pc + 2 = pc') {i : Int} (hd : decode code pc = .ok (.bipush i, 2)) (hr : Run Z K ph h n1 n2 pc' ls (.int (Int8.ofInt i).toInt32 :: st)) : Run Z K ph h n1 n2 pc ls st := by
  subst hp; exact rS ok hr fun p e below m c T A hx hby t => XS.bipush (g := mkF m pc ls st) A hx rfl (hb hby hd)
theorem r_iconstV (ok : Ok Z K EL own code maxL ret nm R l w Q) (hp : pc + 1 = pc') (v : Int32) {i : Int} (hd : decode code pc = .ok (.iconst i, 1)) (hv : Int32.ofInt i = v) (hr : Run Z K ph h n1 n2 pc' ls (.int v :: st)) : Run Z K ph h n1 n2 pc ls st := by
  subst hp hv; exact rS ok hr fun p e below m c T A hx hby t => XS.iconst (g := mkF m pc ls st) A hx rfl (hb hby hd)
theorem r_bipushV (ok : Ok Z K EL own code maxL ret nm R l w Q) (hp : pc + 2 = pc') (v : Int32) {i : Int} (hd : decode code pc = .ok (.bipush i, 2)) (hv : (Int8.ofInt i).toInt32 = v) (hr : Run Z K ph h n1 n2 pc' ls (.int v :: st)) : Run Z K ph h n1 n2 pc ls st := by
  subst hp hv; exact rS ok hr fun p e below m c T A hx hby t => XS.bipush (g := mkF m pc ls st) A hx rfl (hb hby hd)
theorem r_sipushV (ok : Ok Z K EL own code maxL ret nm R l w Q) (hp : pc + 3 = pc') (v : Int32) {i : Int} (hd : decode code pc = .ok (.sipush i, 3)) (hv : (Int16.ofInt i).toInt32 = v) (hr : Run Z K ph h n1 n2 pc' ls (.int v :: st)) : Run Z K ph h n1 n2 pc ls st := by
  subst hp hv; exact rS ok hr fun p e below m c T A hx hby t => XS.sipush (g := mkF m pc ls st) A hx rfl (hb hby hd)
theorem r_lconst (ok : Ok Z K EL own code maxL ret nm R l w Q) (hp : pc + 1 = pc') (v : Int64) {k : Fin 2} (hd : decode code pc = .ok (.lconst k, 1)) (hv : (k.val : Nat).toInt64 = v) (hr : Run Z K ph h n1 n2 pc' ls (.long v :: st)) : Run Z K ph h n1 n2 pc ls st := by
  subst hp hv; exact rS ok hr fun p e below m c T A hx hby t => XS.lconst (g := mkF m pc ls st) A hx rfl (hb hby hd)
theorem r_aconst_null (ok : Ok Z K EL own code maxL ret nm R l w Q) (hp : pc + 1 = pc') (hd : decode code pc = .ok (.aconst_null, 1)) (hr : Run Z K ph h n1 n2 pc' ls (.null :: st)) : Run Z K ph h n1 n2 pc ls st := by
  subst hp; exact rS ok hr fun p e below m c T A hx hby t => XS.aconstNull (g := mkF m pc ls st) A hx rfl (hb hby hd)
theorem r_dup (ok : Ok Z K EL own code maxL ret nm R l w Q) (hp : pc + 1 = pc') {x : Value} (hd : decode code pc = .ok (.dup, 1)) (hc : x.category = 1) (hr : Run Z K ph h n1 n2 pc' ls (x :: x :: st)) : Run Z K ph h n1 n2 pc ls (x :: st) := by
  subst hp; exact rS ok hr fun p e below m c T A hx hby t => XS.dup (g := mkF m pc ls (x :: st)) A hx rfl (hb hby hd) rfl hc
theorem r_dup_x1 (ok : Ok Z K EL own code maxL ret nm R l w Q) (hp : pc + 1 = pc') {x y : Value} (hd : decode code pc = .ok (.dup_x1, 1)) (hc : x.category = 1) (hc' : y.category = 1) (hr : Run Z K ph h n1 n2 pc' ls (x :: y :: x :: st)) : Run Z K ph h n1 n2 pc ls (x :: y :: st) := by
  subst hp; exact rS ok hr fun p e below m c T A hx hby t => XS.dupX1 (g := mkF m pc ls (x :: y :: st)) A hx rfl (hb hby hd) rfl hc hc'
theorem r_dup2 (ok : Ok Z K EL own code maxL ret nm R l w Q) (hp : pc + 1 = pc') {x y : Value} (hd : decode code pc = .ok (.dup2, 1)) (hc : x.category = 1) (hc' : y.category = 1) (hr : Run Z K ph h n1 n2 pc' ls (x :: y :: x :: y :: st)) : Run Z K ph h n1 n2 pc ls (x :: y :: st) := by
  subst hp; exact rS ok hr fun p e below m c T A hx hby t => XT.dup2 (g := mkF m pc ls (x :: y :: st)) A hx rfl (hb hby hd) rfl hc hc'
theorem r_dup2L (ok : Ok Z K EL own code maxL ret nm R l w Q) (hp : pc + 1 = pc') {x : Int64} (hd : decode code pc = .ok (.dup2, 1)) (hr : Run Z K ph h n1 n2 pc' ls (.long x :: .long x :: st)) : Run Z K ph h n1 n2 pc ls (.long x :: st) := by
  subst hp; exact rS ok hr fun p e below m c T A hx hby t => XT.dup2L (g := mkF m pc ls (.long x :: st)) A hx rfl (hb hby hd) rfl
theorem r_pop (ok : Ok Z K EL own code maxL ret nm R l w Q) (hp : pc + 1 = pc') {x : Value} (hd : decode code pc = .ok (.pop, 1)) (hc : x.category = 1) (hr : Run Z K ph h n1 n2 pc' ls st) : Run Z K ph h n1 n2 pc ls (x :: st) := by
  subst hp; exact rS ok hr fun p e below m c T A hx hby t => XS.pop (g := mkF m pc ls (x :: st)) A hx rfl (hb hby hd) rfl hc
theorem r_lcmp (ok : Ok Z K EL own code maxL ret nm R l w Q) (hp : pc + 1 = pc') {x y : Int64} (hd : decode code pc = .ok (.lcmp, 1)) (hr : Run Z K ph h n1 n2 pc' ls (.int (lcmpW x y) :: st)) : Run Z K ph h n1 n2 pc ls (.long y :: .long x :: st) := by
  subst hp; exact rS ok hr fun p e below m c T A hx hby t => XS.lcmp (g := mkF m pc ls (.long y :: .long x :: st)) A hx rfl (hb hby hd) rfl
theorem r_idiv (ok : Ok Z K EL own code maxL ret nm R l w Q) (hp : pc + 1 = pc') {x y : Int32} (hd : decode code pc = .ok (.idiv, 1)) (hy : y ≠ 0) (hr : Run Z K ph h n1 n2 pc' ls (.int (x / y) :: st)) : Run Z K ph h n1 n2 pc ls (.int y :: .int x :: st) := by
  subst hp; exact rS ok hr fun p e below m c T A hx hby t => XS.idiv (g := mkF m pc ls (.int y :: .int x :: st)) A hx rfl (hb hby hd) rfl hy
theorem r_iinc (ok : Ok Z K EL own code maxL ret nm R l w Q) (hp : pc + 3 = pc') {k : Nat} {cst : Int} {x : Int32} {ls' : Int32 → Array Slot} (hd : decode code pc = .ok (.iinc k cst, 3)) (hl : ls[k]? = some (.val (.int x))) (hl' : ∀ z, storeLocals ls k (.int z) = some (ls' z)) (hr : ∀ z, z = x + Int32.ofInt cst → Run Z K ph h n1 n2 pc' (ls' z) st) : Run Z K ph h n1 n2 pc ls st := by
  subst hp; exact rS ok (hr _ rfl) fun p e below m c T A hx hby t => XS.iinc (g := mkF m pc ls st) A hx rfl (hb hby hd) hl (hl' _)
theorem r_goto (ok : Ok Z K EL own code maxL ret nm R l w Q) {o : Int} (hd : decode code pc = .ok (.goto o, 3)) (ho : 0 ≤ (pc : Int) + o) (hp : ((pc : Int) + o).toNat = pc') (hr : Run Z K ph h n1 n2 pc' ls st) : Run Z K ph h n1 n2 pc ls st := by
  exact rS ok hr fun p e below m c T A hx hby t => XS.goto (g := mkF m pc ls st) A hx rfl rfl (hb hby hd) ho hp
theorem r_icmp_eq (ok : Ok Z K EL own code maxL ret nm R l w Q) (hp : pc + 3 = pc') {x y : Int32} {o : Int} (hd : decode code pc = .ok (.if_icmp .eq o, 3)) (ho : 0 ≤ (pc : Int) + o) (hq : ((pc : Int) + o).toNat = pcY) (hy : x = y → Run Z K ph h n1 n2 pcY ls st) (hn : ¬ x = y → Run Z K ph h n1 n2 pc' ls st) : Run Z K ph h n1 n2 pc ls (.int y :: .int x :: st) := by
  subst hp
  by_cases q : x = y
  · exact rS ok (hy q) fun p e below m c T A hx hby t => XS.icmpYes (g := mkF m pc ls (.int y :: .int x :: st)) A hx rfl rfl (hb hby hd) rfl (teq q).1 ho hq
  · exact rS ok (hn q) fun p e below m c T A hx hby t => XS.icmpNo (g := mkF m pc ls (.int y :: .int x :: st)) A hx rfl (hb hby hd) rfl (feq q).1
theorem r_if_eq (ok : Ok Z K EL own code maxL ret nm R l w Q) (hp : pc + 3 = pc') {x : Int32} {o : Int} (hd : decode code pc = .ok (.ifCond .eq o, 3)) (ho : 0 ≤ (pc : Int) + o) (hq : ((pc : Int) + o).toNat = pcY) (hy : x = (0 : Int32) → Run Z K ph h n1 n2 pcY ls st) (hn : ¬ x = (0 : Int32) → Run Z K ph h n1 n2 pc' ls st) : Run Z K ph h n1 n2 pc ls (.int x :: st) := by
  subst hp
  by_cases q : x = (0 : Int32)
  · exact rS ok (hy q) fun p e below m c T A hx hby t => XS.ifYes (g := mkF m pc ls (.int x :: st)) A hx rfl rfl (hb hby hd) rfl ((if0 _ _).trans (teq q).1) ho hq
  · exact rS ok (hn q) fun p e below m c T A hx hby t => XS.ifNo (g := mkF m pc ls (.int x :: st)) A hx rfl (hb hby hd) rfl ((if0 _ _).trans (feq q).1)
theorem r_icmp_ne (ok : Ok Z K EL own code maxL ret nm R l w Q) (hp : pc + 3 = pc') {x y : Int32} {o : Int} (hd : decode code pc = .ok (.if_icmp .ne o, 3)) (ho : 0 ≤ (pc : Int) + o) (hq : ((pc : Int) + o).toNat = pcY) (hy : ¬ x = y → Run Z K ph h n1 n2 pcY ls st) (hn : x = y → Run Z K ph h n1 n2 pc' ls st) : Run Z K ph h n1 n2 pc ls (.int y :: .int x :: st) := by
  subst hp
  by_cases q : x = y
  · exact rS ok (hn q) fun p e below m c T A hx hby t => XS.icmpNo (g := mkF m pc ls (.int y :: .int x :: st)) A hx rfl (hb hby hd) rfl (teq q).2
  · exact rS ok (hy q) fun p e below m c T A hx hby t => XS.icmpYes (g := mkF m pc ls (.int y :: .int x :: st)) A hx rfl rfl (hb hby hd) rfl (feq q).2 ho hq
theorem r_if_ne (ok : Ok Z K EL own code maxL ret nm R l w Q) (hp : pc + 3 = pc') {x : Int32} {o : Int} (hd : decode code pc = .ok (.ifCond .ne o, 3)) (ho : 0 ≤ (pc : Int) + o) (hq : ((pc : Int) + o).toNat = pcY) (hy : ¬ x = (0 : Int32) → Run Z K ph h n1 n2 pcY ls st) (hn : x = (0 : Int32) → Run Z K ph h n1 n2 pc' ls st) : Run Z K ph h n1 n2 pc ls (.int x :: st) := by
  subst hp
  by_cases q : x = (0 : Int32)
  · exact rS ok (hn q) fun p e below m c T A hx hby t => XS.ifNo (g := mkF m pc ls (.int x :: st)) A hx rfl (hb hby hd) rfl ((if0 _ _).trans (teq q).2)
  · exact rS ok (hy q) fun p e below m c T A hx hby t => XS.ifYes (g := mkF m pc ls (.int x :: st)) A hx rfl rfl (hb hby hd) rfl ((if0 _ _).trans (feq q).2) ho hq
theorem r_icmp_lt (ok : Ok Z K EL own code maxL ret nm R l w Q) (hp : pc + 3 = pc') {x y : Int32} {o : Int} (hd : decode code pc = .ok (.if_icmp .lt o, 3)) (ho : 0 ≤ (pc : Int) + o) (hq : ((pc : Int) + o).toNat = pcY) (hy : x < y → Run Z K ph h n1 n2 pcY ls st) (hn : ¬ x < y → Run Z K ph h n1 n2 pc' ls st) : Run Z K ph h n1 n2 pc ls (.int y :: .int x :: st) := by
  subst hp
  by_cases q : x < y
  · exact rS ok (hy q) fun p e below m c T A hx hby t => XS.icmpYes (g := mkF m pc ls (.int y :: .int x :: st)) A hx rfl rfl (hb hby hd) rfl (tlt q).1 ho hq
  · exact rS ok (hn q) fun p e below m c T A hx hby t => XS.icmpNo (g := mkF m pc ls (.int y :: .int x :: st)) A hx rfl (hb hby hd) rfl (flt q).1
theorem r_if_lt (ok : Ok Z K EL own code maxL ret nm R l w Q) (hp : pc + 3 = pc') {x : Int32} {o : Int} (hd : decode code pc = .ok (.ifCond .lt o, 3)) (ho : 0 ≤ (pc : Int) + o) (hq : ((pc : Int) + o).toNat = pcY) (hy : x < (0 : Int32) → Run Z K ph h n1 n2 pcY ls st) (hn : ¬ x < (0 : Int32) → Run Z K ph h n1 n2 pc' ls st) : Run Z K ph h n1 n2 pc ls (.int x :: st) := by
  subst hp
  by_cases q : x < (0 : Int32)
  · exact rS ok (hy q) fun p e below m c T A hx hby t => XS.ifYes (g := mkF m pc ls (.int x :: st)) A hx rfl rfl (hb hby hd) rfl ((if0 _ _).trans (tlt q).1) ho hq
  · exact rS ok (hn q) fun p e below m c T A hx hby t => XS.ifNo (g := mkF m pc ls (.int x :: st)) A hx rfl (hb hby hd) rfl ((if0 _ _).trans (flt q).1)
theorem r_icmp_ge (ok : Ok Z K EL own code maxL ret nm R l w Q) (hp : pc + 3 = pc') {x y : Int32} {o : Int} (hd : decode code pc = .ok (.if_icmp .ge o, 3)) (ho : 0 ≤ (pc : Int) + o) (hq : ((pc : Int) + o).toNat = pcY) (hy : ¬ x < y → Run Z K ph h n1 n2 pcY ls st) (hn : x < y → Run Z K ph h n1 n2 pc' ls st) : Run Z K ph h n1 n2 pc ls (.int y :: .int x :: st) := by
  subst hp
  by_cases q : x < y
  · exact rS ok (hn q) fun p e below m c T A hx hby t => XS.icmpNo (g := mkF m pc ls (.int y :: .int x :: st)) A hx rfl (hb hby hd) rfl (tlt q).2.1
  · exact rS ok (hy q) fun p e below m c T A hx hby t => XS.icmpYes (g := mkF m pc ls (.int y :: .int x :: st)) A hx rfl rfl (hb hby hd) rfl (flt q).2.1 ho hq
theorem r_if_ge (ok : Ok Z K EL own code maxL ret nm R l w Q) (hp : pc + 3 = pc') {x : Int32} {o : Int} (hd : decode code pc = .ok (.ifCond .ge o, 3)) (ho : 0 ≤ (pc : Int) + o) (hq : ((pc : Int) + o).toNat = pcY) (hy : ¬ x < (0 : Int32) → Run Z K ph h n1 n2 pcY ls st) (hn : x < (0 : Int32) → Run Z K ph h n1 n2 pc' ls st) : Run Z K ph h n1 n2 pc ls (.int x :: st) := by
  subst hp
  by_cases q : x < (0 : Int32)
  · exact rS ok (hn q) fun p e below m c T A hx hby t => XS.ifNo (g := mkF m pc ls (.int x :: st)) A hx rfl (hb hby hd) rfl ((if0 _ _).trans (tlt q).2.1)
  · exact rS ok (hy q) fun p e below m c T A hx hby t => XS.ifYes (g := mkF m pc ls (.int x :: st)) A hx rfl rfl (hb hby hd) rfl ((if0 _ _).trans (flt q).2.1) ho hq
theorem r_icmp_gt (ok : Ok Z K EL own code maxL ret nm R l w Q) (hp : pc + 3 = pc') {x y : Int32} {o : Int} (hd : decode code pc = .ok (.if_icmp .gt o, 3)) (ho : 0 ≤ (pc : Int) + o) (hq : ((pc : Int) + o).toNat = pcY) (hy : y < x → Run Z K ph h n1 n2 pcY ls st) (hn : ¬ y < x → Run Z K ph h n1 n2 pc' ls st) : Run Z K ph h n1 n2 pc ls (.int y :: .int x :: st) := by
  subst hp
  by_cases q : y < x
  · exact rS ok (hy q) fun p e below m c T A hx hby t => XS.icmpYes (g := mkF m pc ls (.int y :: .int x :: st)) A hx rfl rfl (hb hby hd) rfl (tlt q).2.2.1 ho hq
  · exact rS ok (hn q) fun p e below m c T A hx hby t => XS.icmpNo (g := mkF m pc ls (.int y :: .int x :: st)) A hx rfl (hb hby hd) rfl (flt q).2.2.1
theorem r_if_gt (ok : Ok Z K EL own code maxL ret nm R l w Q) (hp : pc + 3 = pc') {x : Int32} {o : Int} (hd : decode code pc = .ok (.ifCond .gt o, 3)) (ho : 0 ≤ (pc : Int) + o) (hq : ((pc : Int) + o).toNat = pcY) (hy : (0 : Int32) < x → Run Z K ph h n1 n2 pcY ls st) (hn : ¬ (0 : Int32) < x → Run Z K ph h n1 n2 pc' ls st) : Run Z K ph h n1 n2 pc ls (.int x :: st) := by
  subst hp
  by_cases q : (0 : Int32) < x
  · exact rS ok (hy q) fun p e below m c T A hx hby t => XS.ifYes (g := mkF m pc ls (.int x :: st)) A hx rfl rfl (hb hby hd) rfl ((if0 _ _).trans (tlt q).2.2.1) ho hq
  · exact rS ok (hn q) fun p e below m c T A hx hby t => XS.ifNo (g := mkF m pc ls (.int x :: st)) A hx rfl (hb hby hd) rfl ((if0 _ _).trans (flt q).2.2.1)
theorem r_icmp_le (ok : Ok Z K EL own code maxL ret nm R l w Q) (hp : pc + 3 = pc') {x y : Int32} {o : Int} (hd : decode code pc = .ok (.if_icmp .le o, 3)) (ho : 0 ≤ (pc : Int) + o) (hq : ((pc : Int) + o).toNat = pcY) (hy : ¬ y < x → Run Z K ph h n1 n2 pcY ls st) (hn : y < x → Run Z K ph h n1 n2 pc' ls st) : Run Z K ph h n1 n2 pc ls (.int y :: .int x :: st) := by
  subst hp
  by_cases q : y < x
  · exact rS ok (hn q) fun p e below m c T A hx hby t => XS.icmpNo (g := mkF m pc ls (.int y :: .int x :: st)) A hx rfl (hb hby hd) rfl (tlt q).2.2.2
  · exact rS ok (hy q) fun p e below m c T A hx hby t => XS.icmpYes (g := mkF m pc ls (.int y :: .int x :: st)) A hx rfl rfl (hb hby hd) rfl (flt q).2.2.2 ho hq
theorem r_if_le (ok : Ok Z K EL own code maxL ret nm R l w Q) (hp : pc + 3 = pc') {x : Int32} {o : Int} (hd : decode code pc = .ok (.ifCond .le o, 3)) (ho : 0 ≤ (pc : Int) + o) (hq : ((pc : Int) + o).toNat = pcY) (hy : ¬ (0 : Int32) < x → Run Z K ph h n1 n2 pcY ls st) (hn : (0 : Int32) < x → Run Z K ph h n1 n2 pc' ls st) : Run Z K ph h n1 n2 pc ls (.int x :: st) := by
  subst hp
  by_cases q : (0 : Int32) < x
  · exact rS ok (hn q) fun p e below m c T A hx hby t => XS.ifNo (g := mkF m pc ls (.int x :: st)) A hx rfl (hb hby hd) rfl ((if0 _ _).trans (tlt q).2.2.2)
  · exact rS ok (hy q) fun p e below m c T A hx hby t => XS.ifYes (g := mkF m pc ls (.int x :: st)) A hx rfl rfl (hb hby hd) rfl ((if0 _ _).trans (flt q).2.2.2) ho hq
theorem r_ifnull_null (ok : Ok Z K EL own code maxL ret nm R l w Q)  {o : Int} (hd : decode code pc = .ok (.ifnull o, 3)) (ho : 0 ≤ (pc : Int) + o) (hp : ((pc : Int) + o).toNat = pc') (hr : Run Z K ph h n1 n2 pc' ls st) : Run Z K ph h n1 n2 pc ls (.null :: st) := by
  exact rS ok hr fun p e below m c T A hx hby t => XS.ifnullYes (g := mkF m pc ls (.null :: st)) A hx rfl rfl (hb hby hd) rfl ho hp
theorem r_ifnull_ref (ok : Ok Z K EL own code maxL ret nm R l w Q) (hp : pc + 3 = pc') {b : Addr} {o : Int} (hd : decode code pc = .ok (.ifnull o, 3)) (hr : Run Z K ph h n1 n2 pc' ls st) : Run Z K ph h n1 n2 pc ls (.ref b :: st) := by
  subst hp; exact rS ok hr fun p e below m c T A hx hby t => XS.ifnullNo (g := mkF m pc ls (.ref b :: st)) A hx rfl (hb hby hd) rfl
theorem r_ifnonnull_null (ok : Ok Z K EL own code maxL ret nm R l w Q) (hp : pc + 3 = pc')  {o : Int} (hd : decode code pc = .ok (.ifnonnull o, 3)) (hr : Run Z K ph h n1 n2 pc' ls st) : Run Z K ph h n1 n2 pc ls (.null :: st) := by
  subst hp; exact rS ok hr fun p e below m c T A hx hby t => XS.ifnonnullNo (g := mkF m pc ls (.null :: st)) A hx rfl (hb hby hd) rfl
theorem r_ifnonnull_ref (ok : Ok Z K EL own code maxL ret nm R l w Q) {b : Addr} {o : Int} (hd : decode code pc = .ok (.ifnonnull o, 3)) (ho : 0 ≤ (pc : Int) + o) (hp : ((pc : Int) + o).toNat = pc') (hr : Run Z K ph h n1 n2 pc' ls st) : Run Z K ph h n1 n2 pc ls (.ref b :: st) := by
  exact rS ok hr fun p e below m c T A hx hby t => XS.ifnonnullYes (g := mkF m pc ls (.ref b :: st)) A hx rfl rfl (hb hby hd) rfl ho hp

theorem endW_mono {s t : State} {o : Outcome} {L : List Loc} {k n k' n' : Nat} (h : EndW w s o t L k n) (hk : k ≤ k') (hn : n ≤ n') : EndW w s o t L k' n' := by
  cases w
  · exact ⟨h.1, h.2.1, h.2.2.mono hk hn⟩
  · exact ⟨h.1, h.2.1, h.2.2.1, h.2.2.2.mono hk hn⟩
/-- the end of a walk -/
theorem rEnd (ok : Ok Z K EL own code maxL ret nm R l w Q) {v : Option Value} (hv : ret = none → v = none) (hq : Q v h) (hc : n1 ≤ R.cells) (hn : n2 ≤ R.slots) (hcl : w = true ∨ (∀ s v, ph s v → v = s.vm))
    (f : ∀ (p : Program) (e : Env) (s : State) (m : MethodId) (args : Array Value) (below : List Frame) (meth : Method) (c : Code) (T : State) (locs : List Loc), Stand p l e R s m args below meth c T locs n1 n2 → p.tables.exec = Jvm.exec → c.code = code → meth.sig.returnType = ret → ∀ fs, (∀ (g : JFrame) (acts : List Action), g.method = m → g.locked = none → g.entered = [] → (doReturn e (T.setTop g) acts v).1 = T.setFrames fs) →
      Steps p.tables e below (T.setTop (mkF m pc ls st)) (T.setFrames fs)) : Run Z K ph h n1 n2 pc ls st := by
  obtain ⟨p, l1, e, R1, s, m, args, below, meth, c, w1, Q1⟩ := K
  obtain ⟨hx, hby, hml, ho, hret, hlk, hnm, rfl, rfl, rfl, rfl, hCH⟩ := ok
  intro T X W
  obtain ⟨vm0, k0, locs, S, hS, hk, hZ, hF, eT, hw⟩ := W
  have hsz : s.heap.size ≤ T.heap.size := S.same.2.1
  cases w1
  · obtain rfl := (hcl.resolve_left (fun q => nomatch q)) _ _ hw
    obtain ⟨fs, hr, hrun, hended, hW, hsame⟩ := S.leave (v := v) (fun q => hv (hret ▸ q)) hlk
    exact ⟨_, _, f p e _ m args below meth c T locs S hx hby hret fs hr, hrun, hended, v, locs, rfl, ⟨by show Q1 v T.heap; rw [eT]; exact hq, hF, by show Ext Z.heap T.heap; rw [eT]; exact X, hsz⟩, ⟨_, rfl⟩, hW, State.sameButNew.mono hsame hc hn⟩
  · obtain ⟨fs, hr, hrun, hended, hE⟩ := S.leaveW hS hk (v := v) (fun q => hv (hret ▸ q)) hlk
    exact ⟨_, _, f p e _ m args below meth c T locs S hx hby hret fs hr, hrun, hended, v, locs, rfl, ⟨by show Q1 v T.heap; rw [eT]; exact hq, hF, by show Ext Z.heap T.heap; rw [eT]; exact X, hsz⟩, hE.1, hE.2.1, hE.2.2.1, State.sameButNew.mono hE.2.2.2 hc hn⟩
theorem r_return {Q' : Heap → Prop} (ok : Ok Z K EL own code maxL none nm R l w (rU Q')) (hd : decode code pc = .ok (.return_, 1)) (hq : Q' h) (hc : n1 ≤ R.cells) (hn : n2 ≤ R.slots) (hcl : w = true ∨ (∀ s v, ph s v → v = s.vm) := by first | exact Or.inl rfl | exact Or.inr (fun _ _ q => q)) : Run Z K ph h n1 n2 pc ls [] :=
  rEnd ok (v := none) (fun _ => rfl) ⟨rfl, hq⟩ hc hn hcl fun p e s m args below meth c T locs S hx hby hret fs hr => S.returnOut hx hret (hb hby hd) hr
theorem r_ret {t : FieldType} {i : Instr} {x : Value} {Q' : Value → Heap → Prop} (ok : Ok Z K EL own code maxL (some t) nm R l w (rV Q')) (hd : decode code pc = .ok (i, 1)) (hnr : narrow t x = x)
    (hi : (i = .ireturn ∧ (t = .int ∨ t = .boolean ∨ t = .byte ∨ t = .char ∨ t = .short) ∧ ∃ z, x = .int z) ∨ (i = .lreturn ∧ t = .long ∧ ∃ z, x = .long z) ∨ (i = .dreturn ∧ t = .double ∧ ∃ z, x = .double z) ∨ (i = .freturn ∧ t = .float ∧ ∃ z, x = .float z) ∨ (i = .areturn ∧ t.isReference = true ∧ x.isRef = true))
    (hc : n1 ≤ R.cells) (hn : n2 ≤ R.slots) (hq : Q' x h) (hcl : w = true ∨ (∀ s v, ph s v → v = s.vm) := by first | exact Or.inl rfl | exact Or.inr (fun _ _ q => q)) : Run Z K ph h n1 n2 pc ls (x :: st) :=
  rEnd ok (v := some x) (fun q => nomatch q) ⟨x, rfl, hq⟩ hc hn hcl fun p e s m args below meth c T locs S hx hby hret fs hr => retOut S hx hret hnr hi (hb hby hd) hr
theorem r_ireturn {t : FieldType} {z : Int32} {Q' : Value → Heap → Prop} (ok : Ok Z K EL own code maxL (some t) nm R l w (rV Q')) (hd : decode code pc = .ok (.ireturn, 1)) (hnr : narrow t (.int z) = .int z) (ht : t = .int ∨ t = .boolean ∨ t = .byte ∨ t = .char ∨ t = .short) (hc : n1 ≤ R.cells) (hn : n2 ≤ R.slots) (hq : Q' (.int z) h) (hcl : w = true ∨ (∀ s v, ph s v → v = s.vm) := by first | exact Or.inl rfl | exact Or.inr (fun _ _ q => q)) : Run Z K ph h n1 n2 pc ls (.int z :: st) :=
  r_ret ok hd hnr (Or.inl ⟨rfl, ht, z, rfl⟩) hc hn hq hcl
theorem r_areturn {t : FieldType} {x : Value} {Q' : Value → Heap → Prop} (ok : Ok Z K EL own code maxL (some t) nm R l w (rV Q')) (hd : decode code pc = .ok (.areturn, 1)) (hnr : narrow t x = x) (ht : t.isReference = true) (hx : x.isRef = true) (hc : n1 ≤ R.cells) (hn : n2 ≤ R.slots) (hq : Q' x h) (hcl : w = true ∨ (∀ s v, ph s v → v = s.vm) := by first | exact Or.inl rfl | exact Or.inr (fun _ _ q => q)) : Run Z K ph h n1 n2 pc ls (x :: st) :=
  r_ret ok hd hnr (Or.inr (Or.inr (Or.inr (Or.inr ⟨rfl, ht, hx⟩)))) hc hn hq hcl
theorem r_lreturn {z : Int64} {Q' : Value → Heap → Prop} (ok : Ok Z K EL own code maxL (some .long) nm R l w (rV Q')) (hd : decode code pc = .ok (.lreturn, 1)) (hc : n1 ≤ R.cells) (hn : n2 ≤ R.slots) (hq : Q' (.long z) h) (hcl : w = true ∨ (∀ s v, ph s v → v = s.vm) := by first | exact Or.inl rfl | exact Or.inr (fun _ _ q => q)) : Run Z K ph h n1 n2 pc ls (.long z :: st) :=
  r_ret ok hd rfl (Or.inr (Or.inl ⟨rfl, rfl, z, rfl⟩)) hc hn hq hcl
/-- the beginning of a walk -/
theorem body {y : MethodName} {ws : List Jvm.Cond} {as : Array Value} (pn : plainFor y = true) (ent : ∀ m, entryFrame m as maxL = mkF m 0 ls []) (run : ∀ K, Ok Z K EL y.cls code maxL ret y.name R l w Q → Run Z K Cln h 0 0 0 ls []) : Con l Z EL ws w y code maxL ret R as h Q := by
  intro X
  refine MetFree.of_bodySF pn hisR ?_
  intro p e s m args below meth c s₁ Bd hml0 hP hK
  obtain ⟨rfl, hZ, hh, hCH⟩ := hP
  have hown : s.vm.findClass y.cls = some m.cls := findClass_of_methodNamed Bd.named
  have hnm := (name_of_methodNamed Bd.named Bd.method).1
  have X0 : Stand p l e R s m args below meth c s₁ [] 0 0 := Stand.of_body Bd
  have e0 : s₁.heap = h := by rw [← hh, Bd.state]; rfl
  have ok : Ok Z (p, l, e, R, s, m, args, below, meth, c, w, Q) EL y.cls code maxL ret y.name R l w Q :=
    ⟨Bd.exec, Bd.bytes, hml0, fun vm0 hv => by rw [hv.alike.findClass, ← hZ.alike.findClass]; exact hown, Bd.returns, Bd.notSynchronized, hnm, rfl, rfl, rfl, rfl, hCH⟩
  obtain ⟨s₂, o, h1, h2, h3, v, L, rfl, h4, h5⟩ := run _ ok s₁ X ⟨s.vm, 0, [], X0, (State.WarmedH.refl s).since 0, Nat.zero_le _, hZ, Fr.nil _, e0, rfl⟩
  exact ⟨s₂, _, castTop (ent m) h1, h2, h3, v, L, rfl, by rw [← hh]; exact h4, h5⟩
theorem Con.pay {y : MethodName} {bytes : ByteArray} {mL : Nat} {rt : Option FieldType} {R' : Room} {as : Array Value} {w' : Bool} {Q' : Option Value → Heap → Prop} {len W : Nat} (con : Con l Z EL [] w' y bytes mL rt R' as h Q') (hEL : EW Z a0 EL) (wc : (Jvm.Cond.code y bytes mL rt).before a0 Z = true) (wz : (Jvm.Cond.initialized y.cls).before a0 Z = true) (hf : R'.frames + 1 ≤ R.frames) (hl : W + (mL + 11) + R'.locals ≤ R.locals) :
    Pay Z EL w' l R y len W as h R'.cells R'.slots Q' := by
  cases w'
  · intro p e below s args hZ H X
    exact Back.of_free (bytes := bytes) (maxL := mL) (ret := rt) (E := fun _ _ o t L k n => k = R'.cells ∧ n = R'.slots ∧ ∃ v, o = .returned v ∧ Pst Z h.size Q' v t.heap L) (con X) hf hl
      (fun m meth c A a Y hp => have hU : Z.Warmed39 A.U.vm := wtrans hZ Y.warmed
        ⟨by show (Jvm.Cond.and _ .tt).before a A.U = true; rw [Cond.before_and, mv hU wc]; rfl, mv hU wc, mv hU wz, hp.2.2.1, hp.2.2.2⟩)
      (fun m meth c A a g mk Y hp => ⟨hp.1, wtrans hZ Y.warmed, hp.2.1, (CHv.at (vm0 := s.vm) (s := s) Y hZ hEL H).1⟩) (fun _ _ _ _ _ _ _ _ _ => trivial)
      (fun _ _ _ _ ⟨v, L, h1, h2, h3⟩ => ⟨L, _, _, h3, rfl, rfl, v, h1, h2⟩)
      (fun m meth c A a g mk v t L k n Y hp _ _ ⟨e1, e2, v', e3, e4⟩ => by cases e3; subst e1 e2; exact ⟨L, e4, rfl, rfl, rfl⟩)
  · intro p e below s args hZ H X
    exact BackS.of_freeW (bytes := bytes) (maxL := mL) (ret := rt) (E := fun _ _ o t L k n => k = R'.cells ∧ n = R'.slots ∧ ∃ v, o = .returned v ∧ Pst Z h.size Q' v t.heap L) (con X) hf hl
      (fun m meth c A a Y hp => have hU : Z.Warmed39 A.U.vm := wtrans hZ Y.warmed
        ⟨by show (Jvm.Cond.and _ .tt).before a A.U = true; rw [Cond.before_and, mv hU wc]; rfl, mv hU wc, mv hU wz, hp.2.2.1, hp.2.2.2⟩)
      (fun m meth c A a g mk Y hp => ⟨hp.1, wtrans hZ Y.warmed, hp.2.1, (CHv.at (vm0 := s.vm) (s := s) Y hZ hEL H).1⟩) (fun _ _ _ _ _ _ _ _ _ => trivial)
      (fun _ _ _ _ ⟨v, L, h1, h2, h3⟩ => ⟨L, _, _, h3, rfl, rfl, v, h1, h2⟩)
      (fun m meth c A a g mk v t L k n Y hp _ _ ⟨e1, e2, v', e3, e4⟩ => by cases e3; subst e1 e2; exact ⟨L, e4, rfl, rfl, rfl⟩)

theorem st1 {ls ls' : Array Slot} {i : Nat} {o : Slot} {v : Value} (ho : One o) (hold : ls[i]? = some o) (hv : v.category = 1) (e : ls.setIfInBounds i (.val v) = ls') : storeLocals ls i v = some ls' := by rw [XS.store1 hold ho hv, e]
theorem ext_wr {h' : Heap} {a : Addr} {sl : Nat} {v : Value} (X : Ext Z.heap h) (W : Wr h h' a sl v) (g : Z.heap.size ≤ a) : Ext Z.heap h' :=
  (Old.wr (n0 := Z.heap.size) ⟨rfl, X⟩ W g).2
theorem ext_keep {h' : Heap} {ws : List Addr} (X : Ext Z.heap h) (K : Keep h h' ws) (q : ∀ x ∈ ws, Z.heap.size ≤ x) : Ext Z.heap h' :=
  (Old.keep (n0 := Z.heap.size) ⟨rfl, X⟩ K q).2
theorem ext_trans {h1 h2 h3 : Heap} (A : Ext h1 h2) (B : Ext h2 h3) : Ext h1 h3 := ⟨Nat.le_trans A.1 B.1, fun a c q => B.2 a c (A.2 a c q)⟩
theorem r_irem (ok : Ok Z K EL own code maxL ret nm R l w Q) (hp : pc + 1 = pc') {x y : Int32} (hd : decode code pc = .ok (.irem, 1)) (hy : y ≠ 0) (hr : Run Z K ph h n1 n2 pc' ls (.int (x % y) :: st)) : Run Z K ph h n1 n2 pc ls (.int y :: .int x :: st) := by
  subst hp; exact rX ok hr fun p e s m args below meth c T locs X hx hby hZ ho eT t => iremM (g := mkF m pc ls (.int y :: .int x :: st)) X hx rfl (hb hby hd) rfl hy
theorem r_new (ok : Ok Z K EL own code maxL ret nm R l w Q) (hp : pc + 3 = pc') {C : String} {idx k : Nat} (hd : decode code pc = .ok (.new idx, 3)) (w1 : (Jvm.Cond.classLink own idx C).before a0 Z = true) (w2 : (Jvm.Cond.instantiable C k).before a0 Z = true) (w3 : (Jvm.Cond.initialized C).before a0 Z = true) (hc : n1 + 1 ≤ R.cells) (hn : n2 + k ≤ R.slots)
    (hr : ∀ h' a, a = h.size → Z.heap.size ≤ a → Ext h h' → Exa Z h' a C → (∀ {O nm d : String} {ty : FieldType}, Laid Z a0 C O nm d → parseFieldDescriptor d = some ty → Fld Z h' a O nm d (defaultValue ty)) → Run Z K ph h' (n1 + 1) (n2 + k) pc' ls (.ref a :: st)) : Run Z K ph h n1 n2 pc ls st := by
  subst hp
  refine r_old fun X0 => ?_
  refine rH ok (P := fun h' => Ext h h' ∧ Exa Z h' h.size C ∧ (∀ {O nm d : String} {ty : FieldType}, Laid Z a0 C O nm d → parseFieldDescriptor d = some ty → Fld Z h' h.size O nm d (defaultValue ty))) (m1 := n1 + 1) (m2 := n2 + k) (fun p e s m args below meth c T locs X hx hby hml hZ ho hnm eT X0 => ?_) (fun h' q => hr h' _ rfl X0.1 q.1 q.2.1 q.2.2)
  obtain ⟨T', h', X', e', E, A, D, -, st'⟩ := newO X hx hZ ho w1 w2 w3 eT (g := mkF m pc ls st) rfl (hb hby hd) hc hn
  exact ⟨T', h', [], by rw [List.append_nil]; exact X', e', Fr.nil _, E.1, ext_trans X0 E, ⟨E, A, D⟩, st'⟩
theorem r_newarray (ok : Ok Z K EL own code maxL ret nm R l w Q) (hp : pc + 2 = pc') {aty : ArrayType} {n : Int32} (cap : Nat) (hd : decode code pc = .ok (.newarray aty, 2)) (w1 : (Jvm.Cond.arrayClass (newarray.typeOf aty)).before a0 Z = true) (hn0 : ¬ n < 0) (hcap : n.toNatClampNeg ≤ cap) (hbg : cap * 8 ≤ 536870912) (hc : n1 + 1 ≤ R.cells) (hn : n2 + cap ≤ R.slots)
    (hr : ∀ h' a kA, a = h.size → Z.heap.size ≤ a → Ext h h' → Arv Z h' a kA (newarray.typeOf aty) n [] (defaultValue (newarray.typeOf aty)) → Run Z K ph h' (n1 + 1) (n2 + cap) pc' ls (.ref a :: st)) : Run Z K ph h n1 n2 pc ls (.int n :: st) := by
  subst hp
  refine r_old fun X0 => ?_
  refine rH ok (P := fun h' => Ext h h' ∧ ∃ kA, Arv Z h' h.size kA (newarray.typeOf aty) n [] (defaultValue (newarray.typeOf aty))) (m1 := n1 + 1) (m2 := n2 + cap) (fun p e s m args below meth c T locs X hx hby hml hZ ho hnm eT X0 => ?_) (fun h' q => by obtain ⟨q1, kA, q2⟩ := q; exact hr h' _ kA rfl X0.1 q1 q2)
  obtain ⟨T', h', kA, X', e', E, A, st'⟩ := newP X hx hZ w1 eT (g := mkF m pc ls (.int n :: st)) rfl (hb hby hd) rfl hn0 (cap := cap) hcap hbg hc hn
  exact ⟨T', h', [], by rw [List.append_nil]; exact X', e', Fr.nil _, E.1, ext_trans X0 E, ⟨E, kA, Arv.new A hn0⟩, st'⟩
theorem r_anewarray (ok : Ok Z K EL own code maxL ret nm R l w Q) (hp : pc + 3 = pc') {C : String} {idx : Nat} {n : Int32} (cap : Nat) (hd : decode code pc = .ok (.anewarray idx, 3)) (w1 : (Jvm.Cond.classLink own idx C).before a0 Z = true) (w2 : (Jvm.Cond.arrayOver (.object C)).before a0 Z = true) (hn0 : ¬ n < 0) (hcap : n.toNatClampNeg ≤ cap) (hbg : cap * 8 ≤ 536870912) (hc : n1 + 1 ≤ R.cells) (hn : n2 + cap ≤ R.slots)
    (hr : ∀ h' a kA, a = h.size → Z.heap.size ≤ a → Ext h h' → Ovr Z kA C → Arv Z h' a kA (.object C) n [] .null → Run Z K ph h' (n1 + 1) (n2 + cap) pc' ls (.ref a :: st)) : Run Z K ph h n1 n2 pc ls (.int n :: st) := by
  subst hp
  refine r_old fun X0 => ?_
  refine rH ok (P := fun h' => Ext h h' ∧ ∃ kA, Ovr Z kA C ∧ Arv Z h' h.size kA (.object C) n [] .null) (m1 := n1 + 1) (m2 := n2 + cap) (fun p e s m args below meth c T locs X hx hby hml hZ ho hnm eT X0 => ?_) (fun h' q => by obtain ⟨q1, kA, q2, q3⟩ := q; exact hr h' _ kA rfl X0.1 q1 q2 q3)
  obtain ⟨T', h', kA, X', e', E, A, O, st'⟩ := newR X hx hZ ho w1 w2 eT (g := mkF m pc ls (.int n :: st)) rfl (hb hby hd) rfl hn0 (cap := cap) hcap hbg hc hn
  exact ⟨T', h', [], by rw [List.append_nil]; exact X', e', Fr.nil _, E.1, ext_trans X0 E, ⟨E, kA, O, Arv.new A hn0⟩, st'⟩
/-- a law that leaves the heap as it is and moves the state -/
theorem rT (ok : Ok Z K EL own code maxL ret nm R l w Q) (hr : Run Z K ph h n1 n2 pc' ls' st')
    (f : ∀ (p : Program) (e : Env) (s : State) (m : MethodId) (args : Array Value) (below : List Frame) (meth : Method) (c : Code) (T : State) (locs : List Loc), Stand p l e R s m args below meth c T locs n1 n2 → p.tables.exec = Jvm.exec → c.code = code → c.maxLocals = maxL → Z.Warmed39 s.vm → s.vm.findClass own = some m.cls → T.heap = h →
      ∃ T', Stand p l e R s m args below meth c T' locs n1 n2 ∧ T'.heap = h ∧ ∀ t, Steps p.tables e below (T'.setTop (mkF m pc' ls' st')) t → Steps p.tables e below (T.setTop (mkF m pc ls st)) t) : Run Z K ph h n1 n2 pc ls st := by
  refine rH ok (P := fun h' => h' = h) (m1 := n1) (m2 := n2) (fun p e s m args below meth c T locs X hx hby hml hZ ho hnm eT X0 => ?_) (fun h' q => q ▸ hr)
  obtain ⟨T', X', e', st'⟩ := f p e s m args below meth c T locs X hx hby hml hZ ho eT
  exact ⟨T', h, [], by rw [List.append_nil]; exact X', e', Fr.nil _, Nat.le_refl _, X0, rfl, st'⟩
theorem r_getfield (ok : Ok Z K EL own code maxL ret nm R l w Q) (hp : pc + 3 = pc') {R0 O n d host : String} {idx : Nat} {a : Addr} {v : Value} (hd : decode code pc = .ok (.getfield idx, 3)) (w1 : (Jvm.Cond.fieldLink own idx R0 n d).before a0 Z = true ∨ (Jvm.Cond.fieldLinkNest own idx R0 n d host).before a0 Z = true) (via : Via Z R0 O n d) (F : Fld Z h a O n d v) (hr : Run Z K ph h n1 n2 pc' ls (v :: st)) : Run Z K ph h n1 n2 pc ls (.ref a :: st) := by
  subst hp
  exact rT ok hr fun p e s m args below meth c T locs X hx hby hml hZ ho eT => getF X hx hZ ho w1 via eT F (g := mkF m pc ls (.ref a :: st)) rfl rfl (hb hby hd)
theorem r_getstatic (ok : Ok Z K EL own code maxL ret nm R l w Q) (hp : pc + 3 = pc') {R0 O n d : String} {idx : Nat} {v : Value} (hd : decode code pc = .ok (.getstatic idx, 3)) (w1 : (Jvm.Cond.fieldLink own idx R0 n d).before a0 Z = true) (via : Via Z R0 O n d) (F : Sta Z Z.heap O n d v) (hr : Run Z K ph h n1 n2 pc' ls (v :: st)) : Run Z K ph h n1 n2 pc ls st := by
  subst hp
  refine r_old fun X0 => ?_
  exact rT ok hr fun p e s m args below meth c T locs X hx hby hml hZ ho eT => getS X (host := "") hx hZ ho w1 via eT (F.ext X0) (g := mkF m pc ls st) rfl (hb hby hd)
theorem r_getstaticN (ok : Ok Z K EL own code maxL ret nm R l w Q) (hp : pc + 3 = pc') {R0 O n d host : String} {idx : Nat} {v : Value} (hd : decode code pc = .ok (.getstatic idx, 3)) (w1 : (Jvm.Cond.fieldLink own idx R0 n d).before a0 Z = true ∨ (Jvm.Cond.fieldLinkNest own idx R0 n d host).before a0 Z = true) (via : Via Z R0 O n d) (F : Sta Z Z.heap O n d v) (hr : Run Z K ph h n1 n2 pc' ls (v :: st)) : Run Z K ph h n1 n2 pc ls st := by
  subst hp
  refine r_old fun X0 => ?_
  exact rT ok hr fun p e s m args below meth c T locs X hx hby hml hZ ho eT => getS2 X hx hZ ho w1 via eT (F.ext X0) (g := mkF m pc ls st) rfl (hb hby hd)
theorem r_checkcast (ok : Ok Z K EL own code maxL ret nm R l w Q) (hp : pc + 3 = pc') {C : String} {idx : Nat} {a : Addr} (hd : decode code pc = .ok (.checkcast idx, 3)) (w1 : (Jvm.Cond.classLink own idx C).before a0 Z = true) (F : Ins Z h a C true) (hr : Run Z K ph h n1 n2 pc' ls (.ref a :: st)) : Run Z K ph h n1 n2 pc ls (.ref a :: st) := by
  subst hp
  exact rT ok hr fun p e s m args below meth c T locs X hx hby hml hZ ho eT => castY X hx hZ ho w1 eT F (g := mkF m pc ls (.ref a :: st)) rfl rfl (hb hby hd)
theorem r_checkcastNull (ok : Ok Z K EL own code maxL ret nm R l w Q) (hp : pc + 3 = pc') {idx : Nat} (hd : decode code pc = .ok (.checkcast idx, 3)) (hr : Run Z K ph h n1 n2 pc' ls (.null :: st)) : Run Z K ph h n1 n2 pc ls (.null :: st) := by
  subst hp
  exact rX ok hr fun p e s m args below meth c T locs X hx hby hZ ho eT t => X.checkcastNull hx (g := mkF m pc ls (.null :: st)) rfl rfl (hb hby hd) t
theorem r_instanceof (ok : Ok Z K EL own code maxL ret nm R l w Q) (hp : pc + 3 = pc') {C : String} {idx : Nat} {a : Addr} (hd : decode code pc = .ok (.instanceof idx, 3)) (w1 : (Jvm.Cond.classLink own idx C).before a0 Z = true) (F : Ins Z h a C true) (hr : Run Z K ph h n1 n2 pc' ls (.int 1 :: st)) : Run Z K ph h n1 n2 pc ls (.ref a :: st) := by
  subst hp
  exact rT ok hr fun p e s m args below meth c T locs X hx hby hml hZ ho eT => instY X hx hZ ho w1 eT F (g := mkF m pc ls (.ref a :: st)) rfl rfl (hb hby hd)
theorem r_instanceofNo (ok : Ok Z K EL own code maxL ret nm R l w Q) (hp : pc + 3 = pc') {C D : String} {idx : Nat} {a : Addr} (hd : decode code pc = .ok (.instanceof idx, 3)) (w1 : (Jvm.Cond.classLink own idx C).before a0 Z = true) (E : Exa Z h a D) (F : ∃ c t, Z.vm.findClass D = some c ∧ Z.vm.findClass C = some t ∧ Z.vm.assignable c t = false) (hr : Run Z K ph h n1 n2 pc' ls (.int 0 :: st)) : Run Z K ph h n1 n2 pc ls (.ref a :: st) := by
  subst hp
  exact rT ok hr fun p e s m args below meth c T locs X hx hby hml hZ ho eT => instNo X hx hZ ho w1 eT E F (g := mkF m pc ls (.ref a :: st)) rfl rfl (hb hby hd)
theorem r_acmp (ok : Ok Z K EL own code maxL ret nm R l w Q) {cd : ACond} {x y : Value} {o : Int} {same : Bool} (h1 : x.isRef = true) (h2 : y.isRef = true) (hd : decode code pc = .ok (.if_acmp cd o, 3)) (hq : decide (x = y) = same) (ho : 0 ≤ (pc : Int) + o) (hp : pc' = if acV cd same = true then ((pc : Int) + o).toNat else pc + 3) (hr : Run Z K ph h n1 n2 pc' ls st) : Run Z K ph h n1 n2 pc ls (y :: x :: st) :=
  rX ok hr fun p e s m args below meth c T locs X hx hby hZ hw eT t => acmp (g := mkF m pc ls (y :: x :: st)) X hx rfl h1 h2 rfl (hb hby hd) rfl hq ho hp
theorem r_init (ok : Ok Z K EL own code maxL ret nm R l w Q) (hp : pc + 3 = pc') {idx : Nat} {a : Addr} (hd : decode code pc = .ok (.invokespecial idx, 3)) (w1 : (Jvm.Cond.methodLink own idx Lib.objectInit).before a0 Z = true) (w2 : (Jvm.Cond.instanceMethod Lib.objectInit).before a0 Z = true) (w3 : (Jvm.Cond.code Lib.objectInit ⟨#[0xb1]⟩ 1 none).before a0 Z = true) (hls : ls.size = maxL) (hf : 1 ≤ R.frames) (hl : (st.map fun v => v.category).sum + 12 ≤ R.locals) (hr : Run Z K ph h n1 n2 pc' ls st) : Run Z K ph h n1 n2 pc ls (.ref a :: st) := by
  subst hp
  exact rT ok hr fun p e s m args below meth c T locs X hx hby hml hZ ho eT => initO X hx hZ ho w1 w2 w3 eT (g := mkF m pc ls (.ref a :: st)) rfl (by rw [hml]; exact hls) rfl (hb hby hd) hf (W := (st.map fun v => v.category).sum) (by show 2 * 0 + _ ≤ _; omega) hl
theorem r_putfield (ok : Ok Z K EL own code maxL ret nm R l w Q) (hp : pc + 3 = pc') {R0 O n d host C : String} {idx kk : Nat} {ty : FieldType} {a : Addr} {v old : Value} (hd : decode code pc = .ok (.putfield idx, 3)) (w1 : (Jvm.Cond.fieldLink own idx R0 n d).before a0 Z = true ∨ (Jvm.Cond.fieldLinkNest own idx R0 n d host).before a0 Z = true) (via : Via Z R0 O n d) (w2 : (Jvm.Cond.lays C O n d).before a0 Z = true ∨ ((Jvm.Cond.laysFinal C O n d).before a0 Z = true ∧ own = O ∧ nm = "<init>")) (w3 : (Jvm.Cond.instantiable C kk).before a0 Z = true)
    (F : Fld Z h a O n d old) (E : Exa Z h a C) (g : Z.heap.size ≤ a) (hty : parseFieldDescriptor d = some ty) (hn : narrow ty v = v) (hf : fits ty v = true) (hr : ∀ h', Wr h h' a (RoadKit.slotOf Z O n d) v → Fld Z h' a O n d v → Exa Z h' a C → Run Z K ph h' n1 n2 pc' ls st) : Run Z K ph h n1 n2 pc ls (v :: .ref a :: st) := by
  subst hp
  refine rH ok (P := fun h' => Wr h h' a (RoadKit.slotOf Z O n d) v) (m1 := n1) (m2 := n2) (fun p e s m args below meth c T locs X hx hby hml hZ ho hnm eT X0 => ?_) (fun h' q => hr h' q (F.same q) (E.wr q))
  obtain ⟨T', h', X', e', W, st'⟩ := putF X hx hZ ho w1 via eT F E (w2.imp id fun q => ⟨q.1, q.2.1, hnm.trans q.2.2⟩) w3 hty hn hf (g := mkF m pc ls (v :: .ref a :: st)) rfl rfl (hb hby hd)
  exact ⟨T', h', _, X', e', (fun y hy => by cases List.mem_singleton.mp hy; exact g), Nat.le_of_eq W.size.symm, ext_wr X0 W g, W, st'⟩
theorem r_putfieldN (ok : Ok Z K EL own code maxL ret nm R l w Q) (hp : pc + 3 = pc') {R0 O n d C : String} {idx kk : Nat} {ty : FieldType} {a : Addr} {v v' old : Value} (hd : decode code pc = .ok (.putfield idx, 3)) (w1 : (Jvm.Cond.fieldLink own idx R0 n d).before a0 Z = true) (via : Via Z R0 O n d) (w2 : (Jvm.Cond.lays C O n d).before a0 Z = true ∨ ((Jvm.Cond.laysFinal C O n d).before a0 Z = true ∧ own = O ∧ nm = "<init>")) (w3 : (Jvm.Cond.instantiable C kk).before a0 Z = true)
    (F : Fld Z h a O n d old) (E : Exa Z h a C) (g : Z.heap.size ≤ a) (hty : parseFieldDescriptor d = some ty) (hn : narrow ty v = v') (hf : fits ty v' = true) (hr : ∀ h', Wr h h' a (RoadKit.slotOf Z O n d) v' → Fld Z h' a O n d v' → Exa Z h' a C → Run Z K ph h' n1 n2 pc' ls st) : Run Z K ph h n1 n2 pc ls (v :: .ref a :: st) := by
  subst hp
  refine rH ok (P := fun h' => Wr h h' a (RoadKit.slotOf Z O n d) v') (m1 := n1) (m2 := n2) (fun p e s m args below meth c T locs X hx hby hml hZ ho hnm eT X0 => ?_) (fun h' q => hr h' q (F.same q) (E.wr q))
  obtain ⟨T', h', X', e', W, st'⟩ := putFN X hx hZ ho w1 via eT F E (w2.imp id fun q => ⟨q.1, q.2.1, hnm.trans q.2.2⟩) w3 hty hn hf (g := mkF m pc ls (v :: .ref a :: st)) rfl rfl (hb hby hd)
  exact ⟨T', h', _, X', e', (fun y hy => by cases List.mem_singleton.mp hy; exact g), Nat.le_of_eq W.size.symm, ext_wr X0 W g, W, st'⟩
/-- an array's length -/
theorem r_arraylength (ok : Ok Z K EL own code maxL ret nm R l w Q) (hp : pc + 1 = pc') {a : Addr} {k : ClassId} {ty : FieldType} {n : Int32} {vs : List Value} {dv : Value} (hd : decode code pc = .ok (.arraylength, 1)) (A : Arv Z h a k ty n vs dv) (hr : Run Z K ph h n1 n2 pc' ls (.int n :: st)) : Run Z K ph h n1 n2 pc ls (.ref a :: st) := by
  subst hp
  obtain ⟨cl, Ar, q, S, N, H, G⟩ := A
  exact rX ok hr fun p e s m args below meth c T locs X hx hby hZ ho eT t ht => X.arraylength hx (a := a) (cell := cl) (ty := ty) (by rw [eT]; exact Ar.1) (State.isArrayOf_alike hZ.alike Ar.2.1) (g := mkF m pc ls (.ref a :: st)) rfl rfl (hb hby hd) t (by rw [len_of S N]; exact ht)
/-- an element's place -/
theorem getD_at {c : Cell} {vs : List Value} {dv : Value} {j n : Int32} (S : c.slots.size = n.toNatClampNeg) (H : Has c vs dv) (q : ¬ j < 0 ∧ j < n) : c.slots[j.toNatClampNeg]? = some (vs.getD j.toNatClampNeg dv) := H.at (inb_of S q) rfl
theorem r_caload (ok : Ok Z K EL own code maxL ret nm R l w Q) (hp : pc + 1 = pc') {a : Addr} {k : ClassId} {n j : Int32} {vs : List Value} {v dv : Value} (hd : decode code pc = .ok (.caload, 1)) (A : Arv Z h a k .char n vs dv) (q : ¬ j < 0 ∧ j < n) (hv : vs.getD j.toNatClampNeg dv = v) (hr : Run Z K ph h n1 n2 pc' ls (v :: st)) : Run Z K ph h n1 n2 pc ls (.int j :: .ref a :: st) := by
  subst hp
  obtain ⟨cl, Ar, q1, S, N, H, G⟩ := A
  exact rX ok hr fun p e s m args below meth c T locs X hx hby hZ ho eT t => X.caload hx (j := j) (v := v) (by rw [eT]; exact Ar.1) (State.isArrayOf_alike hZ.alike Ar.2.1) Ar.2.2 (inb_of S q) (H.at (inb_of S q) hv) (g := mkF m pc ls (.int j :: .ref a :: st)) rfl rfl (hb hby hd) t
theorem r_baload (ok : Ok Z K EL own code maxL ret nm R l w Q) (hp : pc + 1 = pc') {a : Addr} {k : ClassId} {n j : Int32} {vs : List Value} {v dv : Value} (hd : decode code pc = .ok (.baload, 1)) (A : Arv Z h a k .byte n vs dv) (q : ¬ j < 0 ∧ j < n) (hv : vs.getD j.toNatClampNeg dv = v) (hr : Run Z K ph h n1 n2 pc' ls (v :: st)) : Run Z K ph h n1 n2 pc ls (.int j :: .ref a :: st) := by
  subst hp
  obtain ⟨cl, Ar, q1, S, N, H, G⟩ := A
  exact rX ok hr fun p e s m args below meth c T locs X hx hby hZ ho eT t => X.baloadBytes hx (j := j) (v := v) (by rw [eT]; exact Ar.1) (State.isArrayOf_alike hZ.alike Ar.2.1) Ar.2.2 (inb_of S q) (H.at (inb_of S q) hv) (g := mkF m pc ls (.int j :: .ref a :: st)) rfl rfl (hb hby hd) t
theorem r_baloadZ (ok : Ok Z K EL own code maxL ret nm R l w Q) (hp : pc + 1 = pc') {a : Addr} {k : ClassId} {n j : Int32} {vs : List Value} {v dv : Value} (hd : decode code pc = .ok (.baload, 1)) (A : Arv Z h a k .boolean n vs dv) (q : ¬ j < 0 ∧ j < n) (hv : vs.getD j.toNatClampNeg dv = v) (hr : Run Z K ph h n1 n2 pc' ls (v :: st)) : Run Z K ph h n1 n2 pc ls (.int j :: .ref a :: st) := by
  subst hp
  obtain ⟨cl, Ar, q1, S, N, H, G⟩ := A
  exact rX ok hr fun p e s m args below meth c T locs X hx hby hZ ho eT t => X.baloadBooleans hx (j := j) (v := v) (by rw [eT]; exact Ar.1) (State.isArrayOf_alike hZ.alike Ar.2.1) Ar.2.2 (inb_of S q) (H.at (inb_of S q) hv) (g := mkF m pc ls (.int j :: .ref a :: st)) rfl rfl (hb hby hd) t
theorem r_aaload (ok : Ok Z K EL own code maxL ret nm R l w Q) (hp : pc + 1 = pc') {a : Addr} {k : ClassId} {ty : FieldType} {n j : Int32} {vs : List Value} {v dv : Value} (hd : decode code pc = .ok (.aaload, 1)) (hty : ty.isReference = true) (A : Arv Z h a k ty n vs dv) (q : ¬ j < 0 ∧ j < n) (hv : vs.getD j.toNatClampNeg dv = v) (hr : Run Z K ph h n1 n2 pc' ls (v :: st)) : Run Z K ph h n1 n2 pc ls (.int j :: .ref a :: st) := by
  subst hp
  obtain ⟨cl, Ar, q1, S, N, H, G⟩ := A
  exact rX ok hr fun p e s m args below meth c T locs X hx hby hZ ho eT t => X.aaload hx (j := j) (v := v) (by rw [eT]; exact Ar.1) (State.isArrayOf_alike hZ.alike Ar.2.1) hty Ar.2.2 (inb_of S q) (H.at (inb_of S q) hv) (g := mkF m pc ls (.int j :: .ref a :: st)) rfl rfl (hb hby hd) t
/-- stores into arrays -/
theorem r_castore (ok : Ok Z K EL own code maxL ret nm R l w Q) (hp : pc + 1 = pc') {a : Addr} {k : ClassId} {n j x : Int32} {vs : List Value} {dv : Value} (i : Nat) (hd : decode code pc = .ok (.castore, 1)) (A : Arv Z h a k .char n vs dv) (g : Z.heap.size ≤ a) (q : ¬ j < 0 ∧ j < n) (hj : j.toNatClampNeg = i) (hi : i < vs.length) (hr : ∀ h', Wr h h' a j.toNatClampNeg (.int (nar .char x)) → Arv Z h' a k .char n (vs.set i (.int (nar .char x))) dv → Run Z K ph h' n1 n2 pc' ls st) : Run Z K ph h n1 n2 pc ls (.int x :: .int j :: .ref a :: st) := by
  subst hp
  obtain ⟨cl, Ar, q1, S, N, H, G⟩ := A
  refine rH ok (P := fun h' => Wr h h' a j.toNatClampNeg (.int (nar .char x))) (m1 := n1) (m2 := n2) (fun p e s m args below meth c T locs X hx hby hml hZ ho hnm eT X0 => ?_) (fun h' W => hr h' W (Arv.set Ar q1 S N H G (fits_nar_char _) W i hj hi))
  obtain ⟨T', h', X', e', W, st'⟩ := stC X hx hZ eT Ar (inb_of S q) (g := mkF m pc ls (.int x :: .int j :: .ref a :: st)) rfl rfl (hb hby hd)
  exact ⟨T', h', _, X', e', (fun y hy => by cases List.mem_singleton.mp hy; exact g), Nat.le_of_eq W.size.symm, ext_wr X0 W g, W, st'⟩
theorem r_bastore (ok : Ok Z K EL own code maxL ret nm R l w Q) (hp : pc + 1 = pc') {a : Addr} {k : ClassId} {n j x : Int32} {vs : List Value} {dv : Value} (i : Nat) (hd : decode code pc = .ok (.bastore, 1)) (A : Arv Z h a k .byte n vs dv) (g : Z.heap.size ≤ a) (q : ¬ j < 0 ∧ j < n) (hj : j.toNatClampNeg = i) (hi : i < vs.length) (hr : ∀ h', Wr h h' a j.toNatClampNeg (.int (nar .byte x)) → Arv Z h' a k .byte n (vs.set i (.int (nar .byte x))) dv → Run Z K ph h' n1 n2 pc' ls st) : Run Z K ph h n1 n2 pc ls (.int x :: .int j :: .ref a :: st) := by
  subst hp
  obtain ⟨cl, Ar, q1, S, N, H, G⟩ := A
  refine rH ok (P := fun h' => Wr h h' a j.toNatClampNeg (.int (nar .byte x))) (m1 := n1) (m2 := n2) (fun p e s m args below meth c T locs X hx hby hml hZ ho hnm eT X0 => ?_) (fun h' W => hr h' W (Arv.set Ar q1 S N H G (fits_nar_byte _) W i hj hi))
  obtain ⟨T', h', X', e', W, st'⟩ := stB X hx hZ eT Ar (inb_of S q) (g := mkF m pc ls (.int x :: .int j :: .ref a :: st)) rfl rfl (hb hby hd)
  exact ⟨T', h', _, X', e', (fun y hy => by cases List.mem_singleton.mp hy; exact g), Nat.le_of_eq W.size.symm, ext_wr X0 W g, W, st'⟩
theorem r_aastore (ok : Ok Z K EL own code maxL ret nm R l w Q) (hp : pc + 1 = pc') {a : Addr} {k : ClassId} {ty : FieldType} {n j : Int32} {v : Value} {vs : List Value} {dv : Value} (i : Nat) (hd : decode code pc = .ok (.aastore, 1)) (hty : ty.isReference = true) (A : Arv Z h a k ty n vs dv) (F : Sto Z h a v) (hv : fits ty v = true) (g : Z.heap.size ≤ a) (q : ¬ j < 0 ∧ j < n) (hj : j.toNatClampNeg = i) (hi : i < vs.length) (hr : ∀ h', Wr h h' a j.toNatClampNeg v → Arv Z h' a k ty n (vs.set i v) dv → Run Z K ph h' n1 n2 pc' ls st) : Run Z K ph h n1 n2 pc ls (v :: .int j :: .ref a :: st) := by
  subst hp
  obtain ⟨cl, Ar, q1, S, N, H, G⟩ := A
  refine rH ok (P := fun h' => Wr h h' a j.toNatClampNeg v) (m1 := n1) (m2 := n2) (fun p e s m args below meth c T locs X hx hby hml hZ ho hnm eT X0 => ?_) (fun h' W => hr h' W (Arv.set Ar q1 S N H G hv W i hj hi))
  obtain ⟨T', h', X', e', W, st'⟩ := stR X hx hZ eT Ar (inb_of S q) hty F (g := mkF m pc ls (v :: .int j :: .ref a :: st)) rfl rfl (hb hby hd)
  exact ⟨T', h', _, X', e', (fun y hy => by cases List.mem_singleton.mp hy; exact g), Nat.le_of_eq W.size.symm, ext_wr X0 W g, W, st'⟩
/-- constants out of the pool -/
theorem r_ldcI (ok : Ok Z K EL own code maxL ret nm R l w Q) (hp : pc + 2 = pc') {idx : Nat} {v : Int32} (hd : decode code pc = .ok (.ldc idx, 2)) (w1 : (Jvm.Cond.constant own idx v).before a0 Z = true) (hr : Run Z K ph h n1 n2 pc' ls (.int v :: st)) : Run Z K ph h n1 n2 pc ls st := by
  subst hp; exact rX ok hr fun p e s m args below meth c T locs X hx hby hZ ho eT t => X.ldcI hx ho (mv hZ w1) (g := mkF m pc ls st) rfl (hb hby hd)

/-- what a call leaves, of a walk that hasn't interned | that may have -/
theorem rCall (ok : Ok Z K EL own code maxL ret nm R l w Q) {w' : Bool} {EL' : Els} {k n : Nat} {as : Array Value} {rest : List Value} {Q' : Option Value → Heap → Prop} (hww : w' = true → w = true) (hEL : EL' = [] ∨ EL' = EL ∧ ∀ s v, ph s v → v = s.vm)
    (f0 : w' = false → ∀ (p : Program) (e : Env) (s : State) (m : MethodId) (args : Array Value) (below : List Frame) (meth : Method) (c : Code) (T : State) (locs : List Loc), Stand p l e R s m args below meth c T locs n1 n2 → p.tables.exec = Jvm.exec → c.code = code → c.maxLocals = maxL → Z.Warmed39 s.vm → s.vm.findClass own = some m.cls → T.heap = h → CHv Z EL' s.vm Z.heap → Ext Z.heap h →
      ∃ (v : Option Value) (vm₁ : Vm) (B : Pt), Stand p l e R s m args below meth c B.U B.locs B.cells B.slots ∧ (∃ L, Pst Z h.size Q' v B.U.heap L ∧ B.locs = locs ++ L ∧ B.cells = n1 + k ∧ B.slots = n2 + n) ∧ ∀ t, Steps p.tables e below (B.U.setTop (mkF m pc' ls (v.toList ++ rest))) t → Steps p.tables e below (T.setTop (mkF m pc ls st)) t)
    (f1 : w' = true → ∀ (p : Program) (e : Env) (s : State) (m : MethodId) (args : Array Value) (below : List Frame) (meth : Method) (c : Code) (T : State) (locs : List Loc), Stand p l e R s m args below meth c T locs n1 n2 → p.tables.exec = Jvm.exec → c.code = code → c.maxLocals = maxL → Z.Warmed39 s.vm → s.vm.findClass own = some m.cls → T.heap = h → CHv Z EL' s.vm Z.heap → Ext Z.heap h →
      ∃ (v : Option Value) (vm₁ : Vm) (B : Pt), Stand p l e R (s.setVm B.U.vm) m args below meth c B.U B.locs B.cells B.slots ∧ s.Since B.U.vm B.U.heap.size ∧ (∃ L, Pst Z h.size Q' v B.U.heap L ∧ B.locs = locs ++ L ∧ B.cells = n1 + k ∧ B.slots = n2 + n) ∧ ∀ t, Steps p.tables e below (B.U.setTop (mkF m pc' ls (v.toList ++ rest))) t → Steps p.tables e below (T.setTop (mkF m pc ls st)) t)
    (hr : ∀ v h', Q' v h' → h.size ≤ h'.size → Run Z K (PhA w' ph) h' (n1 + k) (n2 + n) pc' ls (v.toList ++ rest)) : Run Z K ph h n1 n2 pc ls st := by
  obtain ⟨p, l1, e, R1, s, m, args, below, meth, c, w1, Q1⟩ := K
  obtain ⟨hx, hby, hml, ho, hret, hlk, hnm, rfl, rfl, rfl, rfl, hCH⟩ := ok
  intro T X W
  obtain ⟨vm0, k0, locs, S, hS, hk, hZ, hF, eT, hw⟩ := W
  have hC : CHv Z EL' (s.setVm vm0).vm Z.heap := by
    rcases hEL with rfl | ⟨rfl, q⟩
    · exact chv_nil
    · rw [q _ _ hw]; exact hCH
  cases w'
  · obtain ⟨v, vm₁, ⟨U, Lq, c1, s1⟩, S', ⟨L, ⟨hq, hL, hX', hle⟩, e1, e2, e3⟩, hst⟩ := f0 rfl p e (s.setVm vm0) m args below meth c T locs S hx hby hml hZ (ho vm0 hZ) eT hC X
    dsimp only [Pt.U, Pt.locs, Pt.cells, Pt.slots] at S' hq hX' hle e1 e2 e3 hst
    subst e1 e2 e3
    obtain ⟨s₂, o, h1, r⟩ := hr v U.heap hq hle U hX' ⟨vm0, k0, _, S', hS, by rw [eT] at hk; exact Nat.le_trans hk hle, hZ, hF.app hL, rfl, hw⟩
    exact ⟨s₂, o, hst _ h1, r⟩
  · obtain ⟨v, vm₁, ⟨U, Lq, c1, s1⟩, S', hS', ⟨L, ⟨hq, hL, hX', hle⟩, e1, e2, e3⟩, hst⟩ := f1 rfl p e (s.setVm vm0) m args below meth c T locs S hx hby hml hZ (ho vm0 hZ) eT hC X
    dsimp only [Pt.U, Pt.locs, Pt.cells, Pt.slots] at S' hS' hq hX' hle e1 e2 e3 hst
    subst e1 e2 e3
    obtain ⟨s₂, o, h1, r⟩ := hr v U.heap hq hle U hX' ⟨U.vm, U.heap.size, _, S', hS.trans hS' (by rw [eT] at hk; exact Nat.le_trans hk hle), Nat.le_refl _, State.Warmed39.trans (t := s.setVm vm0) hZ hS'.1, hF.app hL, rfl, trivial⟩
    exact ⟨s₂, o, hst _ h1, r⟩
section Calls
variable {y : MethodName} {idx : Nat} {bytes : ByteArray} {mL : Nat} {rt : Option FieldType} {ps : List FieldType} {rty : Option FieldType} {w' : Bool} {EL' : Els} {W k n : Nat} {as : Array Value} {Q' : Option Value → Heap → Prop} {argsL rest : List Value}
theorem r_static (ok : Ok Z K EL own code maxL ret nm R l w Q) (hp : pc + 3 = pc') (hd : decode code pc = .ok (.invokestatic idx, 3)) (w1 : (Jvm.Cond.methodLink own idx y).before a0 Z = true) (w2 : (Jvm.Cond.static y).before a0 Z = true) (w3 : (Jvm.Cond.initialized y.cls).before a0 Z = true) (w4 : (Jvm.Cond.code y bytes mL rt).before a0 Z = true)
    (hy : y.cls ≠ "java/lang/invoke/MethodHandle" ∧ y.cls ≠ "java/lang/invoke/VarHandle") (pd : parseMethodDescriptor y.desc = some ⟨ps, rty⟩) (pay : Pay Z EL' w' l R y 3 W as h k n Q') (hww : w' = true → w = true) (hEL : EL' = [] ∨ EL' = EL ∧ ∀ s v, ph s v → v = s.vm) (hls : ls.size = maxL) (has : argsL.toArray = as) (hst : st = argsL.reverse ++ rest) (hlen : argsL.length = ps.length) (hW : (rest.map fun v => v.category).sum ≤ W) (hc : n1 + k ≤ R.cells) (hn : n2 + n ≤ R.slots)
    (hr : ∀ v h', Q' v h' → h.size ≤ h'.size → Run Z K (PhA w' ph) h' (n1 + k) (n2 + n) pc' ls (v.toList ++ rest)) : Run Z K ph h n1 n2 pc ls st := by
  subst hp has
  refine rCall ok (w' := w') (as := argsL.toArray) hww hEL (fun hw0 p e s m args below meth c T locs S hx hby hml hZ ho eT hC X => ?_) (fun hw0 p e s m args below meth c T locs S hx hby hml hZ ho eT hC X => ?_) hr
  · subst hw0
    obtain ⟨v, vm₁, B, -, S', hQ, hst'⟩ := Jvm.LawKit.callS S hx ho (mvT hZ w1) (mvT hZ w2) (mvT hZ w3) (mvT hZ w4) hy (pay p e below s args hZ hC X) (g := mkF m pc ls st) rfl (by rw [hml]; exact hls) (argsL := argsL) (rest := rest) (lenOf pd hlen) hst (by show 2 * 0 + _ ≤ _; omega) (hb hby hd) (fun _ _ => ⟨rfl, eT, hc, hn⟩)
    exact ⟨v, vm₁, B, S', hQ, hst'⟩
  · subst hw0
    obtain ⟨v, vm₁, B, -, S', hS, -, hQ, hst'⟩ := callSS S hx ho (mvT hZ w1) (mvT hZ w2) (mvT hZ w3) (mvT hZ w4) hy (pay p e below s args hZ hC X) (g := mkF m pc ls st) rfl (by rw [hml]; exact hls) (argsL := argsL) (rest := rest) (lenOf pd hlen) hst (by show 2 * 0 + _ ≤ _; omega) (hb hby hd) (fun _ _ => ⟨rfl, eT, hc, hn⟩)
    exact ⟨v, vm₁, B, S', hS, hQ, fun t ht => hst'.trans ht⟩
theorem r_special {a : Addr} (ok : Ok Z K EL own code maxL ret nm R l w Q) (hp : pc + 3 = pc') (hd : decode code pc = .ok (.invokespecial idx, 3)) (hy1 : y.name = "<init>") (w1 : (Jvm.Cond.methodLink own idx y).before a0 Z = true) (w2 : (Jvm.Cond.instanceMethod y).before a0 Z = true) (w4 : (Jvm.Cond.code y bytes mL none).before a0 Z = true)
    (hy : y.cls ≠ "java/lang/invoke/MethodHandle" ∧ y.cls ≠ "java/lang/invoke/VarHandle") (pd : parseMethodDescriptor y.desc = some ⟨ps, rty⟩) (pay : Pay Z EL' w' l R y 3 W as h k n Q') (hww : w' = true → w = true) (hEL : EL' = [] ∨ EL' = EL ∧ ∀ s v, ph s v → v = s.vm) (hls : ls.size = maxL) (has : (.ref a :: argsL).toArray = as) (hst : st = argsL.reverse ++ .ref a :: rest) (hlen : argsL.length = ps.length) (hW : (rest.map fun v => v.category).sum ≤ W) (hc : n1 + k ≤ R.cells) (hn : n2 + n ≤ R.slots)
    (hr : ∀ v h', Q' v h' → h.size ≤ h'.size → Run Z K (PhA w' ph) h' (n1 + k) (n2 + n) pc' ls (v.toList ++ rest)) : Run Z K ph h n1 n2 pc ls st := by
  subst hp has
  refine rCall ok (w' := w') (as := (.ref a :: argsL).toArray) hww hEL (fun hw0 p e s m args below meth c T locs S hx hby hml hZ ho eT hC X => ?_) (fun hw0 p e s m args below meth c T locs S hx hby hml hZ ho eT hC X => ?_) hr
  · subst hw0
    obtain ⟨v, vm₁, B, -, S', hQ, hst'⟩ := S.specialBack hx hy1 ho (mvT hZ w1) (mvT hZ w2) (mvT hZ w4) hy (pay p e below s args hZ hC X) (g := mkF m pc ls st) rfl (by rw [hml]; exact hls) (Steps.refl _) (a := a) (argsL := argsL) (rest := rest) (lenOf pd hlen) hst (by show 2 * 0 + _ ≤ _; omega) (hb hby hd) (fun _ _ => ⟨rfl, eT, hc, hn⟩)
    exact ⟨v, vm₁, B, S', hQ, fun t ht => hst'.trans ht⟩
  · subst hw0
    obtain ⟨v, vm₁, B, -, S', hS, -, hQ, hst'⟩ := S.specialBackS hx hy1 ho (mvT hZ w1) (mvT hZ w2) (mvT hZ w4) hy (pay p e below s args hZ hC X) (g := mkF m pc ls st) rfl (by rw [hml]; exact hls) (Steps.refl _) (a := a) (argsL := argsL) (rest := rest) (lenOf pd hlen) hst (by show 2 * 0 + _ ≤ _; omega) (hb hby hd) (fun _ _ => ⟨rfl, eT, hc, hn⟩)
    exact ⟨v, vm₁, B, S', hS, hQ, fun t ht => hst'.trans ht⟩
theorem r_virtual {a : Addr} {C : String} {z : MethodName} (ok : Ok Z K EL own code maxL ret nm R l w Q) (hp : pc + 3 = pc') (hd : decode code pc = .ok (.invokevirtual idx, 3)) (w1 : (Jvm.Cond.methodLink own idx y).before a0 Z = true) (w2 : (Jvm.Cond.declares y).before a0 Z = true) (w3 : (Jvm.Cond.selects C y z).before a0 Z = true) (w4 : (Jvm.Cond.instanceMethod z).before a0 Z = true) (nf : ∀ (s : State), Z.Warmed39 s.vm → NotFace s y) (E : Exa Z h a C)
    (hy : y.cls ≠ "java/lang/invoke/MethodHandle" ∧ y.cls ≠ "java/lang/invoke/VarHandle") (pd : parseMethodDescriptor y.desc = some ⟨ps, rty⟩) (pay : Pay Z EL' w' l R z 3 W as h k n Q') (hww : w' = true → w = true) (hEL : EL' = [] ∨ EL' = EL ∧ ∀ s v, ph s v → v = s.vm) (hls : ls.size = maxL) (has : (.ref a :: argsL).toArray = as) (hst : st = argsL.reverse ++ .ref a :: rest) (hlen : argsL.length = ps.length) (hW : (rest.map fun v => v.category).sum ≤ W) (hc : n1 + k ≤ R.cells) (hn : n2 + n ≤ R.slots)
    (hr : ∀ v h', Q' v h' → h.size ≤ h'.size → Run Z K (PhA w' ph) h' (n1 + k) (n2 + n) pc' ls (v.toList ++ rest)) : Run Z K ph h n1 n2 pc ls st := by
  subst hp has
  refine rCall ok (w' := w') (as := (.ref a :: argsL).toArray) hww hEL (fun hw0 p e s m args below meth c T locs S hx hby hml hZ ho eT hC X => ?_) (fun hw0 p e s m args below meth c T locs S hx hby hml hZ ho eT hC X => ?_) hr
  · subst hw0
    obtain ⟨cq, kq, qa, qb, qc⟩ := isOf hZ eT E
    obtain ⟨v, vm₁, B, -, S', hQ, hst'⟩ := S.virtualBack hx ho (mvT hZ w1) (mvT hZ w2) (nf s hZ) (mvT hZ w3) (mvT hZ w4) hy (pay p e below s args hZ hC X) qa qc (g := mkF m pc ls st) rfl (by rw [hml]; exact hls) (Steps.refl _) (argsL := argsL) (rest := rest) (lenOf pd hlen) hst (by show 2 * 0 + _ ≤ _; omega) (hb hby hd) (fun _ _ => ⟨rfl, eT, hc, hn⟩)
    exact ⟨v, vm₁, B, S', hQ, fun t ht => hst'.trans ht⟩
  · subst hw0
    obtain ⟨cq, kq, qa, qb, qc⟩ := isOf hZ eT E
    obtain ⟨v, vm₁, B, -, S', hS, -, hQ, hst'⟩ := S.virtualBackS hx ho (mvT hZ w1) (mvT hZ w2) (nf s hZ) (mvT hZ w3) (mvT hZ w4) hy (pay p e below s args hZ hC X) qa qc (g := mkF m pc ls st) rfl (by rw [hml]; exact hls) (Steps.refl _) (argsL := argsL) (rest := rest) (lenOf pd hlen) hst (by show 2 * 0 + _ ≤ _; omega) (hb hby hd) (fun _ _ => ⟨rfl, eT, hc, hn⟩)
    exact ⟨v, vm₁, B, S', hS, hQ, fun t ht => hst'.trans ht⟩
theorem nf_sel {C : String} {z : MethodName} (w3 : (Jvm.Cond.selects C y y).before a0 Z = true) : ∀ (s : State), Z.Warmed39 s.vm → NotFace s y := fun s hZ => notFace_of_selects (args := #[]) (mvT hZ w3)
end Calls
theorem cV {rest : List Value} {m1 m2 : Nat} {Q' : Value → Heap → Prop} (f : ∀ x h', Q' x h' → h.size ≤ h'.size → Run Z K ph h' m1 m2 pc ls (x :: rest)) : ∀ v h', rV Q' v h' → h.size ≤ h'.size → Run Z K ph h' m1 m2 pc ls (v.toList ++ rest) := by
  rintro _ h' ⟨x, rfl, q⟩ hl; exact f x h' q hl
theorem cU {rest : List Value} {m1 m2 : Nat} {Q' : Heap → Prop} (f : ∀ h', Q' h' → h.size ≤ h'.size → Run Z K ph h' m1 m2 pc ls rest) : ∀ v h', rU Q' v h' → h.size ≤ h'.size → Run Z K ph h' m1 m2 pc ls (v.toList ++ rest) := by
  rintro _ h' ⟨rfl, q⟩ hl; exact f h' q hl
theorem r_gen {x : Int32} (hr : ∀ z, z = x → Run Z K ph h n1 n2 pc ls (.int z :: st)) : Run Z K ph h n1 n2 pc ls (.int x :: st) := hr x rfl
theorem r_genL {x : Int64} (hr : ∀ z, z = x → Run Z K ph h n1 n2 pc ls (.long z :: st)) : Run Z K ph h n1 n2 pc ls (.long x :: st) := hr x rfl
theorem Pay.more {y : MethodName} {len W k n k' n' : Nat} {as : Array Value} {Q' : Option Value → Heap → Prop} (H : Pay Z EL false l R y len W as h k n Q') (hk : k ≤ k') (hn : n ≤ n') : Pay Z EL false l R y len W as h k' n' Q' := by
  intro p e below s args hZ H0 X m meth c A g ig mk a S hg hsize hdg hW hnm hp
  obtain ⟨v, B, S', ⟨L, q, e1, e2, e3⟩, hs⟩ := H p e below s args hZ H0 X m meth c A g ig mk a S hg hsize hdg hW hnm ⟨hp.1, hp.2.1, by have := hp.2.2.1; omega, by have := hp.2.2.2; omega⟩
  exact ⟨v, (B.U, B.locs, A.cells + k', A.slots + n'), Stand.more S' (by show B.cells ≤ A.cells + k'; rw [e2]; omega) (by show B.slots ≤ A.slots + n'; rw [e3]; omega), ⟨L, q, e1, rfl, rfl⟩, hs⟩
/-- a String constant that may be new to the machine -/
theorem r_ldcS (ok : Ok Z K EL own code maxL ret nm R l true Q) (hp : pc + 2 = pc') {idx : Nat} {text : String} (n : Nat) (hd : decode code pc = .ok (.ldc idx, 2)) (w1 : (Jvm.Cond.stringLink own idx text).before a0 Z = true) (wS : ∀ a ∈ Bundle.stringAtoms, a.before a0 Z = true) (hn : 4 * text.toList.length ≤ n) (hbig : n ≤ 536870912) (hc : n1 + 2 ≤ R.cells) (hl : n2 + (n + 4) ≤ R.slots)
    (hr : ∀ h' a, Ext h h' → Run Z K Dty h' (n1 + 2) (n2 + (n + 4)) pc' ls (.ref a :: st)) : Run Z K ph h n1 n2 pc ls st := by
  subst hp
  obtain ⟨p, l1, e, R1, s, m, args, below, meth, c, w1', Q1⟩ := K
  obtain ⟨hx, hby, hml, ho, hret, hlk, hnm, rfl, rfl, rfl, rfl, hCH⟩ := ok
  intro T X W
  obtain ⟨vm0, k0, locs, S, hS, hk, hZ, hF, eT, hw⟩ := W
  obtain ⟨a, T', h', k1, S', e', E, hS', hk', hZ', -, hst⟩ := ldcS S hx hZ (ho vm0 hZ) w1 wS eT hS (by rw [eT] at hk; exact hk) (g := mkF m pc ls st) rfl (hb hby hd) hn hbig hc hl
  obtain ⟨s₂, o, h1, r⟩ := hr h' a E T' (ext_trans X E) ⟨T'.vm, k1, locs, S', hS', by rw [e']; exact hk', hZ', hF, e', trivial⟩
  exact ⟨s₂, o, hst _ h1, r⟩
/-- a String constant, read, where nothing has been interned so far; and the same once more behind it -/
theorem r_ldcL (ok : Ok Z K EL own code maxL ret nm R l true Q) (hp : pc + 2 = pc') {idx : Nat} {text : String} (n : Nat) {vs : List Value} {z : Int32} (hd : decode code pc = .ok (.ldc idx, 2)) (w1 : (Jvm.Cond.stringLink own idx text).before a0 Z = true) (wS : ∀ a ∈ Bundle.stringAtoms, a.before a0 Z = true) (hEL : EW Z a0 EL) (hmem : (own, idx) ∈ EL) (hcl : ∀ s v, ph s v → v = s.vm) (ht : (∀ c ∈ text.toList, c.toNat < 256) ∧ text.toList.map (fun c => Value.int (Jvm.Lit.byteI c.toNat.toUInt16)) = vs) (hz : ¬ z < 0) (hvl : z.toNatClampNeg = vs.length) (hn : 4 * text.toList.length ≤ n) (hbig : n ≤ 536870912) (hc : n1 + 2 ≤ R.cells) (hl : n2 + (n + 4) ≤ R.slots)
    (hr : ∀ h' a b k, Ext h h' → Exa Z h' a "java/lang/String" → Fld Z h' a "java/lang/String" "coder" "B" (.int 0) → Fld Z h' a "java/lang/String" "value" "[B" (.ref b) → Arv Z h' b k .byte z vs (.int 0) → Run Z K (fun s v => Lit (s.setVm v) own idx a) h' (n1 + 2) (n2 + (n + 4)) pc' ls (.ref a :: st)) : Run Z K ph h n1 n2 pc ls st := by
  subst hp
  obtain ⟨p, l1, e, R1, s, m, args, below, meth, c, w1', Q1⟩ := K
  obtain ⟨hx, hby, hml, ho, hret, hlk, hnm, rfl, rfl, rfl, rfl, hCH⟩ := ok
  intro T X W
  obtain ⟨vm0, k0, locs, S, hS, hk, hZ, hF, eT, hw⟩ := W
  have hC : CHv Z EL vm0 h := by rw [hcl _ _ hw]; exact hCH.ext X
  obtain ⟨a, T', h', k1, b, k, S', e', E, hS', hk', hZ', -, q1, q2, q3, q4, -, -, -, hL, -, hst⟩ := ldcCH S hx hZ (ho vm0 hZ) w1 wS eT hS (by rw [eT] at hk; exact hk) hEL hmem hC ht hz hvl (g := mkF m pc ls st) rfl (hb hby hd) hn hbig hc hl
  obtain ⟨s₂, o, h1, r⟩ := hr h' a b k E q1 q2 q3 q4 T' (ext_trans X E) ⟨T'.vm, k1, locs, S', hS', by rw [e']; exact hk', hZ', hF, e', hL⟩
  exact ⟨s₂, o, hst _ h1, r⟩
theorem r_ldcAgain (ok : Ok Z K EL own code maxL ret nm R l w Q) (hp : pc + 2 = pc') {idx : Nat} {text : String} {a : Addr} (hd : decode code pc = .ok (.ldc idx, 2)) (w1 : (Jvm.Cond.stringLink own idx text).before a0 Z = true) (hph : ∀ s v, ph s v → Lit (s.setVm v) own idx a) (hr : Run Z K ph h n1 n2 pc' ls (.ref a :: st)) : Run Z K ph h n1 n2 pc ls st := by
  subst hp
  obtain ⟨p, l1, e, R1, s, m, args, below, meth, c, w1', Q1⟩ := K
  obtain ⟨hx, hby, hml, ho, hret, hlk, hnm, rfl, rfl, rfl, rfl, hCH⟩ := ok
  intro T X W
  obtain ⟨s₂, o, h1, r⟩ := hr T X W
  obtain ⟨vm0, k0, locs, S, hS, hk, hZ, hF, eT, hw⟩ := W
  exact ⟨s₂, o, ldcAgain S hx hZ (ho vm0 hZ) w1 (hph _ _ hw) (g := mkF m pc ls st) rfl (hb hby hd) _ h1, r⟩
/-- getClass through an interface; a Class constant -/
theorem r_getClassI {a mr : Addr} {C : String} {xi : MethodName} {idx count : Nat} (ok : Ok Z K EL own code maxL ret nm R l w Q) (hp : pc + 5 = pc') (hd : decode code pc = .ok (.invokeinterface idx count, 5)) (w1 : (Jvm.Cond.methodLink own idx xi).before a0 Z = true) (w2 : (Jvm.Cond.declares Jvm.Stand.gcN).before a0 Z = true) (w3 : (Jvm.Cond.interfaceMethod xi.cls "java/lang/Object" xi.name xi.desc).before a0 Z = true) (w4 : (Jvm.Cond.selects C xi Jvm.Stand.gcN).before a0 Z = true) (w5 : (Jvm.Cond.instanceMethod Jvm.Stand.gcN).before a0 Z = true) (w6 : (Jvm.Cond.publicMethod Jvm.Stand.gcN).before a0 Z = true) (w7 : (Jvm.Cond.unhidden C xi.name xi.desc).before a0 Z = true) (w8 : (Jvm.Cond.castable C xi.cls).before a0 Z = true) (w9 : (Jvm.Cond.native Jvm.Stand.gcN).before a0 Z = true) (hx1 : xi.cls ≠ "java/lang/invoke/MethodHandle" ∧ xi.cls ≠ "java/lang/invoke/VarHandle") (hx2 : xi.cls ≠ "java/lang/Object") (hx3 : xi.name = "getClass") (hx4 : xi.desc = "()Ljava/lang/Class;") (E : Exa Z h a C) (M : Mir Z C mr) (hls : ls.size = maxL) (hf : 1 ≤ R.frames) (hl : (st.map fun v => v.category).sum + (nativeFrameWords "java/lang/Object" "getClass" 1 + 11) ≤ R.locals) (hr : Run Z K ph h n1 n2 pc' ls (.ref mr :: st)) : Run Z K ph h n1 n2 pc ls (.ref a :: st) := by
  subst hp
  refine rT ok hr fun p e s m args below meth c T locs X hx hby hml hZ ho eT => ?_
  obtain ⟨cB, kB, i1, i2, i3⟩ := isOf hZ eT E
  obtain ⟨cc, kc, m1, m2, m3, -⟩ := M
  obtain ⟨k', q, ek⟩ := hZ.alike.2.2 _ _ m2
  have i1' := i1
  rw [hZ.alike.findClass] at i1'
  cases i1'.symm.trans m1
  obtain ⟨vm', X', st'⟩ := X.getClassOfI hx ho (mvT hZ w1) (mvT hZ w2) (Jvm.Free.ULB.iface_rides hZ.alike w3) (mvT hZ w4) (mvT hZ w5) (mvT hZ w6) (mvT hZ w7) (mvT hZ w8) (mvT hZ w9) hx1 hx2 hx3 hx4 i1 q i3 (mir := mr) (by rw [ek]; exact m3) (g := mkF m pc ls (.ref a :: st)) rfl (by rw [hml]; exact hls) rfl (hb hby hd) hf (by show 2 * 0 + _ + _ ≤ _; omega)
  exact ⟨_, X', eT, st'⟩
theorem r_ldcMir {mr : Addr} {C : String} {idx : Nat} (ok : Ok Z K EL own code maxL ret nm R l w Q) (hp : pc + 2 = pc') (hd : decode code pc = .ok (.ldc idx, 2)) (w1 : (Jvm.Cond.classLink own idx C).before a0 Z = true) (M : Mir Z C mr) (hr : Run Z K ph h n1 n2 pc' ls (.ref mr :: st)) : Run Z K ph h n1 n2 pc ls st := by
  subst hp
  refine rT ok hr fun p e s m args below meth c T locs X hx hby hml hZ ho eT => ?_
  obtain ⟨cc, kc, m1, m2, m3, -⟩ := M
  obtain ⟨k', q, ek⟩ := hZ.alike.2.2 _ _ m2
  have hev : (Term.mirror C).eval args s none [] s = some (.ref mr) := by
    have f1 : s.vm.findClass C = some cc := by rw [hZ.alike.findClass]; exact m1
    have f2 : k'.mirror = some mr := by rw [ek]; exact m3
    simp [Term.eval, f1, q, f2]
  obtain ⟨vm', X', st'⟩ := X.ldcMirror hx ho (mvT hZ w1) hev (g := mkF m pc ls st) rfl (hb hby hd)
  exact ⟨_, X', eT, st'⟩
theorem r_ph {ph' : Ph} (q : ∀ s v, ph s v → ph' s v) (hr : Run Z K ph' h n1 n2 pc ls st) : Run Z K ph h n1 n2 pc ls st := by
  obtain ⟨p, l1, e, R1, s, m, args, below, meth, c, w1', Q1⟩ := K
  intro T X W
  obtain ⟨vm0, k0, locs, S, hS, hk, hZ, hF, eT, hw⟩ := W
  exact hr T X ⟨vm0, k0, locs, S, hS, hk, hZ, hF, eT, q _ _ hw⟩

/-! small numbers as ints -/
theorem ofN_toInt {n : Nat} (h : n < 2 ^ 31) : (Int32.ofNat n).toInt = (n : Int) := Int32.toInt_ofNat_of_lt h
theorem ofN_lt {i n : Nat} (hi : i < 2 ^ 31) (hn : n < 2 ^ 31) : Int32.ofNat i < Int32.ofNat n ↔ i < n := by
  rw [Int32.lt_iff_toInt_lt, ofN_toInt hi, ofN_toInt hn]; omega
theorem ofN_nn {n : Nat} (h : n < 2 ^ 31) : ¬ Int32.ofNat n < 0 := by
  rw [Int32.lt_iff_toInt_lt, ofN_toInt h]; show ¬ (n : Int) < 0; omega
theorem ofN_inj {i n : Nat} (hi : i < 2 ^ 31) (hn : n < 2 ^ 31) (e : Int32.ofNat i = Int32.ofNat n) : i = n := by
  have := congrArg Int32.toInt e
  rw [ofN_toInt hi, ofN_toInt hn] at this; omega
theorem ofN_nat {n : Nat} (h : n < 2 ^ 31) : (Int32.ofNat n).toNatClampNeg = n := by
  show (Int32.ofNat n).toInt.toNat = n
  rw [ofN_toInt h]; rfl
theorem ofN_eq {x : Int32} {n : Nat} (hn : n < 2 ^ 31) (e : x.toInt = (n : Int)) : x = Int32.ofNat n := by
  apply Int32.toInt_inj.mp; rw [e, ofN_toInt hn]
theorem ofN_add {i n : Nat} (h : i + n < 2 ^ 31) : Int32.ofNat i + Int32.ofNat n = Int32.ofNat (i + n) := by
  apply ofN_eq h
  have := c_iadd (Int32.ofNat i) (Int32.ofNat n)
  have r := rng32 (Int32.ofNat i + Int32.ofNat n)
  rw [ofN_toInt (by omega), ofN_toInt (by omega)] at this
  omega

section Ifaces
variable {y : MethodName} {idx : Nat} {ps : List FieldType} {rty : Option FieldType} {w' : Bool} {EL' : Els} {W k n : Nat} {as : Array Value} {Q' : Option Value → Heap → Prop} {argsL rest : List Value}
theorem r_iface {a : Addr} {C : String} {z : MethodName} {count : Nat} (ok : Ok Z K EL own code maxL ret nm R l w Q) (hp : pc + 5 = pc') (hd : decode code pc = .ok (.invokeinterface idx count, 5)) (w1 : (Jvm.Cond.methodLink own idx y).before a0 Z = true) (w2 : (Jvm.Cond.declares y).before a0 Z = true) (w3 : (Jvm.Cond.interfaceMethod y.cls y.cls y.name y.desc).before a0 Z = true) (w4 : (Jvm.Cond.selects C y z).before a0 Z = true) (w5 : (Jvm.Cond.instanceMethod z).before a0 Z = true) (w6 : (Jvm.Cond.publicMethod z).before a0 Z = true) (w7 : (Jvm.Cond.unhidden C y.name y.desc).before a0 Z = true) (w8 : (Jvm.Cond.castable C y.cls).before a0 Z = true) (E : Exa Z h a C)
    (hy : y.cls ≠ "java/lang/invoke/MethodHandle" ∧ y.cls ≠ "java/lang/invoke/VarHandle") (pd : parseMethodDescriptor y.desc = some ⟨ps, rty⟩) (pay : Pay Z EL' w' l R z 5 W as h k n Q') (hww : w' = true → w = true) (hEL : EL' = [] ∨ EL' = EL ∧ ∀ s v, ph s v → v = s.vm) (hls : ls.size = maxL) (has : (.ref a :: argsL).toArray = as) (hst : st = argsL.reverse ++ .ref a :: rest) (hlen : argsL.length = ps.length) (hW : (rest.map fun v => v.category).sum ≤ W) (hc : n1 + k ≤ R.cells) (hn : n2 + n ≤ R.slots)
    (hr : ∀ v h', Q' v h' → h.size ≤ h'.size → Run Z K (PhA w' ph) h' (n1 + k) (n2 + n) pc' ls (v.toList ++ rest)) : Run Z K ph h n1 n2 pc ls st := by
  subst hp has
  refine rCall ok (w' := w') (as := (.ref a :: argsL).toArray) hww hEL (fun hw0 p e s m args below meth c T locs S hx hby hml hZ ho eT hC X => ?_) (fun hw0 p e s m args below meth c T locs S hx hby hml hZ ho eT hC X => ?_) hr
  · subst hw0
    obtain ⟨cq, kq, qa, qb, qc⟩ := isOf hZ eT E
    obtain ⟨v, vm₁, B, -, S', hQ, hst'⟩ := S.interfaceBack hx ho (mvT hZ w1) (mvT hZ w2) (Jvm.Free.ULB.iface_rides hZ.alike w3) (mvT hZ w4) (mvT hZ w5) (mvT hZ w6) (mvT hZ w7) (mvT hZ w8) hy (pay p e below s args hZ hC X) qa qb qc (g := mkF m pc ls st) rfl (by rw [hml]; exact hls) (Steps.refl _) (argsL := argsL) (rest := rest) (lenOf pd hlen) hst (by show 2 * 0 + _ ≤ _; omega) (hb hby hd) (fun _ _ => ⟨rfl, eT, hc, hn⟩)
    exact ⟨v, vm₁, B, S', hQ, fun t ht => hst'.trans ht⟩
  · subst hw0
    obtain ⟨cq, kq, qa, qb, qc⟩ := isOf hZ eT E
    obtain ⟨v, vm₁, B, -, S', hS, -, hQ, hst'⟩ := S.interfaceBackS hx ho (mvT hZ w1) (mvT hZ w2) (Jvm.Free.ULB.iface_rides hZ.alike w3) (mvT hZ w4) (mvT hZ w5) (mvT hZ w6) (mvT hZ w7) (mvT hZ w8) hy (pay p e below s args hZ hC X) qa qb qc (g := mkF m pc ls st) rfl (by rw [hml]; exact hls) (Steps.refl _) (argsL := argsL) (rest := rest) (lenOf pd hlen) hst (by show 2 * 0 + _ ≤ _; omega) (hb hby hd) (fun _ _ => ⟨rfl, eT, hc, hn⟩)
    exact ⟨v, vm₁, B, S', hS, hQ, fun t ht => hst'.trans ht⟩
theorem r_private {a : Addr} {C : String} {bytes : ByteArray} {mL : Nat} {rt : Option FieldType} (ok : Ok Z K EL own code maxL ret nm R l w Q) (hp : pc + 3 = pc') (hd : decode code pc = .ok (.invokevirtual idx, 3)) (w1 : (Jvm.Cond.methodLink own idx y).before a0 Z = true) (w2 : (Jvm.Cond.instanceMethod y).before a0 Z = true) (w3 : (Jvm.Cond.selects y.cls y y).before a0 Z = true) (w4 : (Jvm.Cond.privateMethod y).before a0 Z = true) (w5 : (Jvm.Cond.code y bytes mL rt).before a0 Z = true) (E : Exa Z h a C)
    (hy : y.cls ≠ "java/lang/invoke/MethodHandle" ∧ y.cls ≠ "java/lang/invoke/VarHandle") (pd : parseMethodDescriptor y.desc = some ⟨ps, rty⟩) (pay : Pay Z EL' w' l R y 3 W as h k n Q') (hww : w' = true → w = true) (hEL : EL' = [] ∨ EL' = EL ∧ ∀ s v, ph s v → v = s.vm) (hls : ls.size = maxL) (has : (.ref a :: argsL).toArray = as) (hst : st = argsL.reverse ++ .ref a :: rest) (hlen : argsL.length = ps.length) (hW : (rest.map fun v => v.category).sum ≤ W) (hc : n1 + k ≤ R.cells) (hn : n2 + n ≤ R.slots)
    (hr : ∀ v h', Q' v h' → h.size ≤ h'.size → Run Z K (PhA w' ph) h' (n1 + k) (n2 + n) pc' ls (v.toList ++ rest)) : Run Z K ph h n1 n2 pc ls st := by
  subst hp has
  refine rCall ok (w' := w') (as := (.ref a :: argsL).toArray) hww hEL (fun hw0 p e s m args below meth c T locs S hx hby hml hZ ho eT hC X => ?_) (fun hw0 p e s m args below meth c T locs S hx hby hml hZ ho eT hC X => ?_) hr
  · subst hw0
    obtain ⟨cq, kq, qa, qb, cell, hcell, hcls, hstat⟩ := isOf hZ eT E
    obtain ⟨v, vm₁, B, -, S', hQ, hst'⟩ := S.privateBack hx ho (mvT hZ w1) (mvT hZ w2) (mvT hZ w3) (Cond.privateMethod_at (mvP (args := args) hZ w4)) (mvT hZ w5) hy (pay p e below s args hZ hC X) (g := mkF m pc ls st) rfl (by rw [hml]; exact hls) (Steps.refl _) hcell (fun z h => by rw [h] at hstat; cases hstat) (argsL := argsL) (rest := rest) (lenOf pd hlen) hst (by show 2 * 0 + _ ≤ _; omega) (hb hby hd) (fun _ _ => ⟨rfl, eT, hc, hn⟩)
    exact ⟨v, vm₁, B, S', hQ, fun t ht => hst'.trans ht⟩
  · subst hw0
    obtain ⟨cq, kq, qa, qb, cell, hcell, hcls, hstat⟩ := isOf hZ eT E
    obtain ⟨v, vm₁, B, -, S', hS, -, hQ, hst'⟩ := S.privateBackS hx ho (mvT hZ w1) (mvT hZ w2) (mvT hZ w3) (Cond.privateMethod_at (mvP (args := args) hZ w4)) (mvT hZ w5) hy (pay p e below s args hZ hC X) (g := mkF m pc ls st) rfl (by rw [hml]; exact hls) (Steps.refl _) hcell (fun z h => by rw [h] at hstat; cases hstat) (argsL := argsL) (rest := rest) (lenOf pd hlen) hst (by show 2 * 0 + _ ≤ _; omega) (hb hby hd) (fun _ _ => ⟨rfl, eT, hc, hn⟩)
    exact ⟨v, vm₁, B, S', hS, hQ, fun t ht => hst'.trans ht⟩
theorem r_virtualUp {a : Addr} {C owner : String} {z : MethodName} (ok : Ok Z K EL own code maxL ret nm R l w Q) (hp : pc + 3 = pc') (hd : decode code pc = .ok (.invokevirtual idx, 3)) (w1 : (Jvm.Cond.methodLink own idx y).before a0 Z = true) (w2 : (Jvm.Cond.sameMethod y.cls owner y.name y.desc).before a0 Z = true) (w3 : (Jvm.Cond.declares ⟨owner, y.name, y.desc⟩).before a0 Z = true) (w4 : (Jvm.Cond.selects C y z).before a0 Z = true) (w5 : (Jvm.Cond.instanceMethod z).before a0 Z = true) (E : Exa Z h a C)
    (hy : owner ≠ "java/lang/invoke/MethodHandle" ∧ owner ≠ "java/lang/invoke/VarHandle") (pd : parseMethodDescriptor y.desc = some ⟨ps, rty⟩) (pay : Pay Z EL' w' l R z 3 W as h k n Q') (hww : w' = true → w = true) (hEL : EL' = [] ∨ EL' = EL ∧ ∀ s v, ph s v → v = s.vm) (hls : ls.size = maxL) (has : (.ref a :: argsL).toArray = as) (hst : st = argsL.reverse ++ .ref a :: rest) (hlen : argsL.length = ps.length) (hW : (rest.map fun v => v.category).sum ≤ W) (hc : n1 + k ≤ R.cells) (hn : n2 + n ≤ R.slots)
    (hr : ∀ v h', Q' v h' → h.size ≤ h'.size → Run Z K (PhA w' ph) h' (n1 + k) (n2 + n) pc' ls (v.toList ++ rest)) : Run Z K ph h n1 n2 pc ls st := by
  subst hp has
  refine rCall ok (w' := w') (as := (.ref a :: argsL).toArray) hww hEL (fun hw0 p e s m args below meth c T locs S hx hby hml hZ ho eT hC X => ?_) (fun hw0 p e s m args below meth c T locs S hx hby hml hZ ho eT hC X => ?_) hr
  · subst hw0
    obtain ⟨cq, kq, qa, qb, qc⟩ := isOf hZ eT E
    obtain ⟨v, vm₁, B, -, S', hQ, hst'⟩ := S.virtualBackUp hx ho (mvT hZ w1) (mvT hZ w2) (mvT hZ w3) hy (mvT hZ w4) (mvT hZ w5) (pay p e below s args hZ hC X) qa qc (g := mkF m pc ls st) rfl (by rw [hml]; exact hls) (Steps.refl _) (argsL := argsL) (rest := rest) (lenOf pd hlen) hst (by show 2 * 0 + _ ≤ _; omega) (hb hby hd) (fun _ _ => ⟨rfl, eT, hc, hn⟩)
    exact ⟨v, vm₁, B, S', hQ, fun t ht => hst'.trans ht⟩
  · subst hw0
    obtain ⟨cq, kq, qa, qb, qc⟩ := isOf hZ eT E
    obtain ⟨v, vm₁, B, -, S', hS, -, hQ, hst'⟩ := S.virtualBackUpS hx ho (mvT hZ w1) (mvT hZ w2) (mvT hZ w3) hy (mvT hZ w4) (mvT hZ w5) (pay p e below s args hZ hC X) qa qc (g := mkF m pc ls st) rfl (by rw [hml]; exact hls) (Steps.refl _) (argsL := argsL) (rest := rest) (lenOf pd hlen) hst (by show 2 * 0 + _ ≤ _; omega) (hb hby hd) (fun _ _ => ⟨rfl, eT, hc, hn⟩)
    exact ⟨v, vm₁, B, S', hS, hQ, fun t ht => hst'.trans ht⟩
theorem r_tsw (ok : Ok Z K EL own code maxL ret nm R l w Q) {dflt low high : Int} {offs : Array Int} {len : Nat} {o : Int} {i : Int32} (hd : decode code pc = .ok (.tableswitch dflt low high offs, len)) (hin : ¬ (i.toInt < low ∨ i.toInt > high)) (hoff : offs[(i.toInt - low).toNat]? = some o) (ho : 0 ≤ (pc : Int) + o) (hp : ((pc : Int) + o).toNat = pc') (hr : Run Z K ph h n1 n2 pc' ls st) : Run Z K ph h n1 n2 pc ls (.int i :: st) :=
  rS ok hr fun p e below m c T A hx hby t => XS.tswIn (g := mkF m pc ls (.int i :: st)) A hx rfl rfl (hb hby hd) rfl hin hoff ho hp
theorem r_ldcF (ok : Ok Z K EL own code maxL ret nm R l w Q) (hp : pc + 2 = pc') {idx : Nat} {b : UInt32} (hd : decode code pc = .ok (.ldc idx, 2)) (w1 : (Jvm.Cond.constantFloat own idx b).before a0 Z = true) (hr : Run Z K ph h n1 n2 pc' ls (.float b :: st)) : Run Z K ph h n1 n2 pc ls st := by
  subst hp; exact rX ok hr fun p e s m args below meth c T locs X hx hby hZ ho eT t => X.ldcFloatC hx ho (mv hZ w1) (g := mkF m pc ls st) rfl (hb hby hd) t
theorem rHL (ok : Ok Z K EL own code maxL ret nm R l w Q) {P : Heap → Prop} {m1 m2 : Nat}
    (f : ∀ (p : Program) (e : Env) (s : State) (m : MethodId) (args : Array Value) (below : List Frame) (meth : Method) (c : Code) (T : State) (locs : List Loc), Stand p l e R s m args below meth c T locs n1 n2 → p.tables.exec = Jvm.exec → c.code = code → c.maxLocals = maxL → Z.Warmed39 s.vm → s.vm.findClass own = some m.cls → meth.name = nm → T.heap = h → Ext Z.heap h → Fr Z.heap.size locs →
      ∃ T' h' L, Stand p l e R s m args below meth c T' L m1 m2 ∧ T'.heap = h' ∧ Fr Z.heap.size L ∧ h.size ≤ h'.size ∧ Ext Z.heap h' ∧ P h' ∧ ∀ t, Steps p.tables e below (T'.setTop (mkF m pc' ls' st')) t → Steps p.tables e below (T.setTop (mkF m pc ls st)) t)
    (hr : ∀ h', P h' → Run Z K ph h' m1 m2 pc' ls' st') : Run Z K ph h n1 n2 pc ls st := by
  obtain ⟨p, l1, e, R1, s, m, args, below, meth, c, w1, Q1⟩ := K
  obtain ⟨hx, hby, hml, ho, hret, hlk, hnm, rfl, rfl, rfl, rfl, hCH⟩ := ok
  intro T X W
  obtain ⟨vm0, k0, locs, S, hS, hk, hZ, hF, eT, hw⟩ := W
  obtain ⟨T', h', L, S', eT', hL, hle, hX', hP, hst⟩ := f p e (s.setVm vm0) m args below meth c T locs S hx hby hml hZ (ho vm0 hZ) hnm eT X hF
  obtain ⟨s₂, o, h1, r⟩ := hr h' hP T' (by rw [← eT']; rw [eT']; exact hX') ⟨vm0, k0, L, S', hS, by rw [eT']; rw [eT] at hk; exact Nat.le_trans hk hle, hZ, hL, eT', hw⟩
  exact ⟨s₂, o, hst _ h1, r⟩
theorem r_copy {a b : Addr} {k k' : ClassId} {ty ty' : FieldType} {z z' sp dp nn : Int32} {vs vd us : List Value} {dv dd : Value} {idx : Nat} (ok : Ok Z K EL own code maxL ret nm R l w Q) (hp : pc + 3 = pc') (hd : decode code pc = .ok (.invokestatic idx, 3)) (w1 : (Jvm.Cond.methodLink own idx Jvm.Stand.acN).before a0 Z = true) (w2 : (Jvm.Cond.native Jvm.Stand.acN).before a0 Z = true) (w3 : (Jvm.Cond.static Jvm.Stand.acN).before a0 Z = true) (w4 : (Jvm.Cond.initialized "java/lang/System").before a0 Z = true)
    (A : Arv Z h a k ty z vs dv) (B : Arv Z h b k' ty' z' vd dd) (hty : (ty = ty' ∧ refKind ty = false) ∨ (refKind ty = true ∧ refKind ty' = true ∧ StoL Z h b us)) (h1 : ¬ sp < 0) (h2 : ¬ dp < 0) (h3 : ¬ nn < 0) (h4 : sp.toNatClampNeg + nn.toNatClampNeg ≤ z.toNatClampNeg) (h5 : dp.toNatClampNeg + nn.toNatClampNeg ≤ z'.toNatClampNeg)
    (hus : us = (List.range nn.toNatClampNeg).map fun i => vs.getD (sp.toNatClampNeg + i) dv) (hl : dp.toNatClampNeg + nn.toNatClampNeg ≤ vd.length) (ge : Z.heap.size ≤ b) (hls : ls.size = maxL) (hf : 1 ≤ R.frames) (hlo : (st.map fun v => v.category).sum + (nativeFrameWords "java/lang/System" "arraycopy" 5 + 11) ≤ R.locals)
    (hr : ∀ h', Keep h h' [b] → Arv Z h' b k' ty' z' (vd.take dp.toNatClampNeg ++ us ++ vd.drop (dp.toNatClampNeg + nn.toNatClampNeg)) dd → Run Z K ph h' n1 n2 pc' ls st) : Run Z K ph h n1 n2 pc ls (.int nn :: .int dp :: .ref b :: .int sp :: .ref a :: st) := by
  subst hp
  refine rHL ok (P := fun h' => Keep h h' [b] ∧ Arv Z h' b k' ty' z' (vd.take dp.toNatClampNeg ++ us ++ vd.drop (dp.toNatClampNeg + nn.toNatClampNeg)) dd) (m1 := n1) (m2 := n2) (fun p e s m args below meth c T locs X hx hby hml hZ ho hnm eT X0 hF => ?_) (fun h' q => hr h' q.1 q.2)
  obtain ⟨T', h', L, X', e', hL, hK, hA, hst⟩ := cpA X hx hZ ho w1 w2 w3 w4 eT A B hty h1 h2 h3 h4 h5 hus hl hF ge (g := mkF m pc ls (.int nn :: .int dp :: .ref b :: .int sp :: .ref a :: st)) rfl (by rw [hml]; exact hls) rfl (hb hby hd) hf (W := (st.map fun v => v.category).sum) (by show 2 * 0 + _ ≤ _; omega) hlo
  exact ⟨T', h', L, X', e', hL, hK.1, ext_keep X0 hK (fun y hy => by cases List.mem_singleton.mp hy; exact ge), ⟨hK, hA⟩, hst⟩
theorem r_anewarrayE (ok : Ok Z K EL own code maxL ret nm R l w Q) (hp : pc + 3 = pc') {C : String} {idx : Nat} {n : Int32} (cap : Nat) (ad : String) (had : "[" ++ (FieldType.object C).toString = ad) (hd : decode code pc = .ok (.anewarray idx, 3)) (w1 : (Jvm.Cond.classLink own idx C).before a0 Z = true) (w2 : (Jvm.Cond.arrayOver (.object C)).before a0 Z = true) (hn0 : ¬ n < 0) (hcap : n.toNatClampNeg ≤ cap) (hbg : cap * 8 ≤ 536870912) (hc : n1 + 1 ≤ R.cells) (hn : n2 + cap ≤ R.slots)
    (hr : ∀ h' a kA, a = h.size → Z.heap.size ≤ a → Ext h h' → Ovr Z kA C → Arv Z h' a kA (.object C) n [] .null → Exa Z h' a ad → Run Z K ph h' (n1 + 1) (n2 + cap) pc' ls (.ref a :: st)) : Run Z K ph h n1 n2 pc ls (.int n :: st) := by
  subst hp
  refine r_old fun X0 => ?_
  refine rH ok (P := fun h' => Ext h h' ∧ ∃ kA, Ovr Z kA C ∧ Arv Z h' h.size kA (.object C) n [] .null ∧ Exa Z h' h.size ad) (m1 := n1 + 1) (m2 := n2 + cap) (fun p e s m args below meth c T locs X hx hby hml hZ ho hnm eT X0 => ?_) (fun h' q => by obtain ⟨q1, kA, q2, q3, q4⟩ := q; exact hr h' _ kA rfl X0.1 q1 q2 q3 q4)
  obtain ⟨T', h', kA, X', e', E, A, Ex, O, st'⟩ := newRE X hx hZ ho w1 w2 eT (g := mkF m pc ls (.int n :: st)) rfl (hb hby hd) rfl hn0 (cap := cap) hcap hbg hc hn had
  exact ⟨T', h', [], by rw [List.append_nil]; exact X', e', Fr.nil _, E.1, ext_trans X0 E, ⟨E, kA, O, Arv.new A hn0, Ex⟩, st'⟩
theorem r_getClass {a mr : Addr} {C : String} {idx : Nat} (ok : Ok Z K EL own code maxL ret nm R l w Q) (hp : pc + 3 = pc') (hd : decode code pc = .ok (.invokevirtual idx, 3)) (w1 : (Jvm.Cond.methodLink own idx Jvm.Stand.gcN).before a0 Z = true) (w2 : (Jvm.Cond.declares Jvm.Stand.gcN).before a0 Z = true) (w3 : (Jvm.Cond.selects C Jvm.Stand.gcN Jvm.Stand.gcN).before a0 Z = true) (w4 : (Jvm.Cond.instanceMethod Jvm.Stand.gcN).before a0 Z = true) (w5 : (Jvm.Cond.native Jvm.Stand.gcN).before a0 Z = true) (E : Exa Z h a C) (M : Mir Z C mr) (hls : ls.size = maxL) (hf : 1 ≤ R.frames) (hl : (st.map fun v => v.category).sum + (nativeFrameWords "java/lang/Object" "getClass" 1 + 11) ≤ R.locals) (hr : Run Z K ph h n1 n2 pc' ls (.ref mr :: st)) : Run Z K ph h n1 n2 pc ls (.ref a :: st) := by
  subst hp
  refine rT ok hr fun p e s m args below meth c T locs X hx hby hml hZ ho eT => ?_
  obtain ⟨cB, kB, i1, i2, i3⟩ := isOf hZ eT E
  obtain ⟨cc, kc, m1, m2, m3, -⟩ := M
  obtain ⟨k', q, ek⟩ := hZ.alike.2.2 _ _ m2
  have i1' := i1
  rw [hZ.alike.findClass] at i1'
  cases i1'.symm.trans m1
  obtain ⟨vm', X', st'⟩ := X.getClassOf hx ho (mvT hZ w1) (mvT hZ w2) (nf_sel (C := C) (z := Jvm.Stand.gcN) w3 s hZ) (mvT hZ w3) (mvT hZ w4) (mvT hZ w5) i1 i3 q (mir := mr) (by rw [ek]; exact m3) (g := mkF m pc ls (.ref a :: st)) rfl (by rw [hml]; exact hls) rfl (hb hby hd) hf (by show 2 * 0 + _ + _ ≤ _; omega)
  exact ⟨_, X', eT, st'⟩
end Ifaces

/-! function objects that the rule has made (over the kit's LamKit) -/
theorem w39_entries {vm : Vm} (hZ : Z.Warmed39 vm) {d : ClassId} {k : Class} (hk : Z.vm.classes[d]? = some k) : ∃ k' : Class, vm.classes[d]? = some k' ∧ k'.cf = k.cf ∧ ∀ (i : Nat) (r : Resolved), k.resolved[i]? = some (some r) → k'.resolved[i]? = some (some r) := by
  obtain ⟨k', h1, h2, -, h3, -⟩ := hZ.2.2.2 d k hk
  refine ⟨k', h1, by rw [h2], fun i r hr => ?_⟩
  rcases h3 i with q | ⟨q, -⟩
  · rw [q]; exact hr
  · rw [hr] at q; cases q
theorem w39_named {s : State} (hZ : Z.Warmed39 s.vm) {y : MethodName} {m : MethodId} (hn : Z.methodNamed? y = some m) : s.methodNamed? y = some m := by
  have q : (Z.setVm s.vm).methodNamed? y = some m := by rw [State.methodNamed?_setVm hZ.alike]; exact hn
  exact q
theorem w39_named' {s : State} (hZ : Z.Warmed39 s.vm) {y : MethodName} {m : MethodId} (hn : s.methodNamed? y = some m) : Z.methodNamed? y = some m := by
  have q : (Z.setVm s.vm).methodNamed? y = some m := hn
  rw [State.methodNamed?_setVm hZ.alike] at q
  exact q
theorem fnX_39 {s : State} {xi : MethodName} {cK : ClassId} {mk : MethodId} (hZ : Z.Warmed39 s.vm) (F : Jvm.Free.HMW.FnX xi cK mk Z) : Jvm.Free.HMW.FnX xi cK mk s := by
  have hA := hZ.alike
  obtain ⟨kF, methK, h1, h2, h3, h4, h5⟩ := F
  obtain ⟨k', hk', -⟩ := hA.2.2 _ _ h1
  refine ⟨k', methK, hk', by rw [hA.method?]; exact h2, h3, h4, fun r0 r hn hr => ?_⟩
  rw [hA.method?] at hr
  obtain ⟨q1, q2, q3⟩ := h5 r0 r (w39_named' hZ hn) hr
  exact ⟨by rw [hA.assignable]; exact q1, by rw [hA.selectMethod]; exact q2, by simp only [hA.superclasses, hA.declaredIn]; exact q3⟩
/-- the made class's entry idx names the method y, its entry ci y's class -/
def entOK (σ : Jvm.Lambda.Shape) (host : String) (idx ci : Nat) (y : MethodName) : Bool :=
  match σ.file host with
  | none => false
  | some D =>
    match D.constantPool[idx]?, D.constantPool[ci]? with
    | some (.methodref ci' nt), some (.class_ n) => decide (ci' = ci) && decide (D.constantPool.className? ci = some y.cls) && decide (D.constantPool.nameAndType? nt = some (y.name, y.desc)) && decide (D.constantPool.string? n = some y.cls) && decide (ci ≠ D.thisClass)
    | _, _ => false
def clsOK (σ : Jvm.Lambda.Shape) (host : String) (ci : Nat) (C : String) : Bool :=
  match σ.file host with
  | none => false
  | some D =>
    match D.constantPool[ci]? with
    | some (.class_ n) => decide (D.constantPool.string? n = some C) && decide (ci ≠ D.thisClass)
    | _ => false
theorem made_ent {host : String} {σ : Jvm.Lambda.Shape} {cK : ClassId} {idx ci : Nat} {y : MethodName} {t : MethodId} (hM : Jvm.LamKit.Made Z host σ cK) (hok : entOK σ host idx ci y = true) (hn : Z.methodNamed? y = some t) (hy : y.cls ≠ "java/lang/invoke/MethodHandle" ∧ y.cls ≠ "java/lang/invoke/VarHandle") :
    ∃ (k : Class) (file : ClassFile) (nt : Nat), Z.vm.classes[cK]? = some k ∧ k.cf = some file ∧ file.constantPool[idx]? = some (.methodref ci nt) ∧ file.constantPool.nameAndType? nt = some (y.name, y.desc) ∧ k.resolved[idx]? = some (some (.method t)) ∧ k.resolved[ci]? = some (some (.cls t.cls)) := by
  obtain ⟨d, dk, hd, hname, h, -⟩ := hM
  obtain ⟨dk', k, ok, tk, file, cf, object, iface, toy, lay, methods, target, found, hd', hk, hfile, hcf, -, -, -, -, hms, ht, htk, hg, -, hrec, -, -, -, -, hpool, hmeth, -, -, hres, -⟩ := Jvm.Lambda.isMade_spec h
  cases hd.symm.trans hd'
  rw [hname] at hcf
  unfold entOK at hok
  rw [hcf] at hok
  dsimp only at hok
  split at hok
  · rename_i ci' nt n hidx hci
    simp only [Bool.and_eq_true, decide_eq_true_eq] at hok
    obtain ⟨⟨⟨⟨rfl, hcn⟩, hnt⟩, hs⟩, hne⟩ := hok
    have hf : Z.vm.findClass y.cls = some t.cls := findClass_of_methodNamed hn
    obtain ⟨kT, hkT, -⟩ := className_of_methodNamed hn
    have hfound : ((methodIn t.cls y.name y.desc kT.isInterface none).ask { classPath := fun _ => none } Z.vm).1 = .ok t := by
      have h1 := State.methodFound?_of_named hn hy
      simp only [State.methodFound?, hf, hkT, Option.bind_eq_bind, Option.bind_some] at h1
      cases hq : ((methodIn t.cls y.name y.desc kT.isInterface none).ask { classPath := fun _ => none } Z.vm).1 with
      | error x => rw [hq] at h1; cases h1
      | ok t' => rw [hq] at h1; cases h1; rfl
    exact ⟨k, file, nt, hk, hfile, by rw [hpool.2.1]; exact hidx, by rw [hpool.2.1]; exact hnt, hres idx _ (Jvm.Lambda.resolvedOf_method hidx hcn hf hkT hnt hfound), hres ci' _ (Jvm.Lambda.resolvedOf_class hci hne hs hf)⟩
  · cases hok
theorem made_cls {host : String} {σ : Jvm.Lambda.Shape} {cK t : ClassId} {ci : Nat} {C : String} (hM : Jvm.LamKit.Made Z host σ cK) (hok : clsOK σ host ci C = true) (hf : Z.vm.findClass C = some t) : ∃ k : Class, Z.vm.classes[cK]? = some k ∧ k.resolved[ci]? = some (some (.cls t)) := by
  obtain ⟨d, dk, hd, hname, h, -⟩ := hM
  obtain ⟨dk', k, ok, tk, file, cf, object, iface, toy, lay, methods, target, found, hd', hk, hfile, hcf, -, -, -, -, hms, ht, htk, hg, -, hrec, -, -, -, -, hpool, hmeth, -, -, hres, -⟩ := Jvm.Lambda.isMade_spec h
  cases hd.symm.trans hd'
  rw [hname] at hcf
  unfold clsOK at hok
  rw [hcf] at hok
  dsimp only at hok
  split at hok
  · rename_i n hci
    simp only [Bool.and_eq_true, decide_eq_true_eq] at hok
    exact ⟨k, hk, hres ci _ (Jvm.Lambda.resolvedOf_class hci hok.2 hok.1 hf)⟩
  · cases hok
/-- the walk of a forwarder: what is known of its frame -/
def FOk (Z : State) (cK : ClassId) : Cx → ByteArray → Nat → Option FieldType → Room → Launch → (Option Value → Heap → Prop) → Prop
  | (p, l, e, R, s, m, args, below, meth, c, w, Q), code, maxL, ret, R0, l0, Q0 => p.tables.exec = Jvm.exec ∧ c.code = code ∧ c.maxLocals = maxL ∧ m = ⟨cK, 1⟩ ∧ meth.sig.returnType = ret ∧ meth.locks = false ∧ R = R0 ∧ l = l0 ∧ w = false ∧ Q = Q0
section Fwd
variable {cK : ClassId} {host : String} {σ : Jvm.Lambda.Shape}
theorem fX (ok : FOk Z cK K code maxL ret R l Q) (hr : Run Z K ph h n1 n2 pc' ls' st')
    (f : ∀ (p : Program) (e : Env) (s : State) (m : MethodId) (args : Array Value) (below : List Frame) (meth : Method) (c : Code) (T : State) (locs : List Loc), Stand p l e R s m args below meth c T locs n1 n2 → p.tables.exec = Jvm.exec → c.code = code → m = ⟨cK, 1⟩ → Z.Warmed39 T.vm → T.heap = h →
      ∀ t, Steps p.tables e below (T.setTop (mkF m pc' ls' st')) t → Steps p.tables e below (T.setTop (mkF m pc ls st)) t) : Run Z K ph h n1 n2 pc ls st := by
  obtain ⟨p, l1, e, R1, s, m, args, below, meth, c, w1, Q1⟩ := K
  obtain ⟨hx, hby, -, hm, -, -, rfl, rfl, -⟩ := ok
  intro T X W
  obtain ⟨s₂, o, h1, r⟩ := hr T X W
  obtain ⟨vm0, k0, locs, S, -, -, hZ, -, eT, -⟩ := W
  exact ⟨s₂, o, f p e (s.setVm vm0) m args below meth c T locs S hx hby hm (wtrans hZ S.warmed) eT _ h1, r⟩
theorem f_aloadN (ok : FOk Z cK K code maxL ret R l Q) (hp : pc + 1 = pc') {v : Value} {k : Fin 4} (hd : decode code pc = .ok (.aload_n k, 1)) (hl : ls[k.val]? = some (.val v)) (hv : v.isRef = true) (hr : Run Z K ph h n1 n2 pc' ls (v :: st)) : Run Z K ph h n1 n2 pc ls st := by
  subst hp; exact fX ok hr fun p e s m args below meth c T locs S hx hby hm hW eT t => XS.aloadN (g := mkF m pc ls st) S.here hx rfl (hb hby hd) hl hv
theorem f_cast {ci : Nat} {C : String} {a : Addr} (ok : FOk Z cK K code maxL ret R l Q) (hp : pc + 3 = pc') (hd : decode code pc = .ok (.checkcast ci, 3)) (hM : Jvm.LamKit.Made Z host σ cK) (hck : clsOK σ host ci C = true) (F : Ins Z h a C true) (hr : Run Z K ph h n1 n2 pc' ls (.ref a :: st)) : Run Z K ph h n1 n2 pc ls (.ref a :: st) := by
  subst hp
  obtain ⟨cell, cT, h1, h2, h3⟩ := F
  simp only [Bool.and_eq_true, Bool.not_eq_true'] at h3
  obtain ⟨k, hk, hres⟩ := made_cls hM hck h2
  refine fX ok hr fun p e s m args below meth c T locs S hx hby hm hW eT t ht => ?_
  subst hm
  have hA := hW.alike
  obtain ⟨k', hk', -, hres'⟩ := w39_entries hW hk
  obtain ⟨kt, hkt, -⟩ := Vm.findClass_spec h2
  obtain ⟨kt', hkt', -⟩ := hA.2.2 _ _ hkt
  have hasg : T.vm.assignable cell.cls cT = true := by rw [hA.assignable]; exact h3.2
  obtain ⟨ks', hks'⟩ := Vm.classAt_of_assignable hasg ⟨kt', hkt'⟩
  exact (S.checkcastR hx (g := mkF ⟨cK, 1⟩ pc ls (.ref a :: st)) rfl ⟨k', hk', hres' _ _ hres⟩ rfl (Or.inr ⟨a, cell, ks', kt', rfl, by rw [eT]; exact h1, VmData.noStatics_of h3.1, hks', hkt', hasg⟩) (hb hby hd) (Steps.refl _)).trans ht
theorem f_getcap {fi : Nat} {a : Addr} {cell : Cell} {v : Value} (ok : FOk Z cK K code maxL ret R l Q) (hp : pc + 3 = pc') (hd : decode code pc = .ok (.getfield fi, 3)) (hM : Jvm.LamKit.Made Z host σ cK) (hok : Jvm.LamKit.capOK σ host fi 0 = true) (wO : (Jvm.Cond.instantiable "java/lang/Object" 0).before a0 Z = true) (hcell : h[a]? = some cell) (hvm : cell.vm = .none) (hv : cell.slots[0]? = some v) (hr : Run Z K ph h n1 n2 pc' ls (v :: st)) : Run Z K ph h n1 n2 pc ls (.ref a :: st) := by
  subst hp
  obtain ⟨d, dk, hd0, hdn, hmade, -⟩ := hM
  obtain ⟨kc, f, -, -, -, ⟨k1, i1, k2, q1, q2, q3, q4⟩, hst0, hsl⟩ := Jvm.LamKit.made_cap hok hd0 hdn hmade (Jvm.LamKit.noFields wO (State.WarmedH.refl Z))
  refine fX ok hr fun p e s m args below meth c T locs S hx hby hm hW eT t ht => ?_
  subst hm
  obtain ⟨k', hk', -, hres'⟩ := w39_entries hW q1
  obtain ⟨k2', hk2', he2⟩ := hW.alike.2.2 _ _ q3
  exact (S.getfieldR hx (g := mkF ⟨cK, 1⟩ pc ls (.ref a :: st)) rfl ⟨k', i1, k2', hk', hres' _ _ q2, hk2', by rw [he2]; exact q4⟩ hst0 rfl (by rw [eT]; exact hcell) (by rw [hvm]; decide) (by rw [hsl]; exact hv) (hb hby hd) (Steps.refl _)).trans ht
theorem fCall (ok : FOk Z cK K code maxL ret R l Q) {k n : Nat} {rest : List Value} {Q' : Option Value → Heap → Prop}
    (f0 : ∀ (p : Program) (e : Env) (s : State) (m : MethodId) (args : Array Value) (below : List Frame) (meth : Method) (c : Code) (T : State) (locs : List Loc), Stand p l e R s m args below meth c T locs n1 n2 → p.tables.exec = Jvm.exec → c.code = code → c.maxLocals = maxL → m = ⟨cK, 1⟩ → Z.Warmed39 s.vm → Z.Warmed39 T.vm → T.heap = h → Ext Z.heap h →
      ∃ (v : Option Value) (B : Pt), Stand p l e R s m args below meth c B.U B.locs B.cells B.slots ∧ (∃ L, Pst Z h.size Q' v B.U.heap L ∧ B.locs = locs ++ L ∧ B.cells = n1 + k ∧ B.slots = n2 + n) ∧ Steps p.tables e below (T.setTop (mkF m pc ls st)) (B.U.setTop (mkF m pc' ls (v.toList ++ rest))))
    (hr : ∀ v h', Q' v h' → h.size ≤ h'.size → Run Z K ph h' (n1 + k) (n2 + n) pc' ls (v.toList ++ rest)) : Run Z K ph h n1 n2 pc ls st := by
  obtain ⟨p, l1, e, R1, s, m, args, below, meth, c, w1, Q1⟩ := K
  obtain ⟨hx, hby, hml, hm, hret, hlk, rfl, rfl, rfl, rfl⟩ := ok
  intro T X W
  obtain ⟨vm0, k0, locs, S, hS, hk, hZ, hF, eT, hw⟩ := W
  obtain ⟨v, ⟨U, Lq, c1, s1⟩, S', ⟨L, ⟨hq, hL, hX', hle⟩, e1, e2, e3⟩, hst⟩ := f0 p e (s.setVm vm0) m args below meth c T locs S hx hby hml hm hZ (wtrans hZ S.warmed) eT X
  dsimp only [Pt.U, Pt.locs, Pt.cells, Pt.slots] at S' hq hX' hle e1 e2 e3 hst
  subst e1 e2 e3
  obtain ⟨s₂, o, h1, r⟩ := hr v U.heap hq hle U hX' ⟨vm0, k0, _, S', hS, by rw [eT] at hk; exact Nat.le_trans hk hle, hZ, hF.app hL, rfl, hw⟩
  exact ⟨s₂, o, hst.trans h1, r⟩
section FCalls
variable {y : MethodName} {idx ci : Nat} {bytes : ByteArray} {mL : Nat} {rt : Option FieldType} {ps : List FieldType} {rty : Option FieldType} {W k n : Nat} {as : Array Value} {Q' : Option Value → Heap → Prop} {argsL rest : List Value}
theorem f_static (ok : FOk Z cK K code maxL ret R l Q) (hp : pc + 3 = pc') (hd : decode code pc = .ok (.invokestatic idx, 3)) (hM : Jvm.LamKit.Made Z host σ cK) (hent : entOK σ host idx ci y = true) (w2 : (Jvm.Cond.static y).before a0 Z = true) (w3 : (Jvm.Cond.initialized y.cls).before a0 Z = true) (w4 : (Jvm.Cond.code y bytes mL rt).before a0 Z = true)
    (hy : y.cls ≠ "java/lang/invoke/MethodHandle" ∧ y.cls ≠ "java/lang/invoke/VarHandle") (pd : parseMethodDescriptor y.desc = some ⟨ps, rty⟩) (pay : Pay Z [] false l R y 3 W as h k n Q') (hls : ls.size = maxL) (has : argsL.toArray = as) (hst : st = argsL.reverse ++ rest) (hlen : argsL.length = ps.length) (hW : (rest.map fun v => v.category).sum ≤ W) (hc : n1 + k ≤ R.cells) (hn : n2 + n ≤ R.slots)
    (hr : ∀ v h', Q' v h' → h.size ≤ h'.size → Run Z K ph h' (n1 + k) (n2 + n) pc' ls (v.toList ++ rest)) : Run Z K ph h n1 n2 pc ls st := by
  subst hp has
  obtain ⟨t, hmT⟩ := Cond.code_named w4
  obtain ⟨methT, cT, hmethT, hcT, -, hlocT, -, -, -, hsigT⟩ := Cond.code_spec hmT w4
  have hstaticT : methT.isStatic = true := Cond.static_spec hmT hmethT w2
  obtain ⟨kT, hkT, hnameT⟩ := className_of_methodNamed hmT
  have hinitK : kT.init = .initialized := Cond.initialized_spec (findClass_of_methodNamed hmT) hkT w3
  obtain ⟨kK, file, nt, hkK, hfile, hidx, hnt, hri, hrc⟩ := made_ent hM hent hmT hy
  refine fCall ok (fun p e s m args below meth c T locs S hx hby hml hm hZ hW1 eT X => ?_) hr
  subst hm
  have hA := hW1.alike
  obtain ⟨k', hk', hcf', hres'⟩ := w39_entries hW1 hkK
  obtain ⟨kT', hkT', heT⟩ := hA.2.2 _ _ hkT
  obtain ⟨b, hmem⟩ := memberRef_ask' (e := e) (vm := T.vm) (d := cK) (index := idx) hk' (hcf'.trans hfile) (Or.inl hidx) hnt
  have hsp : ∀ z : Method, signaturePolymorphic kT' z = false := fun z => by
    have hn' : kT'.name = y.cls := by rw [heT]; exact hnameT
    simp [signaturePolymorphic, hn', hy.1, hy.2]
  obtain ⟨v, B, S', hQ, hsteps⟩ := S.staticR hx (g := mkF ⟨cK, 1⟩ pc ls st) rfl (by rw [hml]; exact hls) (index := idx) (y := y) (t := t) (kt := kT') (metht := methT) (argsL := argsL) (rest := rest) ⟨ci, _, _, b, t.cls, kT', hmem, ⟨k', hk', hres' _ _ hrc⟩, hkT', by simp [hsp]⟩ ⟨k', hk', hres' _ _ hri⟩ hkT' (by rw [hA.method?]; exact hmethT) (hsp _) hstaticT (by rw [heT]; exact hinitK) (lenOf pd hlen _ hsigT) hst (w39_named hW1 hmT)
    (pay p e below s args hZ chv_nil X) (by show 2 * 0 + _ ≤ _; omega) ⟨rfl, eT, hc, hn⟩ (hb hby hd) (Steps.refl _)
  exact ⟨v, B, S', hQ, hsteps⟩
theorem f_virtual {a : Addr} {C : String} (ok : FOk Z cK K code maxL ret R l Q) (hp : pc + 3 = pc') (hd : decode code pc = .ok (.invokevirtual idx, 3)) (hM : Jvm.LamKit.Made Z host σ cK) (hent : entOK σ host idx ci y = true) (w2 : (Jvm.Cond.declares y).before a0 Z = true) (w3 : (Jvm.Cond.selects C y y).before a0 Z = true) (w4 : (Jvm.Cond.instanceMethod y).before a0 Z = true) (E : Exa Z h a C)
    (hy : y.cls ≠ "java/lang/invoke/MethodHandle" ∧ y.cls ≠ "java/lang/invoke/VarHandle") (pd : parseMethodDescriptor y.desc = some ⟨ps, rty⟩) (pay : Pay Z [] false l R y 3 W as h k n Q') (hls : ls.size = maxL) (has : (.ref a :: argsL).toArray = as) (hst : st = argsL.reverse ++ .ref a :: rest) (hlen : argsL.length = ps.length) (hW : (rest.map fun v => v.category).sum ≤ W) (hc : n1 + k ≤ R.cells) (hn : n2 + n ≤ R.slots)
    (hr : ∀ v h', Q' v h' → h.size ≤ h'.size → Run Z K ph h' (n1 + k) (n2 + n) pc' ls (v.toList ++ rest)) : Run Z K ph h n1 n2 pc ls st := by
  subst hp has
  obtain ⟨r0, r, hn0, hrm, hstR, hsigR⟩ := Cond.declares_spec w2
  obtain ⟨mk, methM, hnamed, hmethM, -, habM⟩ := Cond.instanceMethod_spec w4
  obtain ⟨c2, r2, m2, q1, q2, q3, q4, kP, hkP, hkPi⟩ := Cond.selects_spec w3
  cases hn0.symm.trans hnamed
  cases hn0.symm.trans q3
  cases (State.methodFound?_of_named hn0 hy).symm.trans q2
  cases hrm.symm.trans hmethM
  obtain ⟨kT, hkT, hnameT⟩ := className_of_methodNamed hn0
  cases hkP.symm.trans hkT
  obtain ⟨cell, kc, g1, g2, g3, g4, -⟩ := E
  cases g2.symm.trans q1
  obtain ⟨kK, file, nt, hkK, hfile, hidx, hnt, hri, hrc⟩ := made_ent hM hent hn0 hy
  refine fCall ok (fun p e s m args below meth c T locs S hx hby hml hm hZ hW1 eT X => ?_) hr
  subst hm
  have hA := hW1.alike
  obtain ⟨k', hk', hcf', hres'⟩ := w39_entries hW1 hkK
  obtain ⟨kT', hkT', heT⟩ := hA.2.2 _ _ hkT
  have hni : kT'.isInterface = false := by rw [heT]; exact hkPi
  have hsp : ∀ z : Method, signaturePolymorphic kT' z = false := fun z => by
    have hn' : kT'.name = y.cls := by rw [heT]; exact hnameT
    simp [signaturePolymorphic, hn', hy.1, hy.2]
  obtain ⟨v, B, S', hQ, hsteps⟩ := S.virtualR hx (g := mkF ⟨cK, 1⟩ pc ls st) rfl (by rw [hml]; exact hls) (index := idx) (a := a) (y := y) (r := r0) (t := r0) (kr := kT') (kt := kT') (methr := r) (metht := r) (cell := cell) (argsL := argsL) (rest := rest) ⟨k', file, ci, nt, r0.cls, kT', hk', hcf'.trans hfile, hidx, ⟨k', hk', hres' _ _ hrc⟩, hkT', hni⟩ ⟨k', hk', hres' _ _ hri⟩ hkT' (by rw [hA.method?]; exact hrm) (hsp _) hstR (lenOf pd hlen _ hsigR) hst (by rw [eT]; exact g1) (VmData.noStatics_of g4)
    (by rw [Launch.admits_selectMethod S.admits, hA.selectMethod]; exact q4) (by rw [hA.method?]; exact hrm) habM hkT' hni (w39_named hW1 hn0)
    (pay p e below s args hZ chv_nil X) (by show 2 * 0 + _ ≤ _; omega) ⟨rfl, eT, hc, hn⟩ (hb hby hd) (Steps.refl _)
  exact ⟨v, B, S', hQ, hsteps⟩
end FCalls
theorem f_areturn {t : FieldType} {x : Value} {Q' : Value → Heap → Prop} (ok : FOk Z cK K code maxL (some t) R l (rV Q')) (hd : decode code pc = .ok (.areturn, 1)) (hnr : narrow t x = x) (ht : t.isReference = true) (hx : x.isRef = true) (hc : n1 ≤ R.cells) (hn : n2 ≤ R.slots) (hq : Q' x h) (hcl : ∀ s v, ph s v → v = s.vm) : Run Z K ph h n1 n2 pc ls (x :: st) := by
  obtain ⟨p, l1, e, R1, s, m, args, below, meth, c, w1, Q1⟩ := K
  obtain ⟨hx', hby, hml, hm, hret, hlk, rfl, rfl, rfl, rfl⟩ := ok
  intro T X W
  obtain ⟨vm0, k0, locs, S, hS, hk, hZ, hF, eT, hw⟩ := W
  have hsz : s.heap.size ≤ T.heap.size := S.same.2.1
  obtain rfl := hcl _ _ hw
  obtain ⟨fs, hr, hrun, hended, hW, hsame⟩ := S.leave (v := some x) (fun q => by rw [hret] at q; cases q) hlk
  exact ⟨_, _, retOut S hx' hret hnr (Or.inr (Or.inr (Or.inr (Or.inr ⟨rfl, ht, hx⟩)))) (hb hby hd) hr, hrun, hended, some x, locs, rfl, ⟨⟨x, rfl, by show Q' x T.heap; rw [eT]; exact hq⟩, hF, by show Ext Z.heap T.heap; rw [eT]; exact X, hsz⟩, ⟨_, rfl⟩, hW, State.sameButNew.mono hsame hc hn⟩
/-- what a call of a function object leaves -/
def FPay (Z : State) (l : Launch) (R : Room) (cK : ClassId) (len W : Nat) (as : Array Value) (h : Heap) (k n : Nat) (Q : Option Value → Heap → Prop) : Prop :=
  ∀ (p : Program) (e : Env) (below : List Frame) (s : State) (args : Array Value), Z.Warmed39 s.vm → Ext Z.heap h → p.tables.exec = Jvm.exec →
    BackW l R p e below s args (fun _ mk => mk = ⟨cK, 1⟩) len W (fun A a => a = as ∧ A.U.heap = h ∧ A.cells + k ≤ R.cells ∧ A.slots + n ≤ R.slots) (fun A _ v B => ∃ L, Pst Z h.size Q v B.U.heap L ∧ B.locs = A.locs ++ L ∧ B.cells = A.cells + k ∧ B.slots = A.slots + n)
theorem fpay_of {fcode : ByteArray} {fml idx ci : Nat} {fret : Option FieldType} {R' : Room} {as : Array Value} {L0 : Array Slot} {len W : Nat} {Q' : Option Value → Heap → Prop} (hM : Jvm.LamKit.Made Z host σ cK) (hok : Jvm.LamKit.fwdOK σ host fcode fml fret idx ci = true) (ent : ∀ m, entryFrame m as fml = mkF m 0 L0 []) (hfr : R'.frames + 1 ≤ R.frames) (hlo : W + (fml + 11) + R'.locals ≤ R.locals)
    (run : ∀ K, FOk Z cK K fcode fml fret R' l Q' → Run Z K Cln h 0 0 0 L0 []) : FPay Z l R cK len W as h R'.cells R'.slots Q' := by
  intro p e below s args hZ X hx m meth c A g ig mk a S hg hsize hdg hW hwho hp
  obtain ⟨ea, eh, hc, hn⟩ := hp
  subst ea
  have hwho' : mk = ⟨cK, 1⟩ := hwho
  subst hwho'
  obtain ⟨d, dk, hd, hdn, hmade, -⟩ := hM
  obtain ⟨kK, tk, file, methk, ck, toy, t, nt, hkK, hpn, hfile, hidx, hnt, hmk, hck, hbytes, hml, hlk, hfl, hretk, -⟩ := Jvm.LamKit.made_static hok hd hdn hmade
  have hW1 : Z.Warmed39 A.U.vm := wtrans hZ S.warmed
  have hA := hW1.alike
  obtain ⟨kK', hkK', hek⟩ := hA.2.2 _ _ hkK
  have hmk' : A.U.vm.method? ⟨cK, 1⟩ = some methk := by rw [hA.method?]; exact hmk
  have hpk : A.U.plainMethod ⟨cK, 1⟩ := State.plainMethod.of_name (fun k' hk' => by cases hkK'.symm.trans hk'; rw [hek]; exact hpn)
  obtain ⟨Y₀, hin⟩ := S.into hg hsize hdg a (R' := R') hmk' hck hlk hpk hfr (by rw [hml]; omega) hc hn
  rw [hml, ent] at Y₀ hin
  obtain ⟨s₂, o, h1, h2, h3, v, L, rfl, hP, hE⟩ := run (p, l, e, R', A.U.calling g ⟨cK, 1⟩ a, ⟨cK, 1⟩, a, .java g :: below, methk, ck, false, Q') ⟨hx, hbytes, hml, rfl, hretk, hlk, rfl, rfl, rfl, rfl⟩ _ X ⟨(A.U.calling g ⟨cK, 1⟩ a).vm, 0, [], Y₀, (State.WarmedH.refl _).since 0, Nat.zero_le _, hW1, Fr.nil _, eh, rfl⟩
  obtain ⟨hret', hWe, hsame⟩ := hE
  obtain ⟨T', S', -, -, ht⟩ := S.outOf hg hdg h3 hWe hsame
  have q : s₂.heap = T'.heap := by rw [ht]; rfl
  have qs : (A.U.calling g ⟨cK, 1⟩ a).heap.size = h.size := by rw [← eh]; rfl
  refine ⟨v, (T', A.locs ++ L, A.cells + R'.cells, A.slots + R'.slots), S', ⟨L, ?_, rfl, rfl, rfl⟩, ?_⟩
  · show Pst Z h.size Q' v T'.heap L
    rw [← q, ← qs]; exact hP
  · rw [hin [], ← ht]
    exact Steps.weaken (mid := [.java g]) h1
end Fwd
/-- the interface's call on a function object -/
theorem r_fn {a : Addr} {cK : ClassId} {xi : MethodName} {idx count : Nat} {ps : List FieldType} {rty : Option FieldType} {W k n : Nat} {as : Array Value} {Q' : Option Value → Heap → Prop} {argsL rest : List Value} (ok : Ok Z K EL own code maxL ret nm R l w Q) (hp : pc + 5 = pc') (hd : decode code pc = .ok (.invokeinterface idx count, 5)) (w1 : (Jvm.Cond.methodLink own idx xi).before a0 Z = true) (w2 : (Jvm.Cond.declares xi).before a0 Z = true) (w3 : (Jvm.Cond.interfaceMethod xi.cls xi.cls xi.name xi.desc).before a0 Z = true)
    (hy : xi.cls ≠ "java/lang/invoke/MethodHandle" ∧ xi.cls ≠ "java/lang/invoke/VarHandle") (hF : Jvm.Free.HMW.FnX xi cK ⟨cK, 1⟩ Z) (hA : Jvm.LamKit.FnAt h a cK) (pd : parseMethodDescriptor xi.desc = some ⟨ps, rty⟩) (pay : FPay Z l R cK 5 W as h k n Q') (hls : ls.size = maxL) (has : (.ref a :: argsL).toArray = as) (hst : st = argsL.reverse ++ .ref a :: rest) (hlen : argsL.length = ps.length) (hW : (rest.map fun v => v.category).sum ≤ W) (hc : n1 + k ≤ R.cells) (hn : n2 + n ≤ R.slots)
    (hr : ∀ v h', Q' v h' → h.size ≤ h'.size → Run Z K ph h' (n1 + k) (n2 + n) pc' ls (v.toList ++ rest)) : Run Z K ph h n1 n2 pc ls st := by
  subst hp has
  obtain ⟨cell, hcell, hcls, hvm⟩ := hA
  refine rCall ok (w' := false) (EL' := []) (as := (.ref a :: argsL).toArray) (fun q => nomatch q) (Or.inl rfl) (fun _ p e s m args below meth c T locs S hx hby hml hZ ho eT hC X => ?_) (fun q => nomatch q) hr
  obtain ⟨v, vm₁, B, -, S', hQ, hst'⟩ := S.fnAt hx ho (xi := xi) (fun w hw => by
      simp only [Jvm.Free.Fn.fnW, List.mem_cons, List.not_mem_nil, or_false] at hw
      rcases hw with rfl | rfl | rfl
      · exact mvT hZ w1
      · exact mvT hZ w2
      · exact Jvm.Free.ULB.iface_rides hZ.alike w3) hy (fnX_39 hZ hF) (pay p e below s args hZ X hx) (fun _ _ => rfl) (b := a) ⟨cell, by rw [eT]; exact hcell, hcls, by rw [hvm]; rfl⟩ (g := mkF m pc ls st) rfl (by rw [hml]; exact hls) (Steps.refl _) (argsL := argsL) (rest := rest) (lenOf pd hlen) hst (by show 2 * 0 + _ ≤ _; omega) (hb hby hd) (fun _ _ => ⟨rfl, eT, hc, hn⟩)
  exact ⟨v, vm₁, B, S', hQ, fun t ht => hst'.trans ht⟩
theorem bodyN {y : MethodName} {ws : List Jvm.Cond} {as : Array Value} (pn : plainFor y = true) (ent : ∀ m, entryFrame m as maxL = mkF m 0 ls []) (run : ∀ K, Ok Z K EL y.cls code maxL ret y.name R l w Q → Z.methodNamed? y = some K.me → Run Z K Cln h 0 0 0 ls []) : Con l Z EL ws w y code maxL ret R as h Q := by
  intro X
  refine MetFree.of_bodySF pn hisR ?_
  intro p e s m args below meth c s₁ Bd hml0 hP hK
  obtain ⟨rfl, hZ, hh, hCH⟩ := hP
  have hown : s.vm.findClass y.cls = some m.cls := findClass_of_methodNamed Bd.named
  have hnm := (name_of_methodNamed Bd.named Bd.method).1
  have X0 : Stand p l e R s m args below meth c s₁ [] 0 0 := Stand.of_body Bd
  have e0 : s₁.heap = h := by rw [← hh, Bd.state]; rfl
  have ok : Ok Z (p, l, e, R, s, m, args, below, meth, c, w, Q) EL y.cls code maxL ret y.name R l w Q :=
    ⟨Bd.exec, Bd.bytes, hml0, fun vm0 hv => by rw [hv.alike.findClass, ← hZ.alike.findClass]; exact hown, Bd.returns, Bd.notSynchronized, hnm, rfl, rfl, rfl, rfl, hCH⟩
  obtain ⟨s₂, o, h1, h2, h3, v, L, rfl, h4, h5⟩ := run _ ok (w39_named' hZ Bd.named) s₁ X ⟨s.vm, 0, [], X0, (State.WarmedH.refl s).since 0, Nat.zero_le _, hZ, Fr.nil _, e0, rfl⟩
  exact ⟨s₂, _, castTop (ent m) h1, h2, h3, v, L, rfl, by rw [← hh]; exact h4, h5⟩
/-- 'invokedynamic' at a site that captures nothing -/
theorem r_indyC {x : MethodName} {index : Nat} {σ : Jvm.Lambda.Shape} (ok : Ok Z K EL own code maxL ret nm R l w Q) (hN : Z.methodNamed? x = some K.me) (hp : pc + 5 = pc') (hd : decode code pc = .ok (.invokedynamic index, 5)) (w1 : (Jvm.Cond.lambdaSite x pc index σ).before a0 Z = true) (hcap : σ.captured = []) (hls : ls.size = maxL) (hlo : (st.map fun v => v.category).sum + 3072 ≤ R.locals)
    (hr : ∀ a cK, Jvm.LamKit.Made Z x.cls σ cK → Jvm.LamKit.FnAt h a cK → Run Z K ph h n1 n2 pc' ls (.ref a :: st)) : Run Z K ph h n1 n2 pc ls st := by
  subst hp
  obtain ⟨cK, one, hat⟩ := Cond.lambdaSite_spec w1
  obtain ⟨mD, kD, cfD, i0, p0, lk, hmD, hkD, -, -, -, hfind, hmade, hcan, hl⟩ := State.lambdaAt?_spec hat
  obtain rfl : K.me = mD := Option.some.inj (hN.symm.trans hmD)
  obtain ⟨kD', hkD', hnameD⟩ := className_of_methodNamed hN
  cases hkD.symm.trans hkD'
  rcases hl with ⟨a, cell, rfl, -, -, hcell, hcls, hvm, -⟩ | ⟨-, -, hne⟩
  · refine r_old fun X0 => ?_
    have hr' := hr a cK ⟨_, kD, hkD, hnameD, hmade, hcan⟩ ⟨cell, X0.2 a cell hcell, hcls, hvm⟩
    obtain ⟨p, l1, e, R1, s, m, args, below, meth, c, w1', Q1⟩ := K
    obtain ⟨hx, hby, hml, ho, -, -, -, rfl, rfl, -⟩ := ok
    intro T X W
    obtain ⟨s₂, o, h1, r⟩ := hr' T X W
    obtain ⟨vm0, k0, locs, S, hS, hk, hZ, hF, eT, hw⟩ := W
    obtain ⟨k', hk', he⟩ := hZ.alike.2.2 _ _ hkD
    have hwd : e.platform.lambdaLinkWords = 3072 := by rw [S.admits.platform]
    exact ⟨s₂, o, S.lambdaConstant hx (g := mkF m pc ls st) rfl (by rw [hml]; exact hls) (hb hby hd) (k := k') hk' (by rw [he]; exact hfind) (by rw [hwd]; show 2 * 0 + (st.map fun v => v.category).sum + 3072 ≤ _; omega) h1, r⟩
  · exact absurd hcap hne
/-- 'invokedynamic' at a site that captures one value -/
theorem r_indyM {x : MethodName} {index fi : Nat} {σ : Jvm.Lambda.Shape} {v : Value} (ok : Ok Z K EL own code maxL ret nm R l w Q) (hN : Z.methodNamed? x = some K.me) (hp : pc + 5 = pc') (hd : decode code pc = .ok (.invokedynamic index, 5)) (w1 : (Jvm.Cond.lambdaSite x pc index σ).before a0 Z = true) (wO : (Jvm.Cond.instantiable "java/lang/Object" 0).before a0 Z = true) {t0 : FieldType} (hcap : σ.captured = [t0]) (hok : Jvm.LamKit.capOK σ x.cls fi 0 = true) (hfit : narrow t0 v = v ∧ fits t0 v = true) (hls : ls.size = maxL) (hlo : ((v :: st).map fun v => v.category).sum + 3072 ≤ R.locals) (hc : n1 + 1 ≤ R.cells) (hn : n2 + 1 ≤ R.slots)
    (hr : ∀ h' a cK, a = h.size → Z.heap.size ≤ a → Ext h h' → Jvm.LamKit.Made Z x.cls σ cK → (∃ cell : Cell, h'[a]? = some cell ∧ cell.cls = cK ∧ cell.vm = .none ∧ cell.slots = #[v]) → Run Z K ph h' (n1 + 1) (n2 + 1) pc' ls (.ref a :: st)) : Run Z K ph h n1 n2 pc ls (v :: st) := by
  subst hp
  obtain ⟨cK, one, hat⟩ := Cond.lambdaSite_spec w1
  obtain ⟨mD, kD, cfD, i0, p0, lk, hmD, hkD, hcfD, hsh, -, hfind, hmade, hcan, hl⟩ := State.lambdaAt?_spec hat
  obtain rfl : K.me = mD := Option.some.inj (hN.symm.trans hmD)
  obtain ⟨kD', hkD', hnameD⟩ := className_of_methodNamed hN
  cases hkD.symm.trans hkD'
  rcases hl with ⟨a, cell, -, -, hc0, -⟩ | ⟨rfl, -, -⟩
  · rw [hcap] at hc0; cases hc0
  · obtain ⟨b, nt, desc, site, g1, g2, g3, g4⟩ := Jvm.Lambda.shapeOf?_site hsh
    obtain ⟨kc, f, hkc, hkind, hty, -⟩ := Jvm.LamKit.made_cap hok hkD hnameD hmade (Jvm.LamKit.noFields wO (State.WarmedH.refl Z))
    have hr' := fun h' => hr h' h.size cK
    obtain ⟨p, l1, e, R1, s, m, args, below, meth, c, w1', Q1⟩ := K
    obtain ⟨hx, hby, hml, ho, -, -, -, rfl, rfl, -⟩ := ok
    intro T X W
    obtain ⟨vm0, k0, locs, S, hS, hk, hZ, hF, eT, hw⟩ := W
    obtain ⟨k', hk', he⟩ := hZ.alike.2.2 _ _ hkD
    obtain ⟨kc', hkc', hec⟩ := hZ.alike.2.2 _ _ hkc
    have hty' : kc'.instanceTypes = #[t0] := by rw [hec]; show kc.instanceTypes = _; rw [hty, hcap]
    have hkind' : kc'.kind = .ordinary := by rw [hec]; exact hkind
    have hz : ((kc'.instanceTypes.toList.zip [v]).map fun (t, v) => narrow t v) = [v] := by
      rw [hty']; show [narrow t0 v] = [v]; rw [hfit.1]
    have hwd : e.platform.lambdaLinkWords = 3072 := by rw [S.admits.platform]
    have q := S.lambdaMakes hx (g := mkF m pc ls (v :: st)) rfl (by rw [hml]; exact hls) (hb hby hd) (vals := [v]) (rest := st) (k := k') (kc := kc') hk' (by rw [he]; exact hfind) (by rw [he]; exact hcfD) g1 g2 (parseLong_of_parse g3) (by rw [g4, hcap]; rfl) rfl hkc' (by rw [hwd]; show 2 * 0 + ((v :: st).map fun v => v.category).sum + 3072 ≤ _; omega) hc (by rw [hz]; exact hn)
      (fun i u hu => by
        rw [hz] at hu
        have hu' : ([v] : List Value)[i]? = some u := by simpa using hu
        cases i with
        | zero =>
          cases hu'
          show (s.setVm vm0).fitsSlot cK .none 0 v = true
          have hkc2 : (s.setVm vm0).vm.classes[cK]? = some kc' := hkc'
          simp [State.fitsSlot, State.slotType?, hkc', hkind', hty', hfit.2]
        | succ i => simp at hu')
    rw [hz] at q
    obtain ⟨S', hst⟩ := q
    have eH : (T.pushCell { cls := cK, slots := [v].toArray, vm := .none }).heap = h.push { cls := cK, slots := [v].toArray, vm := .none } := by show T.heap.push _ = _; rw [eT]
    have hX : Ext h (h.push { cls := cK, slots := [v].toArray, vm := .none }) := ⟨by simp, fun a cell q => by
      have ha : a < h.size := (Array.getElem?_eq_some_iff.mp q).1
      rw [Array.getElem?_push_lt ha, ← Array.getElem?_eq_getElem ha]; exact q⟩
    have hg : (T.heap.size : Nat) = h.size := by rw [eT]
    obtain ⟨s₂, o, h1, r⟩ := hr' _ rfl X.1 hX ⟨_, kD, hkD, hnameD, hmade, hcan⟩ ⟨{ cls := cK, slots := [v].toArray, vm := .none }, by simp, rfl, rfl, rfl⟩ (T.pushCell { cls := cK, slots := [v].toArray, vm := .none }) (ext_trans X hX) ⟨vm0, k0, locs, S', hS, by rw [eH]; rw [eT] at hk; exact Nat.le_trans hk hX.1, hZ, hF, eH, hw⟩
    refine ⟨s₂, o, hst _ ?_, r⟩
    rw [hg]; exact h1
/-- an element of an array of boxes -/
theorem r_aaloadB {a : Addr} {cl : Cell} {KB dB : String} {z j : Int32} {val : Int32 → Value} (ok : Ok Z K EL own code maxL ret nm R l w Q) (hp : pc + 1 = pc') (hd : decode code pc = .ok (.aaload, 1)) (B : Bxs Z a cl KB dB z val) (q : ¬ j < 0 ∧ j < z) (hr : ∀ b, Exa Z Z.heap b KB → Fld Z Z.heap b KB "value" dB (val j) → Run Z K ph h n1 n2 pc' ls (.ref b :: st)) : Run Z K ph h n1 n2 pc ls (.int j :: .ref a :: st) := by
  subst hp
  refine r_old fun X0 => ?_
  obtain ⟨Ar, S, hz, f⟩ := B
  obtain ⟨b, hb1, hb2, hb3⟩ := f j (inb_of S q)
  have Ar' := Ar.ext X0
  exact rX ok (hr b hb2 hb3) fun p e s m args below meth c T locs X hx hby hZ ho eT t => X.aaload hx (j := j) (v := .ref b) (by rw [eT]; exact Ar'.1) (State.isArrayOf_alike hZ.alike Ar'.2.1) rfl Ar'.2.2 (inb_of S q) hb1 (g := mkF m pc ls (.int j :: .ref a :: st)) rfl rfl (hb hby hd) t
theorem Con.weak {ws : List Jvm.Cond} {y : MethodName} {bytes : ByteArray} {mL : Nat} {rt : Option FieldType} {R' : Room} {as : Array Value} {w' : Bool} {Q1 Q2 : Option Value → Heap → Prop} (con : Con l Z EL ws w' y bytes mL rt R' as h Q1) (q : ∀ v h', Q1 v h' → Q2 v h') : Con l Z EL ws w' y bytes mL rt R' as h Q2 := by
  intro X p e ha hc hk s m args below hf happ hP hK
  obtain ⟨n, o, h1, h2, h3, v, L, e1, ⟨p1, p2⟩, e2⟩ := con X p e ha hc hk s m args below hf happ hP hK
  exact ⟨n, o, h1, h2, h3, v, L, e1, ⟨q _ _ p1, p2⟩, e2⟩

end Walk
theorem own_ne {a b : Addr} {n : Nat} (h : a < n) (e : b = n) : a ≠ b := fun q => Nat.lt_irrefl n (by rw [q, e] at h; exact h)
theorem own_ne' {a b : Addr} {n : Nat} (h : a < n) (e : n ≤ b) : a ≠ b := fun q => Nat.lt_irrefl n (Nat.lt_of_le_of_lt e (by rw [q] at h; exact h))

theorem own_sz {Z : State} {args : Array Value} {t : Term} {a : Addr} {ty : FieldType} {n : Int32} {N : Nat} (et : t.eval args Z none [] Z = some (.ref a)) (hA : (Cond.arrayOf t ty).value args Z none Z [] = some true) (hl : (Cond.eq (Term.length t) (Term.int n)).value args Z none Z [] = some true) (hN : n.toInt = (N : Int)) : ∃ cl, Arr Z Z.heap a cl ty ∧ cl.slots.size < 2 ^ 31 ∧ cl.slots.size.toInt32 = n ∧ cl.slots.size = N := by
  obtain ⟨cl, A⟩ := Arr.start et hA
  have ha := A.fin (Vm.Alike.refl _)
  have e := eqv_i (Term.int_eval n) hl
  have q : cl.slots.size < 2 ^ 31 := by
    by_cases q : cl.slots.size < 2 ^ 31
    · exact q
    · simp [Term.eval, et, ha, q] at e
  have e2 : cl.slots.size.toInt32 = n := by
    rw [len_f et ha q] at e
    injection (Option.some.inj e)
  refine ⟨cl, A, q, e2, ?_⟩
  have x := len_toInt q
  rw [e2, hN] at x
  omega
theorem own_arv0 {Z : State} {args : Array Value} {t : Term} {a : Addr} {ty : FieldType} (et : t.eval args Z none [] Z = some (.ref a)) (hA : (Cond.arrayOf t ty).value args Z none Z [] = some true) (hl : (Cond.eq (Term.length t) (Term.int 0)).value args Z none Z [] = some true) : ∃ k, Arv Z Z.heap a k ty 0 [] .null := by
  obtain ⟨cl, A, q, e, S⟩ := own_sz et hA hl (N := 0) rfl
  exact ⟨cl.cls, cl, A, rfl, by rw [S]; rfl, by decide, fun i hi => by rw [S] at hi; exact absurd hi (Nat.not_lt_zero _), fun i hi => by rw [S] at hi; exact absurd hi (Nat.not_lt_zero _)⟩
theorem own_sub {Z : State} {args : Array Value} {j : Int32} (nn : ¬ j < 0) : (Term.sub (.index 0) (.int 128)).eval args Z none [j.toNatClampNeg] Z = some (.int (j - 128)) := by
  have h1 : (Term.index 0).eval args Z none [j.toNatClampNeg] Z = some (.int j) := idx_at nn
  rw [Term.eval, h1, Term.int_eval]
  rfl
theorem own_ints {Z : State} {args : Array Value} {t : Term} {a : Addr} {cl : Cell} (et : ∀ idx, t.eval args Z none idx Z = some (.ref a)) (A : Arr Z Z.heap a cl (.object "java/lang/Integer")) (q : cl.slots.size < 2 ^ 31) (e : cl.slots.size.toInt32 = 256)
    (h : (Cond.all t (.and (.exactly (.elem t (.index 0)) "java/lang/Integer") (.eq (.field (.elem t (.index 0)) "java/lang/Integer" "value" "I") (.sub (.index 0) (.int 128))))).value args Z none Z [] = some true) : Bxs Z a cl "java/lang/Integer" "I" 256 (fun j => .int (j - 128)) :=
  Bxs.start et A q e (by decide) h fun X j nn hq => eqv_i (own_sub nn) hq

theorem pn_0 : plainName "java/util/ArrayList" = true := by first | (simp [plainName, overriddenIn]; done) | decide +kernel
theorem pn_1 : plainName "java/util/AbstractList" = true := by first | (simp [plainName, overriddenIn]; done) | decide +kernel
theorem pn_2 : plainName "java/util/AbstractCollection" = true := by first | (simp [plainName, overriddenIn]; done) | decide +kernel
theorem pn_3 : plainName "com/example/stackloom/stackloom/model/KernelLayout$Task" = true := by first | (simp [plainName, overriddenIn]; done) | decide +kernel
theorem pn_4 : plainName "java/lang/Record" = true := by first | (simp [plainName, overriddenIn]; done) | decide +kernel
theorem pn_5 : plainName "com/example/stackloom/stackloom/model/KernelLayout" = true := by first | (simp [plainName, overriddenIn]; done) | decide +kernel
theorem pn_6 : plainName "java/util/List" = true := by first | (simp [plainName, overriddenIn]; done) | decide +kernel
theorem pn_7 : plainName "java/util/ImmutableCollections" = true := by first | (simp [plainName, overriddenIn]; done) | decide +kernel
theorem pn_8 : plainName "java/util/Arrays" = true := by first | (simp [plainName, overriddenIn]; done) | decide +kernel
theorem pn_9 : plainName "java/util/ImmutableCollections$List12" = true := by first | (simp [plainName, overriddenIn]; done) | decide +kernel
theorem pn_10 : plainName "java/util/ImmutableCollections$AbstractImmutableList" = true := by first | (simp [plainName, overriddenIn]; done) | decide +kernel
theorem pn_11 : plainName "java/util/ImmutableCollections$AbstractImmutableCollection" = true := by first | (simp [plainName, overriddenIn]; done) | decide +kernel
theorem pn_12 : plainName "java/util/Objects" = true := by first | (simp [plainName, overriddenIn]; done) | decide +kernel
theorem pn_13 : plainName "java/util/Optional" = true := by first | (simp [plainName, overriddenIn]; done) | decide +kernel
theorem pn_14 : plainName "com/example/stackloom/stackloom/service/KernelWatch" = true := by first | (simp [plainName, overriddenIn]; done) | decide +kernel
theorem pn_15 : plainName "java/util/HashMap" = true := by first | (simp [plainName, overriddenIn]; done) | decide +kernel
theorem pn_16 : plainName "java/util/AbstractMap" = true := by first | (simp [plainName, overriddenIn]; done) | decide +kernel
theorem pn_17 : plainName "java/util/BitSet" = true := by first | (simp [plainName, overriddenIn]; done) | decide +kernel
theorem pn_18 : plainName "java/lang/Integer" = true := by first | (simp [plainName, overriddenIn]; done) | decide +kernel
theorem pn_19 : plainName "java/util/ImmutableCollections$ListN" = true := by first | (simp [plainName, overriddenIn]; done) | decide +kernel
theorem pn_20 : plainName "java/lang/Boolean" = true := by first | (simp [plainName, overriddenIn]; done) | decide +kernel
theorem pn_21 : plainName "java/util/ImmutableCollections$ListItr" = true := by first | (simp [plainName, overriddenIn]; done) | decide +kernel
theorem pn_22 : plainName "com/example/stackloom/stackloom/service/Core$KernelCounts" = true := by first | (simp [plainName, overriddenIn]; done) | decide +kernel
theorem pn_23 : plainName "com/example/stackloom/stackloom/service/KernelWatchExecutedPinLaw" = true := by first | (simp [plainName, overriddenIn]; done) | decide +kernel
theorem pd_0 : parseMethodDescriptor "()V" = some ⟨[], none⟩ := by decide +kernel
theorem pd_1 : parseMethodDescriptor "(III)V" = some ⟨[.int, .int, .int], none⟩ := by decide +kernel
theorem pd_2 : parseMethodDescriptor "(Ljava/lang/Object;)Z" = some ⟨[(.object "java/lang/Object")], some .boolean⟩ := by decide +kernel
theorem pd_3 : parseMethodDescriptor "(Ljava/lang/Object;[Ljava/lang/Object;I)V" = some ⟨[(.object "java/lang/Object"), (.array (.object "java/lang/Object")), .int], none⟩ := by decide +kernel
theorem pd_4 : parseMethodDescriptor "()[Ljava/lang/Object;" = some ⟨[], some (.array (.object "java/lang/Object"))⟩ := by decide +kernel
theorem pd_5 : parseMethodDescriptor "(I)[Ljava/lang/Object;" = some ⟨[.int], some (.array (.object "java/lang/Object"))⟩ := by decide +kernel
theorem pd_6 : parseMethodDescriptor "(II)I" = some ⟨[.int, .int], some .int⟩ := by decide +kernel
theorem pd_7 : parseMethodDescriptor "(IIILjava/util/List;)V" = some ⟨[.int, .int, .int, (.object "java/util/List")], none⟩ := by decide +kernel
theorem pd_8 : parseMethodDescriptor "()Ljava/util/List;" = some ⟨[], some (.object "java/util/List")⟩ := by decide +kernel
theorem pd_9 : parseMethodDescriptor "(IILjava/util/List;IILjava/util/List;)V" = some ⟨[.int, .int, (.object "java/util/List"), .int, .int, (.object "java/util/List")], none⟩ := by decide +kernel
theorem pd_10 : parseMethodDescriptor "(Ljava/util/Collection;)Ljava/util/List;" = some ⟨[(.object "java/util/Collection")], some (.object "java/util/List")⟩ := by decide +kernel
theorem pd_11 : parseMethodDescriptor "()Z" = some ⟨[], some .boolean⟩ := by decide +kernel
theorem pd_12 : parseMethodDescriptor "([Ljava/lang/Object;I)[Ljava/lang/Object;" = some ⟨[(.array (.object "java/lang/Object")), .int], some (.array (.object "java/lang/Object"))⟩ := by decide +kernel
theorem pd_13 : parseMethodDescriptor "()Ljava/lang/Class;" = some ⟨[], some (.object "java/lang/Class")⟩ := by decide +kernel
theorem pd_14 : parseMethodDescriptor "([Ljava/lang/Object;ILjava/lang/Class;)[Ljava/lang/Object;" = some ⟨[(.array (.object "java/lang/Object")), .int, (.object "java/lang/Class")], some (.array (.object "java/lang/Object"))⟩ := by decide +kernel
theorem pd_15 : parseMethodDescriptor "(Ljava/lang/Object;ILjava/lang/Object;II)V" = some ⟨[(.object "java/lang/Object"), .int, (.object "java/lang/Object"), .int, .int], none⟩ := by decide +kernel
theorem pd_16 : parseMethodDescriptor "([Ljava/lang/Object;)Ljava/util/List;" = some ⟨[(.array (.object "java/lang/Object"))], some (.object "java/util/List")⟩ := by decide +kernel
theorem pd_17 : parseMethodDescriptor "(Ljava/lang/Object;)V" = some ⟨[(.object "java/lang/Object")], none⟩ := by decide +kernel
theorem pd_18 : parseMethodDescriptor "(Ljava/lang/Object;)Ljava/lang/Object;" = some ⟨[(.object "java/lang/Object")], some (.object "java/lang/Object")⟩ := by decide +kernel
theorem pd_19 : parseMethodDescriptor "(Ljava/lang/Object;)Ljava/util/Optional;" = some ⟨[(.object "java/lang/Object")], some (.object "java/util/Optional")⟩ := by decide +kernel
theorem pd_20 : parseMethodDescriptor "(Ljava/util/Optional;)V" = some ⟨[(.object "java/util/Optional")], none⟩ := by decide +kernel
theorem pd_21 : parseMethodDescriptor "(I)V" = some ⟨[.int], none⟩ := by decide +kernel
theorem pd_22 : parseMethodDescriptor "(I)I" = some ⟨[.int], some .int⟩ := by decide +kernel
theorem pd_23 : parseMethodDescriptor "(Ljava/util/function/Function;)Ljava/util/Optional;" = some ⟨[(.object "java/util/function/Function")], some (.object "java/util/Optional")⟩ := by decide +kernel
theorem pd_24 : parseMethodDescriptor "(I)Ljava/lang/Integer;" = some ⟨[.int], some (.object "java/lang/Integer")⟩ := by decide +kernel
theorem pd_25 : parseMethodDescriptor "(Ljava/lang/Object;)I" = some ⟨[(.object "java/lang/Object")], some .int⟩ := by decide +kernel
theorem pd_26 : parseMethodDescriptor "(Z)Ljava/lang/Boolean;" = some ⟨[.boolean], some (.object "java/lang/Boolean")⟩ := by decide +kernel
theorem pd_27 : parseMethodDescriptor "()Ljava/lang/Object;" = some ⟨[], some (.object "java/lang/Object")⟩ := by decide +kernel
theorem pd_28 : parseMethodDescriptor "(I)Z" = some ⟨[.int], some .boolean⟩ := by decide +kernel
theorem pd_29 : parseMethodDescriptor "()Ljava/util/Iterator;" = some ⟨[], some (.object "java/util/Iterator")⟩ := by decide +kernel
theorem pd_30 : parseMethodDescriptor "()I" = some ⟨[], some .int⟩ := by decide +kernel
theorem pd_31 : parseMethodDescriptor "(Ljava/util/List;I)V" = some ⟨[(.object "java/util/List"), .int], none⟩ := by decide +kernel
theorem pd_32 : parseMethodDescriptor "()Lcom/example/stackloom/stackloom/service/Core$KernelCounts;" = some ⟨[], some (.object "com/example/stackloom/stackloom/service/Core$KernelCounts")⟩ := by decide +kernel
theorem pd_33 : parseMethodDescriptor "(JJJJJ)V" = some ⟨[.long, .long, .long, .long, .long], none⟩ := by decide +kernel
theorem pd_34 : parseMethodDescriptor "()J" = some ⟨[], some .long⟩ := by decide +kernel
theorem pd_35 : parseMethodDescriptor "()Ljava/util/Optional;" = some ⟨[], some (.object "java/util/Optional")⟩ := by decide +kernel
theorem pd_36 : parseMethodDescriptor "(Ljava/lang/Object;)Ljava/util/HashMap$Node;" = some ⟨[(.object "java/lang/Object")], some (.object "java/util/HashMap$Node")⟩ := by decide +kernel
theorem pd_37 : parseMethodDescriptor "(ILcom/example/stackloom/stackloom/model/KernelLayout;)Ljava/lang/Integer;" = some ⟨[.int, (.object "com/example/stackloom/stackloom/model/KernelLayout")], some (.object "java/lang/Integer")⟩ := by decide +kernel
theorem pd_38 : parseMethodDescriptor "(I)Ljava/lang/Object;" = some ⟨[.int], some (.object "java/lang/Object")⟩ := by decide +kernel
theorem pd_39 : parseMethodDescriptor "(IIII)Z" = some ⟨[.int, .int, .int, .int], some .boolean⟩ := by decide +kernel
abbrev AL : String := "java/util/ArrayList"
abbrev ABL : String := "java/util/AbstractList"
abbrev OA : String := "[Ljava/lang/Object;"
abbrev LO : String := "Ljava/lang/Object;"
abbrev TK : String := "com/example/stackloom/stackloom/model/KernelLayout$Task"
abbrev KL : String := "com/example/stackloom/stackloom/model/KernelLayout"
abbrev KW : String := "com/example/stackloom/stackloom/service/KernelWatch"
abbrev KC : String := "com/example/stackloom/stackloom/service/Core$KernelCounts"
abbrev OP : String := "java/util/Optional"
abbrev LN : String := "java/util/ImmutableCollections$ListN"
abbrev L12 : String := "java/util/ImmutableCollections$List12"
abbrev LI : String := "java/util/ImmutableCollections$ListItr"
abbrev HM : String := "java/util/HashMap"
abbrev BS : String := "java/util/BitSet"
abbrev RZ : Room := { frames := 0, cells := 0, slots := 0, locals := 0 }
abbrev R1 : Room := { frames := 1, cells := 0, slots := 0, locals := 16 }
abbrev R2 : Room := { frames := 2, cells := 0, slots := 0, locals := 40 }
abbrev R3 : Room := { frames := 3, cells := 0, slots := 0, locals := 70 }
section Claim
/-! constructors that write nothing -/
theorem d1_0 : decode jdk_22_method_1_code 0 = .ok (.aload_n 0, 1) := by decide +kernel
theorem d1_1 : decode jdk_22_method_1_code 1 = .ok (.invokespecial 1, 3) := by decide +kernel
theorem d1_4 : decode jdk_22_method_1_code 4 = .ok (.return_, 1) := by decide +kernel
set_option maxRecDepth 65536 in
theorem rmAC (l : Launch) (Z : State) (a0 : Array Value) (hw : ∀ d ∈ tables_1, d.before a0 Z = true) (a : Addr) (h0 : Heap) : Con l Z [] [] false (⟨"java/util/AbstractCollection", "<init>", "()V"⟩ : MethodName) jdk_22_method_1_code 1 none R1 #[.ref a] h0 (rU fun h => h0 = h) := by
  refine body (ls := #[.val (.ref a)]) (plainFor_of_name pn_2) (fun m => by first | (simp [entryFrame, mkF, argsToLocals, Value.category]; done) | rfl) fun K ok => ?_
  refine r_aloadN (pc' := 1) ok rfl d1_0 rfl rfl ?_
  refine r_init (pc' := 4) ok rfl d1_1 (hw _ (List.mem_of_getElem? (i := 18) rfl)) (hw _ (List.mem_of_getElem? (i := 19) rfl)) (hw _ (List.mem_of_getElem? (i := 20) rfl)) rfl (by decide) (Nat.le_of_ble_eq_true rfl) ?_
  refine r_return ok d1_4 ?_ (by decide) (by decide)
  rfl
theorem d2_0 : decode jdk_30_method_1_code 0 = .ok (.aload_n 0, 1) := by decide +kernel
theorem d2_1 : decode jdk_30_method_1_code 1 = .ok (.invokespecial 1, 3) := by decide +kernel
theorem d2_4 : decode jdk_30_method_1_code 4 = .ok (.return_, 1) := by decide +kernel
set_option maxRecDepth 65536 in
theorem rmRec (l : Launch) (Z : State) (a0 : Array Value) (hw : ∀ d ∈ tables_1, d.before a0 Z = true) (a : Addr) (h0 : Heap) : Con l Z [] [] false (⟨"java/lang/Record", "<init>", "()V"⟩ : MethodName) jdk_30_method_1_code 1 none R1 #[.ref a] h0 (rU fun h => h0 = h) := by
  refine body (ls := #[.val (.ref a)]) (plainFor_of_name pn_4) (fun m => by first | (simp [entryFrame, mkF, argsToLocals, Value.category]; done) | rfl) fun K ok => ?_
  refine r_aloadN (pc' := 1) ok rfl d2_0 rfl rfl ?_
  refine r_init (pc' := 4) ok rfl d2_1 (hw _ (List.mem_of_getElem? (i := 37) rfl)) (hw _ (List.mem_of_getElem? (i := 19) rfl)) (hw _ (List.mem_of_getElem? (i := 20) rfl)) rfl (by decide) (Nat.le_of_ble_eq_true rfl) ?_
  refine r_return ok d2_4 ?_ (by decide) (by decide)
  rfl
theorem d3_0 : decode jdk_71_method_1_code 0 = .ok (.aload_n 0, 1) := by decide +kernel
theorem d3_1 : decode jdk_71_method_1_code 1 = .ok (.invokespecial 1, 3) := by decide +kernel
theorem d3_4 : decode jdk_71_method_1_code 4 = .ok (.return_, 1) := by decide +kernel
set_option maxRecDepth 65536 in
theorem rmAM (l : Launch) (Z : State) (a0 : Array Value) (hw : ∀ d ∈ tables_1, d.before a0 Z = true) (a : Addr) (h0 : Heap) : Con l Z [] [] false (⟨"java/util/AbstractMap", "<init>", "()V"⟩ : MethodName) jdk_71_method_1_code 1 none R1 #[.ref a] h0 (rU fun h => h0 = h) := by
  refine body (ls := #[.val (.ref a)]) (plainFor_of_name pn_16) (fun m => by first | (simp [entryFrame, mkF, argsToLocals, Value.category]; done) | rfl) fun K ok => ?_
  refine r_aloadN (pc' := 1) ok rfl d3_0 rfl rfl ?_
  refine r_init (pc' := 4) ok rfl d3_1 (hw _ (List.mem_of_getElem? (i := 230) rfl)) (hw _ (List.mem_of_getElem? (i := 19) rfl)) (hw _ (List.mem_of_getElem? (i := 20) rfl)) rfl (by decide) (Nat.le_of_ble_eq_true rfl) ?_
  refine r_return ok d3_4 ?_ (by decide) (by decide)
  rfl
theorem d4_0 : decode jdk_47_method_1_code 0 = .ok (.aload_n 0, 1) := by decide +kernel
theorem d4_1 : decode jdk_47_method_1_code 1 = .ok (.invokespecial 1, 3) := by decide +kernel
theorem d4_4 : decode jdk_47_method_1_code 4 = .ok (.return_, 1) := by decide +kernel
set_option maxRecDepth 65536 in
theorem rmAIC (l : Launch) (Z : State) (a0 : Array Value) (hw : ∀ d ∈ tables_1, d.before a0 Z = true) (a : Addr) (h0 : Heap) : Con l Z [] [] false (⟨"java/util/ImmutableCollections$AbstractImmutableCollection", "<init>", "()V"⟩ : MethodName) jdk_47_method_1_code 1 none R2 #[.ref a] h0 (rU fun h => h0 = h) := by
  refine body (ls := #[.val (.ref a)]) (plainFor_of_name pn_11) (fun m => by first | (simp [entryFrame, mkF, argsToLocals, Value.category]; done) | rfl) fun K ok => ?_
  refine r_aloadN (pc' := 1) ok rfl d4_0 rfl rfl ?_
  refine r_special (pc' := 4) ok rfl d4_1 rfl (hw _ (List.mem_of_getElem? (i := 172) rfl)) (hw _ (List.mem_of_getElem? (i := 13) rfl)) (hw _ (List.mem_of_getElem? (i := 17) rfl)) (by decide) pd_0 (Con.pay (W := 0) (rmAC l Z a0 hw a h0) EW.nil (hw _ (List.mem_of_getElem? (i := 17) rfl)) (hw _ (List.mem_of_getElem? (i := 16) rfl)) (by decide) (by decide)) (fun q => nomatch q) (Or.inl rfl) rfl (argsL := []) (rest := []) rfl rfl rfl (Nat.le_of_ble_eq_true rfl) (by decide) (by decide) (cU fun h1 q1 le1 => ?_)
  subst q1
  refine r_return ok d4_4 ?_ (by decide) (by decide)
  rfl
theorem d5_0 : decode jdk_46_method_1_code 0 = .ok (.aload_n 0, 1) := by decide +kernel
theorem d5_1 : decode jdk_46_method_1_code 1 = .ok (.invokespecial 1, 3) := by decide +kernel
theorem d5_4 : decode jdk_46_method_1_code 4 = .ok (.return_, 1) := by decide +kernel
set_option maxRecDepth 65536 in
theorem rmAIL (l : Launch) (Z : State) (a0 : Array Value) (hw : ∀ d ∈ tables_1, d.before a0 Z = true) (a : Addr) (h0 : Heap) : Con l Z [] [] false (⟨"java/util/ImmutableCollections$AbstractImmutableList", "<init>", "()V"⟩ : MethodName) jdk_46_method_1_code 1 none R3 #[.ref a] h0 (rU fun h => h0 = h) := by
  refine body (ls := #[.val (.ref a)]) (plainFor_of_name pn_10) (fun m => by first | (simp [entryFrame, mkF, argsToLocals, Value.category]; done) | rfl) fun K ok => ?_
  refine r_aloadN (pc' := 1) ok rfl d5_0 rfl rfl ?_
  refine r_special (pc' := 4) ok rfl d5_1 rfl (hw _ (List.mem_of_getElem? (i := 166) rfl)) (hw _ (List.mem_of_getElem? (i := 167) rfl)) (hw _ (List.mem_of_getElem? (i := 171) rfl)) (by decide) pd_0 (Con.pay (W := 0) (rmAIC l Z a0 hw a h0) EW.nil (hw _ (List.mem_of_getElem? (i := 171) rfl)) (hw _ (List.mem_of_getElem? (i := 170) rfl)) (by decide) (by decide)) (fun q => nomatch q) (Or.inl rfl) rfl (argsL := []) (rest := []) rfl rfl rfl (Nat.le_of_ble_eq_true rfl) (by decide) (by decide) (cU fun h1 q1 le1 => ?_)
  subst q1
  refine r_return ok d5_4 ?_ (by decide) (by decide)
  rfl
/-! ArrayList -/
def ALs (Z : State) (h : Heap) (a : Addr) (vm ve vs : Value) : Prop := Exa Z h a AL ∧ Fld Z h a ABL "modCount" "I" vm ∧ Fld Z h a AL "elementData" OA ve ∧ Fld Z h a AL "size" "I" vs
theorem d6_0 : decode jdk_39_method_1_code 0 = .ok (.aload_n 0, 1) := by decide +kernel
theorem d6_1 : decode jdk_39_method_1_code 1 = .ok (.invokespecial 1, 3) := by decide +kernel
theorem d6_4 : decode jdk_39_method_1_code 4 = .ok (.aload_n 0, 1) := by decide +kernel
theorem d6_5 : decode jdk_39_method_1_code 5 = .ok (.iconst 0, 1) := by decide +kernel
theorem d6_6 : decode jdk_39_method_1_code 6 = .ok (.putfield 7, 3) := by decide +kernel
theorem d6_9 : decode jdk_39_method_1_code 9 = .ok (.return_, 1) := by decide +kernel
set_option maxRecDepth 65536 in
theorem rmAbL (l : Launch) (Z : State) (a0 : Array Value) (hw : ∀ d ∈ tables_1, d.before a0 Z = true) (a : Addr) (v1 v2 v3 : Value) (h0 : Heap) (A : ALs Z h0 a v1 v2 v3) (g : Z.heap.size ≤ a) :
    Con l Z [] [] false (⟨"java/util/AbstractList", "<init>", "()V"⟩ : MethodName) jdk_39_method_1_code 1 none R2 #[.ref a] h0 (rU fun h => Keep h0 h [a] ∧ ALs Z h a (.int 0) v2 v3) := by
  obtain ⟨E, Fm, Fe, Fs⟩ := A
  refine body (ls := #[.val (.ref a)]) (plainFor_of_name pn_1) (fun m => by first | (simp [entryFrame, mkF, argsToLocals, Value.category]; done) | rfl) fun K ok => ?_
  refine r_aloadN (pc' := 1) ok rfl d6_0 rfl rfl ?_
  refine r_special (pc' := 4) ok rfl d6_1 rfl (hw _ (List.mem_of_getElem? (i := 12) rfl)) (hw _ (List.mem_of_getElem? (i := 13) rfl)) (hw _ (List.mem_of_getElem? (i := 17) rfl)) (by decide) pd_0 (Con.pay (W := 0) (rmAC l Z a0 hw a h0) EW.nil (hw _ (List.mem_of_getElem? (i := 17) rfl)) (hw _ (List.mem_of_getElem? (i := 16) rfl)) (by decide) (by decide)) (fun q => nomatch q) (Or.inl rfl) rfl (argsL := []) (rest := []) rfl rfl rfl (Nat.le_of_ble_eq_true rfl) (by decide) (by decide) (cU fun h1 q1 le1 => ?_)
  subst q1
  refine r_aloadN (pc' := 5) ok rfl d6_4 rfl rfl ?_
  refine r_iconstV (pc' := 6) ok rfl (0 : Int32) d6_5 rfl ?_
  refine r_putfield (pc' := 9) (host := "") ok rfl d6_6 (Or.inl (hw _ (List.mem_of_getElem? (i := 21) rfl))) Via.refl (Or.inl (hw _ (List.mem_of_getElem? (i := 22) rfl))) (hw _ (List.mem_of_getElem? (i := 1) rfl)) Fm E g (ty := .int) (by decide) rfl rfl ?_
  intro h2 W2 F2 E2
  replace Fe := Fe.other W2 (Or.inr (slot_ne (Or.inl (hw _ (List.mem_of_getElem? (i := 25) rfl))) (Or.inl (hw _ (List.mem_of_getElem? (i := 22) rfl))) (by decide) (t := (.array (.object "java/lang/Object"))) (t' := .int) (by decide) (by decide)))
  replace Fs := Fs.other W2 (Or.inr (slot_ne (Or.inl (hw _ (List.mem_of_getElem? (i := 52) rfl))) (Or.inl (hw _ (List.mem_of_getElem? (i := 22) rfl))) (by decide) (t := .int) (t' := .int) (by decide) (by decide)))
  refine r_return ok d6_9 ?_ (by decide) (by decide)
  exact ⟨(Keep.refl h0 [a]).wr W2 (Or.inl (List.mem_singleton.mpr rfl)), E2, F2, Fe, Fs⟩
theorem d7_0 : decode jdk_38_method_2_code 0 = .ok (.aload_n 0, 1) := by decide +kernel
theorem d7_1 : decode jdk_38_method_2_code 1 = .ok (.invokespecial 1, 3) := by decide +kernel
theorem d7_4 : decode jdk_38_method_2_code 4 = .ok (.aload_n 0, 1) := by decide +kernel
theorem d7_5 : decode jdk_38_method_2_code 5 = .ok (.getstatic 39, 3) := by decide +kernel
theorem d7_8 : decode jdk_38_method_2_code 8 = .ok (.putfield 9, 3) := by decide +kernel
theorem d7_11 : decode jdk_38_method_2_code 11 = .ok (.return_, 1) := by decide +kernel
set_option maxRecDepth 65536 in
theorem rmAL (l : Launch) (Z : State) (a0 : Array Value) (hw : ∀ d ∈ tables_1, d.before a0 Z = true) (a de : Addr) (v1 v2 v3 : Value) (h0 : Heap) (A : ALs Z h0 a v1 v2 v3) (g : Z.heap.size ≤ a) (SD : Sta Z Z.heap AL "DEFAULTCAPACITY_EMPTY_ELEMENTDATA" OA (.ref de)) :
    Con l Z [] [] false (⟨"java/util/ArrayList", "<init>", "()V"⟩ : MethodName) jdk_38_method_2_code 1 none R3 #[.ref a] h0 (rU fun h => Keep h0 h [a] ∧ ALs Z h a (.int 0) (.ref de) v3) := by
  refine body (ls := #[.val (.ref a)]) (plainFor_of_name pn_0) (fun m => by first | (simp [entryFrame, mkF, argsToLocals, Value.category]; done) | rfl) fun K ok => ?_
  refine r_aloadN (pc' := 1) ok rfl d7_0 rfl rfl ?_
  refine r_special (pc' := 4) ok rfl d7_1 rfl (hw _ (List.mem_of_getElem? (i := 6) rfl)) (hw _ (List.mem_of_getElem? (i := 7) rfl)) (hw _ (List.mem_of_getElem? (i := 11) rfl)) (by decide) pd_0 (Con.pay (W := 0) (rmAbL l Z a0 hw a v1 v2 v3 h0 A g) EW.nil (hw _ (List.mem_of_getElem? (i := 11) rfl)) (hw _ (List.mem_of_getElem? (i := 10) rfl)) (by decide) (by decide)) (fun q => nomatch q) (Or.inl rfl) rfl (argsL := []) (rest := []) rfl rfl rfl (Nat.le_of_ble_eq_true rfl) (by decide) (by decide) (cU fun h1 q1 le1 => ?_)
  obtain ⟨K1, E1, Fm, Fe, Fs⟩ := q1
  refine r_aloadN (pc' := 5) ok rfl d7_4 rfl rfl ?_
  refine r_getstatic (pc' := 8) ok rfl d7_5 (hw _ (List.mem_of_getElem? (i := 23) rfl)) Via.refl SD ?_
  refine r_putfield (pc' := 11) (host := "") ok rfl d7_8 (Or.inl (hw _ (List.mem_of_getElem? (i := 24) rfl))) Via.refl (Or.inl (hw _ (List.mem_of_getElem? (i := 25) rfl))) (hw _ (List.mem_of_getElem? (i := 1) rfl)) Fe E1 g (ty := (.array (.object "java/lang/Object"))) (by decide) rfl rfl ?_
  intro h2 W2 F2 E2
  replace Fm := Fm.other W2 (Or.inr (slot_ne (Or.inl (hw _ (List.mem_of_getElem? (i := 22) rfl))) (Or.inl (hw _ (List.mem_of_getElem? (i := 25) rfl))) (by decide) (t := .int) (t' := (.array (.object "java/lang/Object"))) (by decide) (by decide)))
  replace Fs := Fs.other W2 (Or.inr (slot_ne (Or.inl (hw _ (List.mem_of_getElem? (i := 52) rfl))) (Or.inl (hw _ (List.mem_of_getElem? (i := 25) rfl))) (by decide) (t := .int) (t' := (.array (.object "java/lang/Object"))) (by decide) (by decide)))
  refine r_return ok d7_11 ?_ (by decide) (by decide)
  exact ⟨K1.wr W2 (Or.inl (List.mem_singleton.mpr rfl)), E2, Fm, F2, Fs⟩
theorem d8_0 : decode jdk_29_method_65_code 0 = .ok (.iload_n 0, 1) := by decide +kernel
theorem d8_1 : decode jdk_29_method_65_code 1 = .ok (.iload_n 1, 1) := by decide +kernel
theorem d8_2 : decode jdk_29_method_65_code 2 = .ok (.if_icmp .lt 7, 3) := by decide +kernel
theorem d8_5 : decode jdk_29_method_65_code 5 = .ok (.iload_n 0, 1) := by decide +kernel
theorem d8_6 : decode jdk_29_method_65_code 6 = .ok (.goto 4, 3) := by decide +kernel
theorem d8_9 : decode jdk_29_method_65_code 9 = .ok (.iload_n 1, 1) := by decide +kernel
theorem d8_10 : decode jdk_29_method_65_code 10 = .ok (.ireturn, 1) := by decide +kernel
set_option maxRecDepth 65536 in
theorem rmMax (l : Launch) (Z : State) (a0 : Array Value) (hw : ∀ d ∈ tables_1, d.before a0 Z = true) (p q : Int32) (h0 : Heap) : Con l Z [] [] false (⟨"java/lang/Math", "max", "(II)I"⟩ : MethodName) jdk_29_method_65_code 2 (some .int) RZ #[.int p, .int q] h0 (rV fun v h => v = .int (if p < q then q else p) ∧ h0 = h) := by
  refine body (ls := #[.val (.int p), .val (.int q)]) (by decide +kernel) (fun m => by first | (simp [entryFrame, mkF, argsToLocals, Value.category]; done) | rfl) fun K ok => ?_
  refine r_iloadN (pc' := 1) ok rfl d8_0 rfl ?_
  refine r_iloadN (pc' := 2) ok rfl d8_1 rfl ?_
  refine r_icmp_lt (pc' := 5) (pcY := 9) ok rfl d8_2 (by decide) (by decide) ?_ ?_
  · intro hc
    refine r_iloadN (pc' := 10) ok rfl d8_9 rfl ?_
    refine r_ireturn ok d8_10 rfl (by simp) (by decide) (by decide) ?_
    exact ⟨by rw [if_pos hc], rfl⟩
  intro hc
  refine r_iloadN (pc' := 6) ok rfl d8_5 rfl ?_
  refine r_goto (pc' := 10) ok d8_6 (by decide) (by decide) ?_
  refine r_ireturn ok d8_10 rfl (by simp) (by decide) (by decide) ?_
  exact ⟨by rw [if_neg hc], rfl⟩
theorem d9_0 : decode jdk_29_method_69_code 0 = .ok (.iload_n 0, 1) := by decide +kernel
theorem d9_1 : decode jdk_29_method_69_code 1 = .ok (.iload_n 1, 1) := by decide +kernel
theorem d9_2 : decode jdk_29_method_69_code 2 = .ok (.if_icmp .gt 7, 3) := by decide +kernel
theorem d9_5 : decode jdk_29_method_69_code 5 = .ok (.iload_n 0, 1) := by decide +kernel
theorem d9_6 : decode jdk_29_method_69_code 6 = .ok (.goto 4, 3) := by decide +kernel
theorem d9_9 : decode jdk_29_method_69_code 9 = .ok (.iload_n 1, 1) := by decide +kernel
theorem d9_10 : decode jdk_29_method_69_code 10 = .ok (.ireturn, 1) := by decide +kernel
set_option maxRecDepth 65536 in
theorem rmMin (l : Launch) (Z : State) (a0 : Array Value) (hw : ∀ d ∈ tables_1, d.before a0 Z = true) (p q : Int32) (h0 : Heap) : Con l Z [] [] false (⟨"java/lang/Math", "min", "(II)I"⟩ : MethodName) jdk_29_method_69_code 2 (some .int) RZ #[.int p, .int q] h0 (rV fun v h => v = .int (if q < p then q else p) ∧ h0 = h) := by
  refine body (ls := #[.val (.int p), .val (.int q)]) (by decide +kernel) (fun m => by first | (simp [entryFrame, mkF, argsToLocals, Value.category]; done) | rfl) fun K ok => ?_
  refine r_iloadN (pc' := 1) ok rfl d9_0 rfl ?_
  refine r_iloadN (pc' := 2) ok rfl d9_1 rfl ?_
  refine r_icmp_gt (pc' := 5) (pcY := 9) ok rfl d9_2 (by decide) (by decide) ?_ ?_
  · intro hc
    refine r_iloadN (pc' := 10) ok rfl d9_9 rfl ?_
    refine r_ireturn ok d9_10 rfl (by simp) (by decide) (by decide) ?_
    exact ⟨by rw [if_pos hc], rfl⟩
  intro hc
  refine r_iloadN (pc' := 6) ok rfl d9_5 rfl ?_
  refine r_goto (pc' := 10) ok d9_6 (by decide) (by decide) ?_
  refine r_ireturn ok d9_10 rfl (by simp) (by decide) (by decide) ?_
  exact ⟨by rw [if_neg hc], rfl⟩
theorem d10_0 : decode jdk_38_method_6_code 0 = .ok (.aload_n 0, 1) := by decide +kernel
theorem d10_1 : decode jdk_38_method_6_code 1 = .ok (.getfield 9, 3) := by decide +kernel
theorem d10_4 : decode jdk_38_method_6_code 4 = .ok (.arraylength, 1) := by decide +kernel
theorem d10_5 : decode jdk_38_method_6_code 5 = .ok (.istore_n 2, 1) := by decide +kernel
theorem d10_6 : decode jdk_38_method_6_code 6 = .ok (.iload_n 2, 1) := by decide +kernel
theorem d10_7 : decode jdk_38_method_6_code 7 = .ok (.ifCond .gt 13, 3) := by decide +kernel
theorem d10_10 : decode jdk_38_method_6_code 10 = .ok (.aload_n 0, 1) := by decide +kernel
theorem d10_11 : decode jdk_38_method_6_code 11 = .ok (.getfield 9, 3) := by decide +kernel
theorem d10_14 : decode jdk_38_method_6_code 14 = .ok (.getstatic 39, 3) := by decide +kernel
theorem d10_17 : decode jdk_38_method_6_code 17 = .ok (.if_acmp .eq 28, 3) := by decide +kernel
theorem d10_45 : decode jdk_38_method_6_code 45 = .ok (.aload_n 0, 1) := by decide +kernel
theorem d10_46 : decode jdk_38_method_6_code 46 = .ok (.bipush 10, 2) := by decide +kernel
theorem d10_48 : decode jdk_38_method_6_code 48 = .ok (.iload_n 1, 1) := by decide +kernel
theorem d10_49 : decode jdk_38_method_6_code 49 = .ok (.invokestatic 79, 3) := by decide +kernel
theorem d10_52 : decode jdk_38_method_6_code 52 = .ok (.anewarray 7, 3) := by decide +kernel
theorem d10_55 : decode jdk_38_method_6_code 55 = .ok (.dup_x1, 1) := by decide +kernel
theorem d10_56 : decode jdk_38_method_6_code 56 = .ok (.putfield 9, 3) := by decide +kernel
theorem d10_59 : decode jdk_38_method_6_code 59 = .ok (.areturn, 1) := by decide +kernel
abbrev RG : Room := { frames := 1, cells := 1, slots := 10, locals := 24 }
set_option maxRecDepth 65536 in
theorem rmGr (l : Launch) (Z : State) (a0 : Array Value) (hw : ∀ d ∈ tables_1, d.before a0 Z = true) (a de : Addr) (kd : ClassId) (dd : Value) (v1 v3 : Value) (h0 : Heap) (A : ALs Z h0 a v1 (.ref de) v3) (g : Z.heap.size ≤ a) (SD : Sta Z Z.heap AL "DEFAULTCAPACITY_EMPTY_ELEMENTDATA" OA (.ref de)) (D : Arv Z Z.heap de kd (.object "java/lang/Object") 0 [] dd) :
    Con l Z [] [] false (⟨"java/util/ArrayList", "grow", "(I)[Ljava/lang/Object;"⟩ : MethodName) jdk_38_method_6_code 4 (some (.array (.object "java/lang/Object"))) RG #[.ref a, .int 1] h0 (rV fun x h => ∃ (b : Addr) (kb : ClassId), x = .ref b ∧ b = h0.size ∧ Z.heap.size ≤ b ∧ Ovr Z kb "java/lang/Object" ∧ Keep h0 h [a] ∧ ALs Z h a v1 (.ref b) v3 ∧ Arv Z h b kb (.object "java/lang/Object") 10 [] .null ∧ Exa Z h b OA) := by
  obtain ⟨E, Fm, Fe, Fs⟩ := A
  refine body (ls := #[.val (.ref a), .val (.int 1), .unset, .unset]) (plainFor_of_name pn_0) (fun m => by first | (simp [entryFrame, mkF, argsToLocals, Value.category]; done) | rfl) fun K ok => ?_
  refine r_old fun X0 => ?_
  replace D := D.ext X0
  refine r_aloadN (pc' := 1) ok rfl d10_0 rfl rfl ?_
  refine r_getfield (pc' := 4) (host := "") ok rfl d10_1 (Or.inl (hw _ (List.mem_of_getElem? (i := 24) rfl))) Via.refl Fe ?_
  refine r_arraylength (pc' := 5) ok rfl d10_4 D ?_
  refine r_istoreN (pc' := 6) (ls' := fun z => #[.val (.ref a), .val (.int 1), .val (.int z), .unset]) ok rfl d10_5 (fun _ => rfl) ?_
  intro v5 ev5
  refine r_iloadN (pc' := 7) ok rfl d10_6 rfl ?_
  refine r_if_gt (pc' := 10) (pcY := 20) ok rfl d10_7 (by decide) (by decide) ?_ ?_
  · intro hc
    exact absurd hc (by rw [ev5]; decide)
  intro _
  refine r_aloadN (pc' := 11) ok rfl d10_10 rfl rfl ?_
  refine r_getfield (pc' := 14) (host := "") ok rfl d10_11 (Or.inl (hw _ (List.mem_of_getElem? (i := 24) rfl))) Via.refl Fe ?_
  refine r_getstatic (pc' := 17) ok rfl d10_14 (hw _ (List.mem_of_getElem? (i := 23) rfl)) Via.refl SD ?_
  refine r_acmp (pc' := 45) (same := true) ok rfl rfl d10_17 (by simp) (by decide) (by decide) ?_
  refine r_aloadN (pc' := 46) ok rfl d10_45 rfl rfl ?_
  refine r_bipushV (pc' := 48) ok rfl (10 : Int32) d10_46 rfl ?_
  refine r_iloadN (pc' := 49) ok rfl d10_48 rfl ?_
  refine r_static (pc' := 52) ok rfl d10_49 (hw _ (List.mem_of_getElem? (i := 68) rfl)) (hw _ (List.mem_of_getElem? (i := 69) rfl)) (hw _ (List.mem_of_getElem? (i := 70) rfl)) (hw _ (List.mem_of_getElem? (i := 71) rfl)) (by decide) pd_6 (Con.pay (W := 1) (rmMax l Z a0 hw 10 1 h0) EW.nil (hw _ (List.mem_of_getElem? (i := 71) rfl)) (hw _ (List.mem_of_getElem? (i := 70) rfl)) (by decide) (by decide)) (fun q => nomatch q) (Or.inl rfl) rfl (argsL := [.int _, (.int 1)]) (rest := [(.ref a)]) rfl rfl rfl (Nat.le_of_ble_eq_true rfl) (by decide) (by decide) (cV fun x1 h1 q1 le1 => ?_)
  obtain ⟨rfl, rfl⟩ := q1
  rw [show (if (10 : Int32) < 1 then (1 : Int32) else 10) = 10 from rfl]
  refine r_anewarrayE (pc' := 55) ok rfl (10) "[Ljava/lang/Object;" (by decide +kernel) d10_52 (hw _ (List.mem_of_getElem? (i := 72) rfl)) (hw _ (List.mem_of_getElem? (i := 73) rfl)) (by decide) (by decide) (by decide) (by decide) (by decide) ?_
  intro h2 b2 k2 g2 z2 E2 O2 V2 X2
  refine r_dup_x1 (pc' := 56) ok rfl d10_55 rfl rfl ?_
  refine r_putfield (pc' := 59) (host := "") ok rfl d10_56 (Or.inl (hw _ (List.mem_of_getElem? (i := 24) rfl))) Via.refl (Or.inl (hw _ (List.mem_of_getElem? (i := 25) rfl))) (hw _ (List.mem_of_getElem? (i := 1) rfl)) (Fe.ext E2) (E.ext E2) g (ty := (.array (.object "java/lang/Object"))) (by decide) rfl rfl ?_
  intro h3 W3 F3 E3
  replace Fm := Fm.ext E2
  replace Fs := Fs.ext E2
  replace Fm := Fm.other W3 (Or.inr (slot_ne (Or.inl (hw _ (List.mem_of_getElem? (i := 22) rfl))) (Or.inl (hw _ (List.mem_of_getElem? (i := 25) rfl))) (by decide) (t := .int) (t' := (.array (.object "java/lang/Object"))) (by decide) (by decide)))
  replace Fs := Fs.other W3 (Or.inr (slot_ne (Or.inl (hw _ (List.mem_of_getElem? (i := 52) rfl))) (Or.inl (hw _ (List.mem_of_getElem? (i := 25) rfl))) (by decide) (t := .int) (t' := (.array (.object "java/lang/Object"))) (by decide) (by decide)))
  refine r_areturn ok d10_59 rfl rfl rfl (by decide) (by decide) ?_
  exact ⟨b2, k2, rfl, g2, z2, O2, ((Keep.refl h0 [a]).ext E2).wr W3 (Or.inl (List.mem_singleton.mpr rfl)), ⟨E3, Fm, F3, Fs⟩, V2.other W3 (own_ne E.lt g2).symm, X2.wr W3⟩
theorem d11_0 : decode jdk_38_method_7_code 0 = .ok (.aload_n 0, 1) := by decide +kernel
theorem d11_1 : decode jdk_38_method_7_code 1 = .ok (.aload_n 0, 1) := by decide +kernel
theorem d11_2 : decode jdk_38_method_7_code 2 = .ok (.getfield 48, 3) := by decide +kernel
theorem d11_5 : decode jdk_38_method_7_code 5 = .ok (.iconst 1, 1) := by decide +kernel
theorem d11_6 : decode jdk_38_method_7_code 6 = .ok (.iadd, 1) := by decide +kernel
theorem d11_7 : decode jdk_38_method_7_code 7 = .ok (.invokevirtual 69, 3) := by decide +kernel
theorem d11_10 : decode jdk_38_method_7_code 10 = .ok (.areturn, 1) := by decide +kernel
abbrev RG0 : Room := { frames := 2, cells := 1, slots := 10, locals := 50 }
set_option maxRecDepth 65536 in
theorem rmGr0 (l : Launch) (Z : State) (a0 : Array Value) (hw : ∀ d ∈ tables_1, d.before a0 Z = true) (a de : Addr) (kd : ClassId) (dd : Value) (v1 : Value) (h0 : Heap) (A : ALs Z h0 a v1 (.ref de) (.int 0)) (g : Z.heap.size ≤ a) (SD : Sta Z Z.heap AL "DEFAULTCAPACITY_EMPTY_ELEMENTDATA" OA (.ref de)) (D : Arv Z Z.heap de kd (.object "java/lang/Object") 0 [] dd) :
    Con l Z [] [] false (⟨"java/util/ArrayList", "grow", "()[Ljava/lang/Object;"⟩ : MethodName) jdk_38_method_7_code 1 (some (.array (.object "java/lang/Object"))) RG0 #[.ref a] h0 (rV fun x h => ∃ (b : Addr) (kb : ClassId), x = .ref b ∧ b = h0.size ∧ Z.heap.size ≤ b ∧ Ovr Z kb "java/lang/Object" ∧ Keep h0 h [a] ∧ ALs Z h a v1 (.ref b) (.int 0) ∧ Arv Z h b kb (.object "java/lang/Object") 10 [] .null ∧ Exa Z h b OA) := by
  refine body (ls := #[.val (.ref a)]) (plainFor_of_name pn_0) (fun m => by first | (simp [entryFrame, mkF, argsToLocals, Value.category]; done) | rfl) fun K ok => ?_
  refine r_aloadN (pc' := 1) ok rfl d11_0 rfl rfl ?_
  refine r_aloadN (pc' := 2) ok rfl d11_1 rfl rfl ?_
  refine r_getfield (pc' := 5) (host := "") ok rfl d11_2 (Or.inl (hw _ (List.mem_of_getElem? (i := 51) rfl))) Via.refl A.2.2.2 ?_
  refine r_iconstV (pc' := 6) ok rfl (1 : Int32) d11_5 rfl ?_
  refine r_iadd (pc' := 7) ok rfl d11_6 ?_
  rw [show (0 : Int32) + 1 = 1 from rfl]
  refine r_private (pc' := 10) ok rfl d11_7 (hw _ (List.mem_of_getElem? (i := 63) rfl)) (hw _ (List.mem_of_getElem? (i := 64) rfl)) (hw _ (List.mem_of_getElem? (i := 66) rfl)) (hw _ (List.mem_of_getElem? (i := 65) rfl)) (hw _ (List.mem_of_getElem? (i := 67) rfl)) A.1 (by decide) pd_5 (Con.pay (W := 0) (rmGr l Z a0 hw a de kd dd v1 (.int 0) h0 A g SD D) EW.nil (hw _ (List.mem_of_getElem? (i := 67) rfl)) (hw _ (List.mem_of_getElem? (i := 2) rfl)) (by decide) (by decide)) (fun q => nomatch q) (Or.inl rfl) rfl (argsL := [.int _]) (rest := []) rfl rfl rfl (Nat.le_of_ble_eq_true rfl) (by decide) (by decide) (cV fun x1 h1 q1 le1 => ?_)
  obtain ⟨b, kb, rfl, r⟩ := q1
  refine r_areturn ok d11_10 rfl rfl rfl (by decide) (by decide) ?_
  exact ⟨b, kb, rfl, r⟩
theorem d12_0 : decode jdk_38_method_24_code 0 = .ok (.iload_n 3, 1) := by decide +kernel
theorem d12_1 : decode jdk_38_method_24_code 1 = .ok (.aload_n 2, 1) := by decide +kernel
theorem d12_2 : decode jdk_38_method_24_code 2 = .ok (.arraylength, 1) := by decide +kernel
theorem d12_3 : decode jdk_38_method_24_code 3 = .ok (.if_icmp .ne 8, 3) := by decide +kernel
theorem d12_6 : decode jdk_38_method_24_code 6 = .ok (.aload_n 0, 1) := by decide +kernel
theorem d12_7 : decode jdk_38_method_24_code 7 = .ok (.invokevirtual 129, 3) := by decide +kernel
theorem d12_10 : decode jdk_38_method_24_code 10 = .ok (.astore_n 2, 1) := by decide +kernel
theorem d12_11 : decode jdk_38_method_24_code 11 = .ok (.aload_n 2, 1) := by decide +kernel
theorem d12_12 : decode jdk_38_method_24_code 12 = .ok (.iload_n 3, 1) := by decide +kernel
theorem d12_13 : decode jdk_38_method_24_code 13 = .ok (.aload_n 1, 1) := by decide +kernel
theorem d12_14 : decode jdk_38_method_24_code 14 = .ok (.aastore, 1) := by decide +kernel
theorem d12_15 : decode jdk_38_method_24_code 15 = .ok (.aload_n 0, 1) := by decide +kernel
theorem d12_16 : decode jdk_38_method_24_code 16 = .ok (.iload_n 3, 1) := by decide +kernel
theorem d12_17 : decode jdk_38_method_24_code 17 = .ok (.iconst 1, 1) := by decide +kernel
theorem d12_18 : decode jdk_38_method_24_code 18 = .ok (.iadd, 1) := by decide +kernel
theorem d12_19 : decode jdk_38_method_24_code 19 = .ok (.putfield 48, 3) := by decide +kernel
theorem d12_22 : decode jdk_38_method_24_code 22 = .ok (.return_, 1) := by decide +kernel
abbrev RG3 : Room := { frames := 3, cells := 1, slots := 10, locals := 80 }
set_option maxRecDepth 65536 in
theorem rmAdd3 (l : Launch) (Z : State) (a0 : Array Value) (hw : ∀ d ∈ tables_1, d.before a0 Z = true) (a e de : Addr) (kd : ClassId) (dd : Value) (v1 : Value) (h0 : Heap) (A : ALs Z h0 a v1 (.ref de) (.int 0)) (g : Z.heap.size ≤ a) (SD : Sta Z Z.heap AL "DEFAULTCAPACITY_EMPTY_ELEMENTDATA" OA (.ref de)) (D : Arv Z Z.heap de kd (.object "java/lang/Object") 0 [] dd) (Ee : Exa Z h0 e TK) :
    Con l Z [] [] false (⟨"java/util/ArrayList", "add", "(Ljava/lang/Object;[Ljava/lang/Object;I)V"⟩ : MethodName) jdk_38_method_24_code 4 none RG3 #[.ref a, .ref e, .ref de, .int 0] h0 (rU fun h => ∃ (b : Addr) (kb : ClassId), b = h0.size ∧ Z.heap.size ≤ b ∧ Ovr Z kb "java/lang/Object" ∧ Keep h0 h [a] ∧ ALs Z h a v1 (.ref b) (.int 1) ∧ Arv Z h b kb (.object "java/lang/Object") 10 [.ref e] .null ∧ Exa Z h b OA) := by
  refine body (ls := #[.val (.ref a), .val (.ref e), .val (.ref de), .val (.int 0)]) (plainFor_of_name pn_0) (fun m => by first | (simp [entryFrame, mkF, argsToLocals, Value.category]; done) | rfl) fun K ok => ?_
  refine r_old fun X0 => ?_
  have D' := D.ext X0
  refine r_iloadN (pc' := 1) ok rfl d12_0 rfl ?_
  refine r_aloadN (pc' := 2) ok rfl d12_1 rfl rfl ?_
  refine r_arraylength (pc' := 3) ok rfl d12_2 D' ?_
  refine r_icmp_ne (pc' := 6) (pcY := 11) ok rfl d12_3 (by decide) (by decide) ?_ ?_
  · intro hc
    exact absurd rfl hc
  intro _
  refine r_aloadN (pc' := 7) ok rfl d12_6 rfl rfl ?_
  refine r_private (pc' := 10) ok rfl d12_7 (hw _ (List.mem_of_getElem? (i := 58) rfl)) (hw _ (List.mem_of_getElem? (i := 59) rfl)) (hw _ (List.mem_of_getElem? (i := 61) rfl)) (hw _ (List.mem_of_getElem? (i := 60) rfl)) (hw _ (List.mem_of_getElem? (i := 62) rfl)) A.1 (by decide) pd_4 (Con.pay (W := 0) (rmGr0 l Z a0 hw a de kd dd v1 h0 A g SD D) EW.nil (hw _ (List.mem_of_getElem? (i := 62) rfl)) (hw _ (List.mem_of_getElem? (i := 2) rfl)) (by decide) (by decide)) (fun q => nomatch q) (Or.inl rfl) rfl (argsL := []) (rest := []) rfl rfl rfl (Nat.le_of_ble_eq_true rfl) (by decide) (by decide) (cV fun x1 h1 q1 le1 => ?_)
  obtain ⟨b, kb, rfl, eb, gb, O, K1, ⟨E1, Fm, Fe, Fs⟩, V, Xb⟩ := q1
  replace V := V.pad (vs' := [.null]) (pad_rep [] _ 1)
  have Ie : Ins Z h1 e "java/lang/Object" true := Ins.of_exa (Ee.keep K1) (hw _ (List.mem_of_getElem? (i := 74) rfl))
  have So : Sto Z h1 b (.ref e) := by
    obtain ⟨cl, Ar, q, -⟩ := V
    exact Sto.ofV Ar q O Ie
  have nab : a ≠ b := own_ne A.1.lt eb
  refine r_astoreN (pc' := 11) (ls' := #[.val (.ref a), .val (.ref e), .val (.ref b), .val (.int 0)]) ok rfl d12_10 rfl rfl ?_
  refine r_aloadN (pc' := 12) ok rfl d12_11 rfl rfl ?_
  refine r_iloadN (pc' := 13) ok rfl d12_12 rfl ?_
  refine r_aloadN (pc' := 14) ok rfl d12_13 rfl rfl ?_
  refine r_aastore (pc' := 15) ok rfl 0 d12_14 rfl V So rfl gb (by decide) rfl (by decide) ?_
  intro h2 W2 V2
  refine r_aloadN (pc' := 16) ok rfl d12_15 rfl rfl ?_
  refine r_iloadN (pc' := 17) ok rfl d12_16 rfl ?_
  refine r_iconstV (pc' := 18) ok rfl (1 : Int32) d12_17 rfl ?_
  refine r_iadd (pc' := 19) ok rfl d12_18 ?_
  refine r_putfield (pc' := 22) (host := "") ok rfl d12_19 (Or.inl (hw _ (List.mem_of_getElem? (i := 51) rfl))) Via.refl (Or.inl (hw _ (List.mem_of_getElem? (i := 52) rfl))) (hw _ (List.mem_of_getElem? (i := 1) rfl)) (Fs.other W2 (Or.inl nab)) (E1.wr W2) g (ty := .int) (by decide) rfl rfl ?_
  intro h3 W3 F3 E3
  replace Fm := Fm.other W2 (Or.inl nab)
  replace Fe := Fe.other W2 (Or.inl nab)
  replace Fm := Fm.other W3 (Or.inr (slot_ne (Or.inl (hw _ (List.mem_of_getElem? (i := 22) rfl))) (Or.inl (hw _ (List.mem_of_getElem? (i := 52) rfl))) (by decide) (t := .int) (t' := .int) (by decide) (by decide)))
  replace Fe := Fe.other W3 (Or.inr (slot_ne (Or.inl (hw _ (List.mem_of_getElem? (i := 25) rfl))) (Or.inl (hw _ (List.mem_of_getElem? (i := 52) rfl))) (by decide) (t := (.array (.object "java/lang/Object"))) (t' := .int) (by decide) (by decide)))
  refine r_return ok d12_22 ?_ (by decide) (by decide)
  exact ⟨b, kb, eb, gb, O, (K1.wr W2 (Or.inr (Nat.le_of_eq eb.symm))).wr W3 (Or.inl (List.mem_singleton.mpr rfl)), ⟨E3, Fm, Fe, F3⟩, V2.other W3 nab.symm, (Xb.wr W2).wr W3⟩
theorem d13_0 : decode jdk_38_method_25_code 0 = .ok (.aload_n 0, 1) := by decide +kernel
theorem d13_1 : decode jdk_38_method_25_code 1 = .ok (.dup, 1) := by decide +kernel
theorem d13_2 : decode jdk_38_method_25_code 2 = .ok (.getfield 63, 3) := by decide +kernel
theorem d13_5 : decode jdk_38_method_25_code 5 = .ok (.iconst 1, 1) := by decide +kernel
theorem d13_6 : decode jdk_38_method_25_code 6 = .ok (.iadd, 1) := by decide +kernel
theorem d13_7 : decode jdk_38_method_25_code 7 = .ok (.putfield 63, 3) := by decide +kernel
theorem d13_10 : decode jdk_38_method_25_code 10 = .ok (.aload_n 0, 1) := by decide +kernel
theorem d13_11 : decode jdk_38_method_25_code 11 = .ok (.aload_n 1, 1) := by decide +kernel
theorem d13_12 : decode jdk_38_method_25_code 12 = .ok (.aload_n 0, 1) := by decide +kernel
theorem d13_13 : decode jdk_38_method_25_code 13 = .ok (.getfield 9, 3) := by decide +kernel
theorem d13_16 : decode jdk_38_method_25_code 16 = .ok (.aload_n 0, 1) := by decide +kernel
theorem d13_17 : decode jdk_38_method_25_code 17 = .ok (.getfield 48, 3) := by decide +kernel
theorem d13_20 : decode jdk_38_method_25_code 20 = .ok (.invokevirtual 131, 3) := by decide +kernel
theorem d13_23 : decode jdk_38_method_25_code 23 = .ok (.iconst 1, 1) := by decide +kernel
theorem d13_24 : decode jdk_38_method_25_code 24 = .ok (.ireturn, 1) := by decide +kernel
abbrev RG4 : Room := { frames := 4, cells := 1, slots := 10, locals := 110 }
set_option maxRecDepth 65536 in
theorem rmAdd (l : Launch) (Z : State) (a0 : Array Value) (hw : ∀ d ∈ tables_1, d.before a0 Z = true) (a e de : Addr) (kd : ClassId) (dd : Value) (h0 : Heap) (A : ALs Z h0 a (.int 0) (.ref de) (.int 0)) (g : Z.heap.size ≤ a) (SD : Sta Z Z.heap AL "DEFAULTCAPACITY_EMPTY_ELEMENTDATA" OA (.ref de)) (D : Arv Z Z.heap de kd (.object "java/lang/Object") 0 [] dd) (Ee : Exa Z h0 e TK) :
    Con l Z [] [] false (⟨"java/util/ArrayList", "add", "(Ljava/lang/Object;)Z"⟩ : MethodName) jdk_38_method_25_code 2 (some .boolean) RG4 #[.ref a, .ref e] h0 (rV fun x h => (∃ n : Int32, x = .int n) ∧ ∃ (b : Addr) (kb : ClassId), b = h0.size ∧ Z.heap.size ≤ b ∧ Ovr Z kb "java/lang/Object" ∧ Keep h0 h [a] ∧ ALs Z h a (.int 1) (.ref b) (.int 1) ∧ Arv Z h b kb (.object "java/lang/Object") 10 [.ref e] .null ∧ Exa Z h b OA) := by
  obtain ⟨E, Fm, Fe, Fs⟩ := A
  refine body (ls := #[.val (.ref a), .val (.ref e)]) (plainFor_of_name pn_0) (fun m => by first | (simp [entryFrame, mkF, argsToLocals, Value.category]; done) | rfl) fun K ok => ?_
  refine r_aloadN (pc' := 1) ok rfl d13_0 rfl rfl ?_
  refine r_dup (pc' := 2) ok rfl d13_1 rfl ?_
  refine r_getfield (pc' := 5) (host := "") ok rfl d13_2 (Or.inl (hw _ (List.mem_of_getElem? (i := 49) rfl))) (Via.of (hw _ (List.mem_of_getElem? (i := 50) rfl))) Fm ?_
  refine r_iconstV (pc' := 6) ok rfl (1 : Int32) d13_5 rfl ?_
  refine r_iadd (pc' := 7) ok rfl d13_6 ?_
  rw [show (0 : Int32) + 1 = 1 from rfl]
  refine r_putfield (pc' := 10) (host := "") ok rfl d13_7 (Or.inl (hw _ (List.mem_of_getElem? (i := 49) rfl))) (Via.of (hw _ (List.mem_of_getElem? (i := 50) rfl))) (Or.inl (hw _ (List.mem_of_getElem? (i := 22) rfl))) (hw _ (List.mem_of_getElem? (i := 1) rfl)) Fm E g (ty := .int) (by decide) rfl rfl ?_
  intro h1 W1 F1 E1
  replace Fe := Fe.other W1 (Or.inr (slot_ne (Or.inl (hw _ (List.mem_of_getElem? (i := 25) rfl))) (Or.inl (hw _ (List.mem_of_getElem? (i := 22) rfl))) (by decide) (t := (.array (.object "java/lang/Object"))) (t' := .int) (by decide) (by decide)))
  replace Fs := Fs.other W1 (Or.inr (slot_ne (Or.inl (hw _ (List.mem_of_getElem? (i := 52) rfl))) (Or.inl (hw _ (List.mem_of_getElem? (i := 22) rfl))) (by decide) (t := .int) (t' := .int) (by decide) (by decide)))
  refine r_aloadN (pc' := 11) ok rfl d13_10 rfl rfl ?_
  refine r_aloadN (pc' := 12) ok rfl d13_11 rfl rfl ?_
  refine r_aloadN (pc' := 13) ok rfl d13_12 rfl rfl ?_
  refine r_getfield (pc' := 16) (host := "") ok rfl d13_13 (Or.inl (hw _ (List.mem_of_getElem? (i := 24) rfl))) Via.refl Fe ?_
  refine r_aloadN (pc' := 17) ok rfl d13_16 rfl rfl ?_
  refine r_getfield (pc' := 20) (host := "") ok rfl d13_17 (Or.inl (hw _ (List.mem_of_getElem? (i := 51) rfl))) Via.refl Fs ?_
  refine r_private (pc' := 23) ok rfl d13_20 (hw _ (List.mem_of_getElem? (i := 53) rfl)) (hw _ (List.mem_of_getElem? (i := 54) rfl)) (hw _ (List.mem_of_getElem? (i := 56) rfl)) (hw _ (List.mem_of_getElem? (i := 55) rfl)) (hw _ (List.mem_of_getElem? (i := 57) rfl)) E1 (by decide) pd_3 (Con.pay (W := 0) (rmAdd3 l Z a0 hw a e de kd dd (.int 1) h1 ⟨E1, F1, Fe, Fs⟩ g SD D (Ee.wr W1)) EW.nil (hw _ (List.mem_of_getElem? (i := 57) rfl)) (hw _ (List.mem_of_getElem? (i := 2) rfl)) (by decide) (by decide)) (fun q => nomatch q) (Or.inl rfl) rfl (argsL := [(.ref e), (.ref de), (.int 0)]) (rest := []) rfl rfl rfl (Nat.le_of_ble_eq_true rfl) (by decide) (by decide) (cU fun h2 q2 le2 => ?_)
  obtain ⟨b, kb, eb, gb, O, K2, A2, V2⟩ := q2
  refine r_iconstV (pc' := 24) ok rfl (1 : Int32) d13_23 rfl ?_
  refine r_ireturn ok d13_24 rfl (by simp) (by decide) (by decide) ?_
  exact ⟨⟨_, rfl⟩, b, kb, eb.trans W1.size, gb, O, (Keep.of_wr W1).trans K2 (fun x hx => Or.inl hx), A2, V2⟩
/-! the record of a task -/
def TKs (Z : State) (h : Heap) (e : Addr) (v1 v2 v3 : Value) : Prop := Exa Z h e TK ∧ Fld Z h e TK "entry" "I" v1 ∧ Fld Z h e TK "lowest" "I" v2 ∧ Fld Z h e TK "highest" "I" v3
theorem d14_0 : decode prog_27_method_1_code 0 = .ok (.aload_n 0, 1) := by decide +kernel
theorem d14_1 : decode prog_27_method_1_code 1 = .ok (.invokespecial 1, 3) := by decide +kernel
theorem d14_4 : decode prog_27_method_1_code 4 = .ok (.aload_n 0, 1) := by decide +kernel
theorem d14_5 : decode prog_27_method_1_code 5 = .ok (.iload_n 1, 1) := by decide +kernel
theorem d14_6 : decode prog_27_method_1_code 6 = .ok (.putfield 7, 3) := by decide +kernel
theorem d14_9 : decode prog_27_method_1_code 9 = .ok (.aload_n 0, 1) := by decide +kernel
theorem d14_10 : decode prog_27_method_1_code 10 = .ok (.iload_n 2, 1) := by decide +kernel
theorem d14_11 : decode prog_27_method_1_code 11 = .ok (.putfield 13, 3) := by decide +kernel
theorem d14_14 : decode prog_27_method_1_code 14 = .ok (.aload_n 0, 1) := by decide +kernel
theorem d14_15 : decode prog_27_method_1_code 15 = .ok (.iload_n 3, 1) := by decide +kernel
theorem d14_16 : decode prog_27_method_1_code 16 = .ok (.putfield 16, 3) := by decide +kernel
theorem d14_19 : decode prog_27_method_1_code 19 = .ok (.return_, 1) := by decide +kernel
set_option maxRecDepth 65536 in
theorem rmTk (l : Launch) (Z : State) (a0 : Array Value) (hw : ∀ d ∈ tables_1, d.before a0 Z = true) (a : Addr) (p q r : Int32) (v1 v2 v3 : Value) (h0 : Heap) (A : TKs Z h0 a v1 v2 v3) (g : Z.heap.size ≤ a) :
    Con l Z [] [] false (⟨"com/example/stackloom/stackloom/model/KernelLayout$Task", "<init>", "(III)V"⟩ : MethodName) prog_27_method_1_code 4 none R2 #[.ref a, .int p, .int q, .int r] h0 (rU fun h => Keep h0 h [a] ∧ TKs Z h a (.int p) (.int q) (.int r)) := by
  obtain ⟨E, F1, F2, F3⟩ := A
  refine body (ls := #[.val (.ref a), .val (.int p), .val (.int q), .val (.int r)]) (plainFor_of_name pn_3) (fun m => by first | (simp [entryFrame, mkF, argsToLocals, Value.category]; done) | rfl) fun K ok => ?_
  refine r_aloadN (pc' := 1) ok rfl d14_0 rfl rfl ?_
  refine r_special (pc' := 4) ok rfl d14_1 rfl (hw _ (List.mem_of_getElem? (i := 32) rfl)) (hw _ (List.mem_of_getElem? (i := 33) rfl)) (hw _ (List.mem_of_getElem? (i := 36) rfl)) (by decide) pd_0 (Con.pay (W := 0) (rmRec l Z a0 hw a h0) EW.nil (hw _ (List.mem_of_getElem? (i := 36) rfl)) (hw _ (List.mem_of_getElem? (i := 35) rfl)) (by decide) (by decide)) (fun q => nomatch q) (Or.inl rfl) rfl (argsL := []) (rest := []) rfl rfl rfl (Nat.le_of_ble_eq_true rfl) (by decide) (by decide) (cU fun h1 q1 le1 => ?_)
  subst q1
  refine r_aloadN (pc' := 5) ok rfl d14_4 rfl rfl ?_
  refine r_iloadN (pc' := 6) ok rfl d14_5 rfl ?_
  refine r_putfield (pc' := 9) (host := "") ok rfl d14_6 (Or.inl (hw _ (List.mem_of_getElem? (i := 38) rfl))) Via.refl (Or.inr ⟨(hw _ (List.mem_of_getElem? (i := 39) rfl)), rfl, rfl⟩) (hw _ (List.mem_of_getElem? (i := 27) rfl)) F1 E g (ty := .int) (by decide) rfl rfl ?_
  intro h4 W4 F4 E4
  replace F2 := F2.other W4 (Or.inr (slot_ne (Or.inr (hw _ (List.mem_of_getElem? (i := 41) rfl))) (Or.inr (hw _ (List.mem_of_getElem? (i := 39) rfl))) (by decide) (t := .int) (t' := .int) (by decide) (by decide)))
  replace F3 := F3.other W4 (Or.inr (slot_ne (Or.inr (hw _ (List.mem_of_getElem? (i := 43) rfl))) (Or.inr (hw _ (List.mem_of_getElem? (i := 39) rfl))) (by decide) (t := .int) (t' := .int) (by decide) (by decide)))
  refine r_aloadN (pc' := 10) ok rfl d14_9 rfl rfl ?_
  refine r_iloadN (pc' := 11) ok rfl d14_10 rfl ?_
  refine r_putfield (pc' := 14) (host := "") ok rfl d14_11 (Or.inl (hw _ (List.mem_of_getElem? (i := 40) rfl))) Via.refl (Or.inr ⟨(hw _ (List.mem_of_getElem? (i := 41) rfl)), rfl, rfl⟩) (hw _ (List.mem_of_getElem? (i := 27) rfl)) F2 E4 g (ty := .int) (by decide) rfl rfl ?_
  intro h5 W5 F5 E5
  replace F4 := F4.other W5 (Or.inr (slot_ne (Or.inr (hw _ (List.mem_of_getElem? (i := 39) rfl))) (Or.inr (hw _ (List.mem_of_getElem? (i := 41) rfl))) (by decide) (t := .int) (t' := .int) (by decide) (by decide)))
  replace F3 := F3.other W5 (Or.inr (slot_ne (Or.inr (hw _ (List.mem_of_getElem? (i := 43) rfl))) (Or.inr (hw _ (List.mem_of_getElem? (i := 41) rfl))) (by decide) (t := .int) (t' := .int) (by decide) (by decide)))
  refine r_aloadN (pc' := 15) ok rfl d14_14 rfl rfl ?_
  refine r_iloadN (pc' := 16) ok rfl d14_15 rfl ?_
  refine r_putfield (pc' := 19) (host := "") ok rfl d14_16 (Or.inl (hw _ (List.mem_of_getElem? (i := 42) rfl))) Via.refl (Or.inr ⟨(hw _ (List.mem_of_getElem? (i := 43) rfl)), rfl, rfl⟩) (hw _ (List.mem_of_getElem? (i := 27) rfl)) F3 E5 g (ty := .int) (by decide) rfl rfl ?_
  intro h6 W6 F6 E6
  replace F4 := F4.other W6 (Or.inr (slot_ne (Or.inr (hw _ (List.mem_of_getElem? (i := 39) rfl))) (Or.inr (hw _ (List.mem_of_getElem? (i := 43) rfl))) (by decide) (t := .int) (t' := .int) (by decide) (by decide)))
  replace F5 := F5.other W6 (Or.inr (slot_ne (Or.inr (hw _ (List.mem_of_getElem? (i := 41) rfl))) (Or.inr (hw _ (List.mem_of_getElem? (i := 43) rfl))) (by decide) (t := .int) (t' := .int) (by decide) (by decide)))
  refine r_return ok d14_19 ?_ (by decide) (by decide)
  have m : a ∈ [a] := List.mem_singleton.mpr rfl
  exact ⟨(((Keep.refl h0 [a]).wr W4 (Or.inl m)).wr W5 (Or.inl m)).wr W6 (Or.inl m), E6, F4, F5, F6⟩
/-! classes that are no subclass -/
theorem own_root {Z : State} {a0 : Array Value} {O K : String} {n : Nat} (w : (Jvm.Cond.noSuperclass O).before a0 Z = true) (wk : (Jvm.Cond.instantiable K n).before a0 Z = true) (hn : O ≠ K) : NS Z O K := by
  obtain ⟨c, k, h1, h2, h3, -, -⟩ := Cond.noSuperclass_spec w
  obtain ⟨t, kt, g1, -⟩ := Cond.instantiable_spec wk
  have ne := ids_ne h1 g1 hn
  refine ⟨c, t, h1, g1, fun fuel => ?_⟩
  cases fuel with
  | zero => rfl
  | succ f => simp [Vm.isSubclassAux, ne, h2, h3]
theorem own_no {Z : State} {a0 : Array Value} {C S K : String} {n : Nat} (w : (Jvm.Cond.superclass C S).before a0 Z = true) (wk : (Jvm.Cond.instantiable K n).before a0 Z = true) (m : NS Z C K) (hn : C ≠ K) : ∃ c t, Z.vm.findClass C = some c ∧ Z.vm.findClass K = some t ∧ Z.vm.assignable c t = false := by
  obtain ⟨c, t, h0, g0, n3⟩ := m
  obtain ⟨p, k, kp, h1, h2, h3, h4, h5, -, h7⟩ := Cond.superclass_spec h0 w
  obtain ⟨q, k', g1, g2, g5, g7, -⟩ := Cond.instantiable_spec wk
  cases g0.symm.trans g1
  have g8 : k'.isInterface = false := by
    cases hi : k'.isInterface
    · rfl
    · rw [hi] at g7; simp at g7
  have ne := ids_ne h0 g0 hn
  refine ⟨c, t, h0, g0, ?_⟩
  show Z.vm.assignableAux (255 + 1) c t = false
  simp [Vm.assignableAux, ne, h2, g2, h5, g5, g8, Vm.isSubclass, n3]
/-! small ones -/
theorem d15_0 : decode jdk_31_method_10_code 0 = .ok (.aload_n 0, 1) := by decide +kernel
theorem d15_1 : decode jdk_31_method_10_code 1 = .ok (.ifnonnull 11, 3) := by decide +kernel
theorem d15_4 : decode jdk_31_method_10_code 4 = .ok (.new 84, 3) := by decide +kernel
theorem d15_7 : decode jdk_31_method_10_code 7 = .ok (.dup, 1) := by decide +kernel
theorem d15_8 : decode jdk_31_method_10_code 8 = .ok (.invokespecial 86, 3) := by decide +kernel
theorem d15_11 : decode jdk_31_method_10_code 11 = .ok (.athrow, 1) := by decide +kernel
theorem d15_12 : decode jdk_31_method_10_code 12 = .ok (.aload_n 0, 1) := by decide +kernel
theorem d15_13 : decode jdk_31_method_10_code 13 = .ok (.areturn, 1) := by decide +kernel
set_option maxRecDepth 65536 in
theorem rmRnn (l : Launch) (Z : State) (a0 : Array Value) (hw : ∀ d ∈ tables_1, d.before a0 Z = true) (a : Addr) (h0 : Heap) : Con l Z [] [] false (⟨"java/util/Objects", "requireNonNull", "(Ljava/lang/Object;)Ljava/lang/Object;"⟩ : MethodName) jdk_31_method_10_code 1 (some (.object "java/lang/Object")) RZ #[.ref a] h0 (rV fun x h => x = .ref a ∧ h0 = h) := by
  refine body (ls := #[.val (.ref a)]) (plainFor_of_name pn_12) (fun m => by first | (simp [entryFrame, mkF, argsToLocals, Value.category]; done) | rfl) fun K ok => ?_
  refine r_aloadN (pc' := 1) ok rfl d15_0 rfl rfl ?_
  refine r_ifnonnull_ref (pc' := 12) ok d15_1 (by decide) (by decide) ?_
  refine r_aloadN (pc' := 13) ok rfl d15_12 rfl rfl ?_
  refine r_areturn ok d15_13 rfl rfl rfl (by decide) (by decide) ?_
  exact ⟨rfl, rfl⟩
theorem d16_0 : decode jdk_40_method_36_code 0 = .ok (.getstatic 90, 3) := by decide +kernel
theorem d16_3 : decode jdk_40_method_36_code 3 = .ok (.areturn, 1) := by decide +kernel
set_option maxRecDepth 65536 in
theorem rmLo0 (l : Launch) (Z : State) (a0 : Array Value) (hw : ∀ d ∈ tables_1, d.before a0 Z = true) (el : Addr) (h0 : Heap) (SE : Sta Z Z.heap "java/util/ImmutableCollections" "EMPTY_LIST" "Ljava/util/ImmutableCollections$ListN;" (.ref el)) : Con l Z [] [] false (⟨"java/util/List", "of", "()Ljava/util/List;"⟩ : MethodName) jdk_40_method_36_code 0 (some (.object "java/util/List")) RZ #[] h0 (rV fun x h => x = .ref el ∧ h0 = h) := by
  refine body (ls := #[]) (plainFor_of_name pn_6) (fun m => by first | (simp [entryFrame, mkF, argsToLocals, Value.category]; done) | rfl) fun K ok => ?_
  refine r_getstatic (pc' := 3) ok rfl d16_0 (hw _ (List.mem_of_getElem? (i := 85) rfl)) Via.refl SE ?_
  refine r_areturn ok d16_3 rfl rfl rfl (by decide) (by decide) ?_
  exact ⟨rfl, rfl⟩
theorem d17_0 : decode jdk_38_method_9_code 0 = .ok (.aload_n 0, 1) := by decide +kernel
theorem d17_1 : decode jdk_38_method_9_code 1 = .ok (.getfield 48, 3) := by decide +kernel
theorem d17_4 : decode jdk_38_method_9_code 4 = .ok (.ifCond .ne 7, 3) := by decide +kernel
theorem d17_7 : decode jdk_38_method_9_code 7 = .ok (.iconst 1, 1) := by decide +kernel
theorem d17_8 : decode jdk_38_method_9_code 8 = .ok (.goto 4, 3) := by decide +kernel
theorem d17_11 : decode jdk_38_method_9_code 11 = .ok (.iconst 0, 1) := by decide +kernel
theorem d17_12 : decode jdk_38_method_9_code 12 = .ok (.ireturn, 1) := by decide +kernel
set_option maxRecDepth 65536 in
theorem rmAlE (l : Launch) (Z : State) (a0 : Array Value) (hw : ∀ d ∈ tables_1, d.before a0 Z = true) (a : Addr) (v1 v2 : Value) (h0 : Heap) (A : ALs Z h0 a v1 v2 (.int 1)) : Con l Z [] [] false (⟨"java/util/ArrayList", "isEmpty", "()Z"⟩ : MethodName) jdk_38_method_9_code 1 (some .boolean) RZ #[.ref a] h0 (rV fun x h => x = .int 0 ∧ h0 = h) := by
  refine body (ls := #[.val (.ref a)]) (plainFor_of_name pn_0) (fun m => by first | (simp [entryFrame, mkF, argsToLocals, Value.category]; done) | rfl) fun K ok => ?_
  refine r_aloadN (pc' := 1) ok rfl d17_0 rfl rfl ?_
  refine r_getfield (pc' := 4) (host := "") ok rfl d17_1 (Or.inl (hw _ (List.mem_of_getElem? (i := 51) rfl))) Via.refl A.2.2.2 ?_
  refine r_if_ne (pc' := 7) (pcY := 11) ok rfl d17_4 (by decide) (by decide) ?_ ?_
  rotate_left
  · intro hc
    exact absurd hc (by decide)
  intro _
  refine r_iconstV (pc' := 12) ok rfl (0 : Int32) d17_11 rfl ?_
  refine r_ireturn ok d17_12 rfl (by simp) (by decide) (by decide) ?_
  exact ⟨rfl, rfl⟩
theorem d18_0 : decode jdk_92_method_1_code 0 = .ok (.iload_n 0, 1) := by decide +kernel
theorem d18_1 : decode jdk_92_method_1_code 1 = .ok (.bipush 6, 2) := by decide +kernel
theorem d18_3 : decode jdk_92_method_1_code 3 = .ok (.ishr, 1) := by decide +kernel
theorem d18_4 : decode jdk_92_method_1_code 4 = .ok (.ireturn, 1) := by decide +kernel
set_option maxRecDepth 65536 in
theorem rmWI (l : Launch) (Z : State) (a0 : Array Value) (hw : ∀ d ∈ tables_1, d.before a0 Z = true) (p : Int32) (h0 : Heap) : Con l Z [] [] false (⟨"java/util/BitSet", "wordIndex", "(I)I"⟩ : MethodName) jdk_92_method_1_code 1 (some .int) RZ #[.int p] h0 (rV fun x h => x = .int (p >>> ((6 : Int32) &&& 31)) ∧ h0 = h) := by
  refine body (ls := #[.val (.int p)]) (plainFor_of_name pn_17) (fun m => by first | (simp [entryFrame, mkF, argsToLocals, Value.category]; done) | rfl) fun K ok => ?_
  refine r_iloadN (pc' := 1) ok rfl d18_0 rfl ?_
  refine r_bipushV (pc' := 3) ok rfl (6 : Int32) d18_1 rfl ?_
  refine r_ishr (pc' := 4) ok rfl d18_3 ?_
  refine r_ireturn ok d18_4 rfl (by simp) (by decide) (by decide) ?_
  exact ⟨rfl, rfl⟩
/-! Optional -/
def OPs (Z : State) (h : Heap) (a : Addr) (v : Value) : Prop := Exa Z h a OP ∧ Fld Z h a OP "value" LO v
theorem d19_0 : decode jdk_32_method_2_code 0 = .ok (.aload_n 0, 1) := by decide +kernel
theorem d19_1 : decode jdk_32_method_2_code 1 = .ok (.invokespecial 7, 3) := by decide +kernel
theorem d19_4 : decode jdk_32_method_2_code 4 = .ok (.aload_n 0, 1) := by decide +kernel
theorem d19_5 : decode jdk_32_method_2_code 5 = .ok (.aload_n 1, 1) := by decide +kernel
theorem d19_6 : decode jdk_32_method_2_code 6 = .ok (.putfield 13, 3) := by decide +kernel
theorem d19_9 : decode jdk_32_method_2_code 9 = .ok (.return_, 1) := by decide +kernel
set_option maxRecDepth 65536 in
theorem rmOpI (l : Launch) (Z : State) (a0 : Array Value) (hw : ∀ d ∈ tables_1, d.before a0 Z = true) (a b : Addr) (v : Value) (h0 : Heap) (A : OPs Z h0 a v) (g : Z.heap.size ≤ a) : Con l Z [] [] false (⟨"java/util/Optional", "<init>", "(Ljava/lang/Object;)V"⟩ : MethodName) jdk_32_method_2_code 2 none R1 #[.ref a, .ref b] h0 (rU fun h => Keep h0 h [a] ∧ OPs Z h a (.ref b)) := by
  refine body (ls := #[.val (.ref a), .val (.ref b)]) (plainFor_of_name pn_13) (fun m => by first | (simp [entryFrame, mkF, argsToLocals, Value.category]; done) | rfl) fun K ok => ?_
  refine r_aloadN (pc' := 1) ok rfl d19_0 rfl rfl ?_
  refine r_init (pc' := 4) ok rfl d19_1 (hw _ (List.mem_of_getElem? (i := 206) rfl)) (hw _ (List.mem_of_getElem? (i := 19) rfl)) (hw _ (List.mem_of_getElem? (i := 20) rfl)) rfl (by decide) (Nat.le_of_ble_eq_true rfl) ?_
  refine r_aloadN (pc' := 5) ok rfl d19_4 rfl rfl ?_
  refine r_aloadN (pc' := 6) ok rfl d19_5 rfl rfl ?_
  refine r_putfield (pc' := 9) (host := "") ok rfl d19_6 (Or.inl (hw _ (List.mem_of_getElem? (i := 207) rfl))) Via.refl (Or.inr ⟨(hw _ (List.mem_of_getElem? (i := 208) rfl)), rfl, rfl⟩) (hw _ (List.mem_of_getElem? (i := 200) rfl)) A.2 A.1 g (ty := (.object "java/lang/Object")) (by decide) rfl rfl ?_
  intro h2 W2 F2 E2
  refine r_return ok d19_9 ?_ (by decide) (by decide)
  exact ⟨(Keep.refl h0 [a]).wr W2 (Or.inl (List.mem_singleton.mpr rfl)), E2, F2⟩
theorem d20_0 : decode jdk_32_method_3_code 0 = .ok (.new 2, 3) := by decide +kernel
theorem d20_3 : decode jdk_32_method_3_code 3 = .ok (.dup, 1) := by decide +kernel
theorem d20_4 : decode jdk_32_method_3_code 4 = .ok (.aload_n 0, 1) := by decide +kernel
theorem d20_5 : decode jdk_32_method_3_code 5 = .ok (.invokestatic 17, 3) := by decide +kernel
theorem d20_8 : decode jdk_32_method_3_code 8 = .ok (.invokespecial 23, 3) := by decide +kernel
theorem d20_11 : decode jdk_32_method_3_code 11 = .ok (.areturn, 1) := by decide +kernel
abbrev RO : Room := { frames := 2, cells := 1, slots := 1, locals := 40 }
set_option maxRecDepth 65536 in
theorem rmOpOf (l : Launch) (Z : State) (a0 : Array Value) (hw : ∀ d ∈ tables_1, d.before a0 Z = true) (b : Addr) (h0 : Heap) : Con l Z [] [] false (⟨"java/util/Optional", "of", "(Ljava/lang/Object;)Ljava/util/Optional;"⟩ : MethodName) jdk_32_method_3_code 1 (some (.object "java/util/Optional")) RO #[.ref b] h0 (rV fun x h => ∃ a, x = .ref a ∧ h0.size ≤ a ∧ Z.heap.size ≤ a ∧ Keep h0 h [] ∧ OPs Z h a (.ref b)) := by
  refine body (ls := #[.val (.ref b)]) (plainFor_of_name pn_13) (fun m => by first | (simp [entryFrame, mkF, argsToLocals, Value.category]; done) | rfl) fun K ok => ?_
  refine r_new (pc' := 3) ok rfl d20_0 (hw _ (List.mem_of_getElem? (i := 199) rfl)) (hw _ (List.mem_of_getElem? (i := 200) rfl)) (hw _ (List.mem_of_getElem? (i := 197) rfl)) (by decide) (by decide) ?_
  intro h1 b1 g1 z1 E1 A1 D1
  have Fv := D1 (Or.inr (hw _ (List.mem_of_getElem? (i := 208) rfl))) (ty := (.object "java/lang/Object")) (by decide)
  refine r_dup (pc' := 4) ok rfl d20_3 rfl ?_
  refine r_aloadN (pc' := 5) ok rfl d20_4 rfl rfl ?_
  refine r_static (pc' := 8) ok rfl d20_5 (hw _ (List.mem_of_getElem? (i := 201) rfl)) (hw _ (List.mem_of_getElem? (i := 175) rfl)) (hw _ (List.mem_of_getElem? (i := 176) rfl)) (hw _ (List.mem_of_getElem? (i := 177) rfl)) (by decide) pd_18 (Con.pay (W := 2) (rmRnn l Z a0 hw b h1) EW.nil (hw _ (List.mem_of_getElem? (i := 177) rfl)) (hw _ (List.mem_of_getElem? (i := 176) rfl)) (by decide) (by decide)) (fun q => nomatch q) (Or.inl rfl) rfl (argsL := [(.ref b)]) (rest := [(.ref b1), (.ref b1)]) rfl rfl rfl (Nat.le_of_ble_eq_true rfl) (by decide) (by decide) (cV fun x2 h2 q2 le2 => ?_)
  obtain ⟨rfl, rfl⟩ := q2
  refine r_special (pc' := 11) ok rfl d20_8 rfl (hw _ (List.mem_of_getElem? (i := 202) rfl)) (hw _ (List.mem_of_getElem? (i := 203) rfl)) (hw _ (List.mem_of_getElem? (i := 205) rfl)) (by decide) pd_17 (Con.pay (W := 1) (rmOpI l Z a0 hw b1 b _ h1 ⟨A1, Fv⟩ z1) EW.nil (hw _ (List.mem_of_getElem? (i := 205) rfl)) (hw _ (List.mem_of_getElem? (i := 197) rfl)) (by decide) (by decide)) (fun q => nomatch q) (Or.inl rfl) rfl (argsL := [(.ref b)]) (rest := [(.ref b1)]) rfl rfl rfl (Nat.le_of_ble_eq_true rfl) (by decide) (by decide) (cU fun h3 q3 le3 => ?_)
  refine r_areturn ok d20_11 rfl rfl rfl (by decide) (by decide) ?_
  exact ⟨b1, rfl, Nat.le_of_eq g1.symm, z1, ((Keep.refl h0 []).ext E1).trans q3.1 (fun x hx => by cases List.mem_singleton.mp hx; exact Or.inr (Nat.le_of_eq g1.symm)), q3.2⟩
theorem d21_0 : decode jdk_32_method_4_code 0 = .ok (.aload_n 0, 1) := by decide +kernel
theorem d21_1 : decode jdk_32_method_4_code 1 = .ok (.ifnonnull 9, 3) := by decide +kernel
theorem d21_4 : decode jdk_32_method_4_code 4 = .ok (.getstatic 1, 3) := by decide +kernel
theorem d21_7 : decode jdk_32_method_4_code 7 = .ok (.goto 11, 3) := by decide +kernel
theorem d21_10 : decode jdk_32_method_4_code 10 = .ok (.new 2, 3) := by decide +kernel
theorem d21_13 : decode jdk_32_method_4_code 13 = .ok (.dup, 1) := by decide +kernel
theorem d21_14 : decode jdk_32_method_4_code 14 = .ok (.aload_n 0, 1) := by decide +kernel
theorem d21_15 : decode jdk_32_method_4_code 15 = .ok (.invokespecial 23, 3) := by decide +kernel
theorem d21_18 : decode jdk_32_method_4_code 18 = .ok (.areturn, 1) := by decide +kernel
set_option maxRecDepth 65536 in
theorem rmOpN (l : Launch) (Z : State) (a0 : Array Value) (hw : ∀ d ∈ tables_1, d.before a0 Z = true) (b : Addr) (h0 : Heap) : Con l Z [] [] false (⟨"java/util/Optional", "ofNullable", "(Ljava/lang/Object;)Ljava/util/Optional;"⟩ : MethodName) jdk_32_method_4_code 1 (some (.object "java/util/Optional")) RO #[.ref b] h0 (rV fun x h => ∃ a, x = .ref a ∧ h0.size ≤ a ∧ Z.heap.size ≤ a ∧ Keep h0 h [] ∧ OPs Z h a (.ref b)) := by
  refine body (ls := #[.val (.ref b)]) (plainFor_of_name pn_13) (fun m => by first | (simp [entryFrame, mkF, argsToLocals, Value.category]; done) | rfl) fun K ok => ?_
  refine r_aloadN (pc' := 1) ok rfl d21_0 rfl rfl ?_
  refine r_ifnonnull_ref (pc' := 10) ok d21_1 (by decide) (by decide) ?_
  refine r_new (pc' := 13) ok rfl d21_10 (hw _ (List.mem_of_getElem? (i := 199) rfl)) (hw _ (List.mem_of_getElem? (i := 200) rfl)) (hw _ (List.mem_of_getElem? (i := 197) rfl)) (by decide) (by decide) ?_
  intro h1 b1 g1 z1 E1 A1 D1
  have Fv := D1 (Or.inr (hw _ (List.mem_of_getElem? (i := 208) rfl))) (ty := (.object "java/lang/Object")) (by decide)
  refine r_dup (pc' := 14) ok rfl d21_13 rfl ?_
  refine r_aloadN (pc' := 15) ok rfl d21_14 rfl rfl ?_
  refine r_special (pc' := 18) ok rfl d21_15 rfl (hw _ (List.mem_of_getElem? (i := 202) rfl)) (hw _ (List.mem_of_getElem? (i := 203) rfl)) (hw _ (List.mem_of_getElem? (i := 205) rfl)) (by decide) pd_17 (Con.pay (W := 1) (rmOpI l Z a0 hw b1 b _ h1 ⟨A1, Fv⟩ z1) EW.nil (hw _ (List.mem_of_getElem? (i := 205) rfl)) (hw _ (List.mem_of_getElem? (i := 197) rfl)) (by decide) (by decide)) (fun q => nomatch q) (Or.inl rfl) rfl (argsL := [(.ref b)]) (rest := [(.ref b1)]) rfl rfl rfl (Nat.le_of_ble_eq_true rfl) (by decide) (by decide) (cU fun h3 q3 le3 => ?_)
  refine r_areturn ok d21_18 rfl rfl rfl (by decide) (by decide) ?_
  exact ⟨b1, rfl, Nat.le_of_eq g1.symm, z1, ((Keep.refl h0 []).ext E1).trans q3.1 (fun x hx => by cases List.mem_singleton.mp hx; exact Or.inr (Nat.le_of_eq g1.symm)), q3.2⟩
theorem d22_0 : decode jdk_32_method_1_code 0 = .ok (.getstatic 1, 3) := by decide +kernel
theorem d22_3 : decode jdk_32_method_1_code 3 = .ok (.astore_n 0, 1) := by decide +kernel
theorem d22_4 : decode jdk_32_method_1_code 4 = .ok (.aload_n 0, 1) := by decide +kernel
theorem d22_5 : decode jdk_32_method_1_code 5 = .ok (.areturn, 1) := by decide +kernel
set_option maxRecDepth 65536 in
theorem rmOpE (l : Launch) (Z : State) (a0 : Array Value) (hw : ∀ d ∈ tables_1, d.before a0 Z = true) (oe : Addr) (h0 : Heap) (SO : Sta Z Z.heap OP "EMPTY" "Ljava/util/Optional;" (.ref oe)) : Con l Z [] [] false (⟨"java/util/Optional", "empty", "()Ljava/util/Optional;"⟩ : MethodName) jdk_32_method_1_code 1 (some (.object "java/util/Optional")) RZ #[] h0 (rV fun x h => x = .ref oe ∧ h0 = h) := by
  refine body (ls := #[.unset]) (plainFor_of_name pn_13) (fun m => by first | (simp [entryFrame, mkF, argsToLocals, Value.category]; done) | rfl) fun K ok => ?_
  refine r_getstatic (pc' := 3) ok rfl d22_0 (hw _ (List.mem_of_getElem? (i := 452) rfl)) Via.refl SO ?_
  refine r_astoreN (pc' := 4) (ls' := #[.val (.ref oe)]) ok rfl d22_3 rfl rfl ?_
  refine r_aloadN (pc' := 5) ok rfl d22_4 rfl rfl ?_
  refine r_areturn ok d22_5 rfl rfl rfl (by decide) (by decide) ?_
  exact ⟨rfl, rfl⟩
theorem d23_0 : decode jdk_32_method_7_code 0 = .ok (.aload_n 0, 1) := by decide +kernel
theorem d23_1 : decode jdk_32_method_7_code 1 = .ok (.getfield 13, 3) := by decide +kernel
theorem d23_4 : decode jdk_32_method_7_code 4 = .ok (.ifnonnull 7, 3) := by decide +kernel
theorem d23_7 : decode jdk_32_method_7_code 7 = .ok (.iconst 1, 1) := by decide +kernel
theorem d23_8 : decode jdk_32_method_7_code 8 = .ok (.goto 4, 3) := by decide +kernel
theorem d23_11 : decode jdk_32_method_7_code 11 = .ok (.iconst 0, 1) := by decide +kernel
theorem d23_12 : decode jdk_32_method_7_code 12 = .ok (.ireturn, 1) := by decide +kernel
set_option maxRecDepth 65536 in
theorem rmOpIE (l : Launch) (Z : State) (a0 : Array Value) (hw : ∀ d ∈ tables_1, d.before a0 Z = true) (a b : Addr) (h0 : Heap) (A : OPs Z h0 a (.ref b)) : Con l Z [] [] false (⟨"java/util/Optional", "isEmpty", "()Z"⟩ : MethodName) jdk_32_method_7_code 1 (some .boolean) RZ #[.ref a] h0 (rV fun x h => x = .int 0 ∧ h0 = h) := by
  refine body (ls := #[.val (.ref a)]) (plainFor_of_name pn_13) (fun m => by first | (simp [entryFrame, mkF, argsToLocals, Value.category]; done) | rfl) fun K ok => ?_
  refine r_aloadN (pc' := 1) ok rfl d23_0 rfl rfl ?_
  refine r_getfield (pc' := 4) (host := "") ok rfl d23_1 (Or.inl (hw _ (List.mem_of_getElem? (i := 207) rfl))) Via.refl A.2 ?_
  refine r_ifnonnull_ref (pc' := 11) ok d23_4 (by decide) (by decide) ?_
  refine r_iconstV (pc' := 12) ok rfl (0 : Int32) d23_11 rfl ?_
  refine r_ireturn ok d23_12 rfl (by simp) (by decide) (by decide) ?_
  exact ⟨rfl, rfl⟩
set_option maxRecDepth 65536 in
theorem rmOpIEn (l : Launch) (Z : State) (a0 : Array Value) (hw : ∀ d ∈ tables_1, d.before a0 Z = true) (a : Addr) (h0 : Heap) (A : OPs Z h0 a .null) : Con l Z [] [] false (⟨"java/util/Optional", "isEmpty", "()Z"⟩ : MethodName) jdk_32_method_7_code 1 (some .boolean) RZ #[.ref a] h0 (rV fun x h => x = .int 1 ∧ h0 = h) := by
  refine body (ls := #[.val (.ref a)]) (plainFor_of_name pn_13) (fun m => by first | (simp [entryFrame, mkF, argsToLocals, Value.category]; done) | rfl) fun K ok => ?_
  refine r_aloadN (pc' := 1) ok rfl d23_0 rfl rfl ?_
  refine r_getfield (pc' := 4) (host := "") ok rfl d23_1 (Or.inl (hw _ (List.mem_of_getElem? (i := 207) rfl))) Via.refl A.2 ?_
  refine r_ifnonnull_null (pc' := 7) ok rfl d23_4 ?_
  refine r_iconstV (pc' := 8) ok rfl (1 : Int32) d23_7 rfl ?_
  refine r_goto (pc' := 12) ok d23_8 (by decide) (by decide) ?_
  refine r_ireturn ok d23_12 rfl (by simp) (by decide) (by decide) ?_
  exact ⟨rfl, rfl⟩
theorem d24_0 : decode jdk_32_method_6_code 0 = .ok (.aload_n 0, 1) := by decide +kernel
theorem d24_1 : decode jdk_32_method_6_code 1 = .ok (.getfield 13, 3) := by decide +kernel
theorem d24_4 : decode jdk_32_method_6_code 4 = .ok (.ifnull 7, 3) := by decide +kernel
theorem d24_7 : decode jdk_32_method_6_code 7 = .ok (.iconst 1, 1) := by decide +kernel
theorem d24_8 : decode jdk_32_method_6_code 8 = .ok (.goto 4, 3) := by decide +kernel
theorem d24_11 : decode jdk_32_method_6_code 11 = .ok (.iconst 0, 1) := by decide +kernel
theorem d24_12 : decode jdk_32_method_6_code 12 = .ok (.ireturn, 1) := by decide +kernel
set_option maxRecDepth 65536 in
theorem rmOpIP (l : Launch) (Z : State) (a0 : Array Value) (hw : ∀ d ∈ tables_1, d.before a0 Z = true) (a b : Addr) (h0 : Heap) (A : OPs Z h0 a (.ref b)) : Con l Z [] [] false (⟨"java/util/Optional", "isPresent", "()Z"⟩ : MethodName) jdk_32_method_6_code 1 (some .boolean) RZ #[.ref a] h0 (rV fun x h => x = .int 1 ∧ h0 = h) := by
  refine body (ls := #[.val (.ref a)]) (plainFor_of_name pn_13) (fun m => by first | (simp [entryFrame, mkF, argsToLocals, Value.category]; done) | rfl) fun K ok => ?_
  refine r_aloadN (pc' := 1) ok rfl d24_0 rfl rfl ?_
  refine r_getfield (pc' := 4) (host := "") ok rfl d24_1 (Or.inl (hw _ (List.mem_of_getElem? (i := 207) rfl))) Via.refl A.2 ?_
  refine r_ifnull_ref (pc' := 7) ok rfl d24_4 ?_
  refine r_iconstV (pc' := 8) ok rfl (1 : Int32) d24_7 rfl ?_
  refine r_goto (pc' := 12) ok d24_8 (by decide) (by decide) ?_
  refine r_ireturn ok d24_12 rfl (by simp) (by decide) (by decide) ?_
  exact ⟨rfl, rfl⟩
set_option maxRecDepth 65536 in
theorem rmOpIPn (l : Launch) (Z : State) (a0 : Array Value) (hw : ∀ d ∈ tables_1, d.before a0 Z = true) (a : Addr) (h0 : Heap) (A : OPs Z h0 a .null) : Con l Z [] [] false (⟨"java/util/Optional", "isPresent", "()Z"⟩ : MethodName) jdk_32_method_6_code 1 (some .boolean) RZ #[.ref a] h0 (rV fun x h => x = .int 0 ∧ h0 = h) := by
  refine body (ls := #[.val (.ref a)]) (plainFor_of_name pn_13) (fun m => by first | (simp [entryFrame, mkF, argsToLocals, Value.category]; done) | rfl) fun K ok => ?_
  refine r_aloadN (pc' := 1) ok rfl d24_0 rfl rfl ?_
  refine r_getfield (pc' := 4) (host := "") ok rfl d24_1 (Or.inl (hw _ (List.mem_of_getElem? (i := 207) rfl))) Via.refl A.2 ?_
  refine r_ifnull_null (pc' := 11) ok d24_4 (by decide) (by decide) ?_
  refine r_iconstV (pc' := 12) ok rfl (0 : Int32) d24_11 rfl ?_
  refine r_ireturn ok d24_12 rfl (by simp) (by decide) (by decide) ?_
  exact ⟨rfl, rfl⟩
theorem d25_0 : decode jdk_32_method_15_code 0 = .ok (.aload_n 0, 1) := by decide +kernel
theorem d25_1 : decode jdk_32_method_15_code 1 = .ok (.getfield 13, 3) := by decide +kernel
theorem d25_4 : decode jdk_32_method_15_code 4 = .ok (.ifnull 10, 3) := by decide +kernel
theorem d25_7 : decode jdk_32_method_15_code 7 = .ok (.aload_n 0, 1) := by decide +kernel
theorem d25_8 : decode jdk_32_method_15_code 8 = .ok (.getfield 13, 3) := by decide +kernel
theorem d25_11 : decode jdk_32_method_15_code 11 = .ok (.goto 4, 3) := by decide +kernel
theorem d25_14 : decode jdk_32_method_15_code 14 = .ok (.aload_n 1, 1) := by decide +kernel
theorem d25_15 : decode jdk_32_method_15_code 15 = .ok (.areturn, 1) := by decide +kernel
set_option maxRecDepth 65536 in
theorem rmOpOE (l : Launch) (Z : State) (a0 : Array Value) (hw : ∀ d ∈ tables_1, d.before a0 Z = true) (a b c : Addr) (h0 : Heap) (A : OPs Z h0 a (.ref b)) : Con l Z [] [] false (⟨"java/util/Optional", "orElse", "(Ljava/lang/Object;)Ljava/lang/Object;"⟩ : MethodName) jdk_32_method_15_code 2 (some (.object "java/lang/Object")) RZ #[.ref a, .ref c] h0 (rV fun x h => x = .ref b ∧ h0 = h) := by
  refine body (ls := #[.val (.ref a), .val (.ref c)]) (plainFor_of_name pn_13) (fun m => by first | (simp [entryFrame, mkF, argsToLocals, Value.category]; done) | rfl) fun K ok => ?_
  refine r_aloadN (pc' := 1) ok rfl d25_0 rfl rfl ?_
  refine r_getfield (pc' := 4) (host := "") ok rfl d25_1 (Or.inl (hw _ (List.mem_of_getElem? (i := 207) rfl))) Via.refl A.2 ?_
  refine r_ifnull_ref (pc' := 7) ok rfl d25_4 ?_
  refine r_aloadN (pc' := 8) ok rfl d25_7 rfl rfl ?_
  refine r_getfield (pc' := 11) (host := "") ok rfl d25_8 (Or.inl (hw _ (List.mem_of_getElem? (i := 207) rfl))) Via.refl A.2 ?_
  refine r_goto (pc' := 15) ok d25_11 (by decide) (by decide) ?_
  refine r_areturn ok d25_15 rfl rfl rfl (by decide) (by decide) ?_
  exact ⟨rfl, rfl⟩
set_option maxRecDepth 65536 in
theorem rmOpOEn (l : Launch) (Z : State) (a0 : Array Value) (hw : ∀ d ∈ tables_1, d.before a0 Z = true) (a c : Addr) (h0 : Heap) (A : OPs Z h0 a .null) : Con l Z [] [] false (⟨"java/util/Optional", "orElse", "(Ljava/lang/Object;)Ljava/lang/Object;"⟩ : MethodName) jdk_32_method_15_code 2 (some (.object "java/lang/Object")) RZ #[.ref a, .ref c] h0 (rV fun x h => x = .ref c ∧ h0 = h) := by
  refine body (ls := #[.val (.ref a), .val (.ref c)]) (plainFor_of_name pn_13) (fun m => by first | (simp [entryFrame, mkF, argsToLocals, Value.category]; done) | rfl) fun K ok => ?_
  refine r_aloadN (pc' := 1) ok rfl d25_0 rfl rfl ?_
  refine r_getfield (pc' := 4) (host := "") ok rfl d25_1 (Or.inl (hw _ (List.mem_of_getElem? (i := 207) rfl))) Via.refl A.2 ?_
  refine r_ifnull_null (pc' := 14) ok d25_4 (by decide) (by decide) ?_
  refine r_aloadN (pc' := 15) ok rfl d25_14 rfl rfl ?_
  refine r_areturn ok d25_15 rfl rfl rfl (by decide) (by decide) ?_
  exact ⟨rfl, rfl⟩
theorem d26_0 : decode jdk_32_method_17_code 0 = .ok (.aload_n 0, 1) := by decide +kernel
theorem d26_1 : decode jdk_32_method_17_code 1 = .ok (.getfield 13, 3) := by decide +kernel
theorem d26_4 : decode jdk_32_method_17_code 4 = .ok (.ifnonnull 13, 3) := by decide +kernel
theorem d26_7 : decode jdk_32_method_17_code 7 = .ok (.new 26, 3) := by decide +kernel
theorem d26_10 : decode jdk_32_method_17_code 10 = .ok (.dup, 1) := by decide +kernel
theorem d26_11 : decode jdk_32_method_17_code 11 = .ok (.ldc 28, 2) := by decide +kernel
theorem d26_13 : decode jdk_32_method_17_code 13 = .ok (.invokespecial 30, 3) := by decide +kernel
theorem d26_16 : decode jdk_32_method_17_code 16 = .ok (.athrow, 1) := by decide +kernel
theorem d26_17 : decode jdk_32_method_17_code 17 = .ok (.aload_n 0, 1) := by decide +kernel
theorem d26_18 : decode jdk_32_method_17_code 18 = .ok (.getfield 13, 3) := by decide +kernel
theorem d26_21 : decode jdk_32_method_17_code 21 = .ok (.areturn, 1) := by decide +kernel
set_option maxRecDepth 65536 in
theorem rmOpT (l : Launch) (Z : State) (a0 : Array Value) (hw : ∀ d ∈ tables_1, d.before a0 Z = true) (a b : Addr) (h0 : Heap) (A : OPs Z h0 a (.ref b)) : Con l Z [] [] false (⟨"java/util/Optional", "orElseThrow", "()Ljava/lang/Object;"⟩ : MethodName) jdk_32_method_17_code 1 (some (.object "java/lang/Object")) RZ #[.ref a] h0 (rV fun x h => x = .ref b ∧ h0 = h) := by
  refine body (ls := #[.val (.ref a)]) (plainFor_of_name pn_13) (fun m => by first | (simp [entryFrame, mkF, argsToLocals, Value.category]; done) | rfl) fun K ok => ?_
  refine r_aloadN (pc' := 1) ok rfl d26_0 rfl rfl ?_
  refine r_getfield (pc' := 4) (host := "") ok rfl d26_1 (Or.inl (hw _ (List.mem_of_getElem? (i := 207) rfl))) Via.refl A.2 ?_
  refine r_ifnonnull_ref (pc' := 17) ok d26_4 (by decide) (by decide) ?_
  refine r_aloadN (pc' := 18) ok rfl d26_17 rfl rfl ?_
  refine r_getfield (pc' := 21) (host := "") ok rfl d26_18 (Or.inl (hw _ (List.mem_of_getElem? (i := 207) rfl))) Via.refl A.2 ?_
  refine r_areturn ok d26_21 rfl rfl rfl (by decide) (by decide) ?_
  exact ⟨rfl, rfl⟩
/-! List12 -/
def L12s (Z : State) (h : Heap) (a : Addr) (v0 v1 : Value) : Prop := Exa Z h a L12 ∧ Fld Z h a L12 "e0" LO v0 ∧ Fld Z h a L12 "e1" LO v1
abbrev R4 : Room := { frames := 4, cells := 0, slots := 0, locals := 100 }
theorem d27_0 : decode jdk_44_method_1_code 0 = .ok (.aload_n 0, 1) := by decide +kernel
theorem d27_1 : decode jdk_44_method_1_code 1 = .ok (.invokespecial 1, 3) := by decide +kernel
theorem d27_4 : decode jdk_44_method_1_code 4 = .ok (.aload_n 0, 1) := by decide +kernel
theorem d27_5 : decode jdk_44_method_1_code 5 = .ok (.aload_n 1, 1) := by decide +kernel
theorem d27_6 : decode jdk_44_method_1_code 6 = .ok (.invokestatic 7, 3) := by decide +kernel
theorem d27_9 : decode jdk_44_method_1_code 9 = .ok (.putfield 13, 3) := by decide +kernel
theorem d27_12 : decode jdk_44_method_1_code 12 = .ok (.aload_n 0, 1) := by decide +kernel
theorem d27_13 : decode jdk_44_method_1_code 13 = .ok (.getstatic 19, 3) := by decide +kernel
theorem d27_16 : decode jdk_44_method_1_code 16 = .ok (.putfield 24, 3) := by decide +kernel
theorem d27_19 : decode jdk_44_method_1_code 19 = .ok (.return_, 1) := by decide +kernel
set_option maxRecDepth 65536 in
theorem rmL12 (l : Launch) (Z : State) (a0 : Array Value) (hw : ∀ d ∈ tables_1, d.before a0 Z = true) (a e em : Addr) (v0 v1 : Value) (h0 : Heap) (A : L12s Z h0 a v0 v1) (g : Z.heap.size ≤ a) (SM : Sta Z Z.heap "java/util/ImmutableCollections" "EMPTY" LO (.ref em)) :
    Con l Z [] [] false (⟨"java/util/ImmutableCollections$List12", "<init>", "(Ljava/lang/Object;)V"⟩ : MethodName) jdk_44_method_1_code 2 none R4 #[.ref a, .ref e] h0 (rU fun h => Keep h0 h [a] ∧ L12s Z h a (.ref e) (.ref em)) := by
  obtain ⟨E, F0, F1⟩ := A
  refine body (ls := #[.val (.ref a), .val (.ref e)]) (plainFor_of_name pn_9) (fun m => by first | (simp [entryFrame, mkF, argsToLocals, Value.category]; done) | rfl) fun K ok => ?_
  refine r_aloadN (pc' := 1) ok rfl d27_0 rfl rfl ?_
  refine r_special (pc' := 4) ok rfl d27_1 rfl (hw _ (List.mem_of_getElem? (i := 160) rfl)) (hw _ (List.mem_of_getElem? (i := 161) rfl)) (hw _ (List.mem_of_getElem? (i := 165) rfl)) (by decide) pd_0 (Con.pay (W := 0) (rmAIL l Z a0 hw a h0) EW.nil (hw _ (List.mem_of_getElem? (i := 165) rfl)) (hw _ (List.mem_of_getElem? (i := 164) rfl)) (by decide) (by decide)) (fun q => nomatch q) (Or.inl rfl) rfl (argsL := []) (rest := []) rfl rfl rfl (Nat.le_of_ble_eq_true rfl) (by decide) (by decide) (cU fun h1 q1 le1 => ?_)
  subst q1
  refine r_aloadN (pc' := 5) ok rfl d27_4 rfl rfl ?_
  refine r_aloadN (pc' := 6) ok rfl d27_5 rfl rfl ?_
  refine r_static (pc' := 9) ok rfl d27_6 (hw _ (List.mem_of_getElem? (i := 174) rfl)) (hw _ (List.mem_of_getElem? (i := 175) rfl)) (hw _ (List.mem_of_getElem? (i := 176) rfl)) (hw _ (List.mem_of_getElem? (i := 177) rfl)) (by decide) pd_18 (Con.pay (W := 1) (rmRnn l Z a0 hw e h0) EW.nil (hw _ (List.mem_of_getElem? (i := 177) rfl)) (hw _ (List.mem_of_getElem? (i := 176) rfl)) (by decide) (by decide)) (fun q => nomatch q) (Or.inl rfl) rfl (argsL := [(.ref e)]) (rest := [(.ref a)]) rfl rfl rfl (Nat.le_of_ble_eq_true rfl) (by decide) (by decide) (cV fun x2 h2 q2 le2 => ?_)
  obtain ⟨rfl, rfl⟩ := q2
  refine r_putfield (pc' := 12) (host := "") ok rfl d27_9 (Or.inl (hw _ (List.mem_of_getElem? (i := 178) rfl))) Via.refl (Or.inr ⟨(hw _ (List.mem_of_getElem? (i := 179) rfl)), rfl, rfl⟩) (hw _ (List.mem_of_getElem? (i := 154) rfl)) F0 E g (ty := (.object "java/lang/Object")) (by decide) rfl rfl ?_
  intro h3 W3 F3 E3
  replace F1 := F1.other W3 (Or.inr (slot_ne (Or.inr (hw _ (List.mem_of_getElem? (i := 182) rfl))) (Or.inr (hw _ (List.mem_of_getElem? (i := 179) rfl))) (by decide) (t := (.object "java/lang/Object")) (t' := (.object "java/lang/Object")) (by decide) (by decide)))
  refine r_aloadN (pc' := 13) ok rfl d27_12 rfl rfl ?_
  refine r_getstaticN (pc' := 16) ok rfl d27_13 (Or.inr (hw _ (List.mem_of_getElem? (i := 180) rfl))) Via.refl SM ?_
  refine r_putfield (pc' := 19) (host := "") ok rfl d27_16 (Or.inl (hw _ (List.mem_of_getElem? (i := 181) rfl))) Via.refl (Or.inr ⟨(hw _ (List.mem_of_getElem? (i := 182) rfl)), rfl, rfl⟩) (hw _ (List.mem_of_getElem? (i := 154) rfl)) F1 E3 g (ty := (.object "java/lang/Object")) (by decide) rfl rfl ?_
  intro h4 W4 F4 E4
  replace F3 := F3.other W4 (Or.inr (slot_ne (Or.inr (hw _ (List.mem_of_getElem? (i := 179) rfl))) (Or.inr (hw _ (List.mem_of_getElem? (i := 182) rfl))) (by decide) (t := (.object "java/lang/Object")) (t' := (.object "java/lang/Object")) (by decide) (by decide)))
  refine r_return ok d27_19 ?_ (by decide) (by decide)
  have m : a ∈ [a] := List.mem_singleton.mpr rfl
  exact ⟨((Keep.refl h0 [a]).wr W3 (Or.inl m)).wr W4 (Or.inl m), E4, F3, F4⟩
theorem d28_0 : decode jdk_40_method_47_code 0 = .ok (.aload_n 0, 1) := by decide +kernel
theorem d28_1 : decode jdk_40_method_47_code 1 = .ok (.arraylength, 1) := by decide +kernel
theorem d28_2 : decode jdk_40_method_47_code 2 = .ok (.tableswitch 57 0 2 #[26, 32, 43], 26) := by decide +kernel
theorem d28_28 : decode jdk_40_method_47_code 28 = .ok (.getstatic 90, 3) := by decide +kernel
theorem d28_31 : decode jdk_40_method_47_code 31 = .ok (.astore_n 1, 1) := by decide +kernel
theorem d28_32 : decode jdk_40_method_47_code 32 = .ok (.aload_n 1, 1) := by decide +kernel
theorem d28_33 : decode jdk_40_method_47_code 33 = .ok (.areturn, 1) := by decide +kernel
theorem d28_34 : decode jdk_40_method_47_code 34 = .ok (.new 96, 3) := by decide +kernel
theorem d28_37 : decode jdk_40_method_47_code 37 = .ok (.dup, 1) := by decide +kernel
theorem d28_38 : decode jdk_40_method_47_code 38 = .ok (.aload_n 0, 1) := by decide +kernel
theorem d28_39 : decode jdk_40_method_47_code 39 = .ok (.iconst 0, 1) := by decide +kernel
theorem d28_40 : decode jdk_40_method_47_code 40 = .ok (.aaload, 1) := by decide +kernel
theorem d28_41 : decode jdk_40_method_47_code 41 = .ok (.invokespecial 98, 3) := by decide +kernel
theorem d28_44 : decode jdk_40_method_47_code 44 = .ok (.areturn, 1) := by decide +kernel
theorem d28_45 : decode jdk_40_method_47_code 45 = .ok (.new 96, 3) := by decide +kernel
theorem d28_48 : decode jdk_40_method_47_code 48 = .ok (.dup, 1) := by decide +kernel
theorem d28_49 : decode jdk_40_method_47_code 49 = .ok (.aload_n 0, 1) := by decide +kernel
theorem d28_50 : decode jdk_40_method_47_code 50 = .ok (.iconst 0, 1) := by decide +kernel
theorem d28_51 : decode jdk_40_method_47_code 51 = .ok (.aaload, 1) := by decide +kernel
theorem d28_52 : decode jdk_40_method_47_code 52 = .ok (.aload_n 0, 1) := by decide +kernel
theorem d28_53 : decode jdk_40_method_47_code 53 = .ok (.iconst 1, 1) := by decide +kernel
theorem d28_54 : decode jdk_40_method_47_code 54 = .ok (.aaload, 1) := by decide +kernel
theorem d28_55 : decode jdk_40_method_47_code 55 = .ok (.invokespecial 100, 3) := by decide +kernel
theorem d28_58 : decode jdk_40_method_47_code 58 = .ok (.areturn, 1) := by decide +kernel
theorem d28_59 : decode jdk_40_method_47_code 59 = .ok (.aload_n 0, 1) := by decide +kernel
theorem d28_60 : decode jdk_40_method_47_code 60 = .ok (.invokestatic 109, 3) := by decide +kernel
theorem d28_63 : decode jdk_40_method_47_code 63 = .ok (.areturn, 1) := by decide +kernel
abbrev R5 : Room := { frames := 5, cells := 1, slots := 2, locals := 130 }
set_option maxRecDepth 65536 in
theorem rmLoA (l : Launch) (Z : State) (a0 : Array Value) (hw : ∀ d ∈ tables_1, d.before a0 Z = true) (r e em : Addr) (k : ClassId) (dv : Value) (h0 : Heap) (V : Arv Z h0 r k (.object "java/lang/Object") 1 [.ref e] dv) (SM : Sta Z Z.heap "java/util/ImmutableCollections" "EMPTY" LO (.ref em)) :
    Con l Z [] [] false (⟨"java/util/List", "of", "([Ljava/lang/Object;)Ljava/util/List;"⟩ : MethodName) jdk_40_method_47_code 2 (some (.object "java/util/List")) R5 #[.ref r] h0 (rV fun x h => ∃ a, x = .ref a ∧ h0.size ≤ a ∧ Z.heap.size ≤ a ∧ Keep h0 h [] ∧ L12s Z h a (.ref e) (.ref em)) := by
  refine body (ls := #[.val (.ref r), .unset]) (plainFor_of_name pn_6) (fun m => by first | (simp [entryFrame, mkF, argsToLocals, Value.category]; done) | rfl) fun K ok => ?_
  refine r_aloadN (pc' := 1) ok rfl d28_0 rfl rfl ?_
  refine r_arraylength (pc' := 2) ok rfl d28_1 V ?_
  refine r_tsw (pc' := 34) (i := (1 : Int32)) (o := 32) ok d28_2 (by decide) (by decide) (by decide) (by decide) ?_
  refine r_new (pc' := 37) ok rfl d28_34 (hw _ (List.mem_of_getElem? (i := 153) rfl)) (hw _ (List.mem_of_getElem? (i := 154) rfl)) (hw _ (List.mem_of_getElem? (i := 155) rfl)) (by decide) (by decide) ?_
  intro h1 b1 g1 z1 E1 A1 D1
  have F0 := D1 (Or.inr (hw _ (List.mem_of_getElem? (i := 179) rfl))) (ty := (.object "java/lang/Object")) (by decide)
  have F1 := D1 (Or.inr (hw _ (List.mem_of_getElem? (i := 182) rfl))) (ty := (.object "java/lang/Object")) (by decide)
  refine r_dup (pc' := 38) ok rfl d28_37 rfl ?_
  refine r_aloadN (pc' := 39) ok rfl d28_38 rfl rfl ?_
  refine r_iconstV (pc' := 40) ok rfl (0 : Int32) d28_39 rfl ?_
  refine r_aaload (pc' := 41) ok rfl d28_40 rfl (V.ext E1) (by decide) rfl ?_
  refine r_special (pc' := 44) ok rfl d28_41 rfl (hw _ (List.mem_of_getElem? (i := 156) rfl)) (hw _ (List.mem_of_getElem? (i := 157) rfl)) (hw _ (List.mem_of_getElem? (i := 159) rfl)) (by decide) pd_17 (Con.pay (W := 1) (rmL12 l Z a0 hw b1 e em _ _ h1 ⟨A1, F0, F1⟩ z1 SM) EW.nil (hw _ (List.mem_of_getElem? (i := 159) rfl)) (hw _ (List.mem_of_getElem? (i := 155) rfl)) (by decide) (by decide)) (fun q => nomatch q) (Or.inl rfl) rfl (argsL := [(.ref e)]) (rest := [(.ref b1)]) rfl rfl rfl (Nat.le_of_ble_eq_true rfl) (by decide) (by decide) (cU fun h2 q2 le2 => ?_)
  refine r_areturn ok d28_44 rfl rfl rfl (by decide) (by decide) ?_
  exact ⟨b1, rfl, Nat.le_of_eq g1.symm, z1, ((Keep.refl h0 []).ext E1).trans q2.1 (fun x hx => by cases List.mem_singleton.mp hx; exact Or.inr (Nat.le_of_eq g1.symm)), q2.2⟩
/-! the copy of an array -/
theorem d29_0 : decode jdk_65_method_120_code 0 = .ok (.aload_n 2, 1) := by decide +kernel
theorem d29_1 : decode jdk_65_method_120_code 1 = .ok (.ldc 110, 2) := by decide +kernel
theorem d29_3 : decode jdk_65_method_120_code 3 = .ok (.if_acmp .ne 10, 3) := by decide +kernel
theorem d29_6 : decode jdk_65_method_120_code 6 = .ok (.iload_n 1, 1) := by decide +kernel
theorem d29_7 : decode jdk_65_method_120_code 7 = .ok (.anewarray 2, 3) := by decide +kernel
theorem d29_10 : decode jdk_65_method_120_code 10 = .ok (.goto 14, 3) := by decide +kernel
theorem d29_13 : decode jdk_65_method_120_code 13 = .ok (.aload_n 2, 1) := by decide +kernel
theorem d29_14 : decode jdk_65_method_120_code 14 = .ok (.invokevirtual 90, 3) := by decide +kernel
theorem d29_17 : decode jdk_65_method_120_code 17 = .ok (.iload_n 1, 1) := by decide +kernel
theorem d29_18 : decode jdk_65_method_120_code 18 = .ok (.invokestatic 95, 3) := by decide +kernel
theorem d29_21 : decode jdk_65_method_120_code 21 = .ok (.checkcast 110, 3) := by decide +kernel
theorem d29_24 : decode jdk_65_method_120_code 24 = .ok (.astore_n 3, 1) := by decide +kernel
theorem d29_25 : decode jdk_65_method_120_code 25 = .ok (.aload_n 0, 1) := by decide +kernel
theorem d29_26 : decode jdk_65_method_120_code 26 = .ok (.iconst 0, 1) := by decide +kernel
theorem d29_27 : decode jdk_65_method_120_code 27 = .ok (.aload_n 3, 1) := by decide +kernel
theorem d29_28 : decode jdk_65_method_120_code 28 = .ok (.iconst 0, 1) := by decide +kernel
theorem d29_29 : decode jdk_65_method_120_code 29 = .ok (.aload_n 0, 1) := by decide +kernel
theorem d29_30 : decode jdk_65_method_120_code 30 = .ok (.arraylength, 1) := by decide +kernel
theorem d29_31 : decode jdk_65_method_120_code 31 = .ok (.iload_n 1, 1) := by decide +kernel
theorem d29_32 : decode jdk_65_method_120_code 32 = .ok (.invokestatic 304, 3) := by decide +kernel
theorem d29_35 : decode jdk_65_method_120_code 35 = .ok (.invokestatic 150, 3) := by decide +kernel
theorem d29_38 : decode jdk_65_method_120_code 38 = .ok (.aload_n 3, 1) := by decide +kernel
theorem d29_39 : decode jdk_65_method_120_code 39 = .ok (.areturn, 1) := by decide +kernel
abbrev RC : Room := { frames := 1, cells := 1, slots := 1, locals := 60 }
set_option maxRecDepth 65536 in
theorem rmCp3 (l : Launch) (Z : State) (a0 : Array Value) (hw : ∀ d ∈ tables_1, d.before a0 Z = true) (b e mr : Addr) (kb : ClassId) (h0 : Heap) (V : Arv Z h0 b kb (.object "java/lang/Object") 10 [.ref e] .null) (Ee : Exa Z h0 e TK) (M : Mir Z OA mr) :
    Con l Z [] [] false (⟨"java/util/Arrays", "copyOf", "([Ljava/lang/Object;ILjava/lang/Class;)[Ljava/lang/Object;"⟩ : MethodName) jdk_65_method_120_code 4 (some (.array (.object "java/lang/Object"))) RC #[.ref b, .int 1, .ref mr] h0 (rV fun x h => ∃ (r : Addr) (k : ClassId), x = .ref r ∧ h0.size ≤ r ∧ Z.heap.size ≤ r ∧ Keep h0 h [] ∧ Arv Z h r k (.object "java/lang/Object") 1 [.ref e] .null) := by
  refine body (ls := #[.val (.ref b), .val (.int 1), .val (.ref mr), .unset]) (plainFor_of_name pn_8) (fun m => by first | (simp [entryFrame, mkF, argsToLocals, Value.category]; done) | rfl) fun K ok => ?_
  refine r_aloadN (pc' := 1) ok rfl d29_0 rfl rfl ?_
  refine r_ldcMir (pc' := 3) ok rfl d29_1 (hw _ (List.mem_of_getElem? (i := 141) rfl)) M ?_
  refine r_acmp (pc' := 6) (same := true) ok rfl rfl d29_3 (by simp) (by decide) (by decide) ?_
  refine r_iloadN (pc' := 7) ok rfl d29_6 rfl ?_
  refine r_anewarrayE (pc' := 10) ok rfl (1) "[Ljava/lang/Object;" (by decide +kernel) d29_7 (hw _ (List.mem_of_getElem? (i := 142) rfl)) (hw _ (List.mem_of_getElem? (i := 73) rfl)) (by decide) (by decide) (by decide) (by decide) (by decide) ?_
  intro h1 b1 k1 g1 z1 E1 O1 V1 X1
  refine r_goto (pc' := 24) ok d29_10 (by decide) (by decide) ?_
  refine r_astoreN (pc' := 25) (ls' := #[.val (.ref b), .val (.int 1), .val (.ref mr), .val (.ref b1)]) ok rfl d29_24 rfl rfl ?_
  refine r_aloadN (pc' := 26) ok rfl d29_25 rfl rfl ?_
  refine r_iconstV (pc' := 27) ok rfl (0 : Int32) d29_26 rfl ?_
  refine r_aloadN (pc' := 28) ok rfl d29_27 rfl rfl ?_
  refine r_iconstV (pc' := 29) ok rfl (0 : Int32) d29_28 rfl ?_
  refine r_aloadN (pc' := 30) ok rfl d29_29 rfl rfl ?_
  refine r_arraylength (pc' := 31) ok rfl d29_30 (V.ext E1) ?_
  refine r_iloadN (pc' := 32) ok rfl d29_31 rfl ?_
  refine r_static (pc' := 35) ok rfl d29_32 (hw _ (List.mem_of_getElem? (i := 143) rfl)) (hw _ (List.mem_of_getElem? (i := 144) rfl)) (hw _ (List.mem_of_getElem? (i := 70) rfl)) (hw _ (List.mem_of_getElem? (i := 145) rfl)) (by decide) pd_6 (Con.pay (W := 4) (rmMin l Z a0 hw 10 1 h1) EW.nil (hw _ (List.mem_of_getElem? (i := 145) rfl)) (hw _ (List.mem_of_getElem? (i := 70) rfl)) (by decide) (by decide)) (fun q => nomatch q) (Or.inl rfl) rfl (argsL := [.int _, (.int 1)]) (rest := [.int _, (.ref b1), .int _, (.ref b)]) rfl rfl rfl (Nat.le_of_ble_eq_true rfl) (by decide) (by decide) (cV fun x2 h2 q2 le2 => ?_)
  obtain ⟨rfl, rfl⟩ := q2
  rw [show (if (1 : Int32) < 10 then (1 : Int32) else 10) = 1 from rfl]
  have So : Sto Z h1 b1 (.ref e) := by
    obtain ⟨cl, Ar, q, -⟩ := V1
    exact Sto.ofV Ar q O1 (Ins.of_exa (Ee.ext E1) (hw _ (List.mem_of_getElem? (i := 74) rfl)))
  refine r_copy (pc' := 38) ok rfl d29_35 (hw _ (List.mem_of_getElem? (i := 146) rfl)) (hw _ (List.mem_of_getElem? (i := 149) rfl)) (hw _ (List.mem_of_getElem? (i := 147) rfl)) (hw _ (List.mem_of_getElem? (i := 148) rfl)) (V.ext E1) (V1.pad (vs' := [.null]) (pad_rep [] _ 1)) (Or.inr ⟨rfl, rfl, So, trivial⟩) (by decide) (by decide) (by decide) (by decide) (by decide) (us := [.ref e]) rfl (by decide) z1 rfl (by decide) (by decide +kernel) ?_
  intro h3 K3 V3
  refine r_aloadN (pc' := 39) ok rfl d29_38 rfl rfl ?_
  refine r_areturn ok d29_39 rfl rfl rfl (by decide) (by decide) ?_
  exact ⟨b1, k1, rfl, Nat.le_of_eq g1.symm, z1, ((Keep.refl h0 []).ext E1).trans K3 (fun x hx => by cases List.mem_singleton.mp hx; exact Or.inr (Nat.le_of_eq g1.symm)), V3⟩
theorem d30_0 : decode jdk_65_method_119_code 0 = .ok (.aload_n 0, 1) := by decide +kernel
theorem d30_1 : decode jdk_65_method_119_code 1 = .ok (.iload_n 1, 1) := by decide +kernel
theorem d30_2 : decode jdk_65_method_119_code 2 = .ok (.aload_n 0, 1) := by decide +kernel
theorem d30_3 : decode jdk_65_method_119_code 3 = .ok (.invokevirtual 86, 3) := by decide +kernel
theorem d30_6 : decode jdk_65_method_119_code 6 = .ok (.invokestatic 300, 3) := by decide +kernel
theorem d30_9 : decode jdk_65_method_119_code 9 = .ok (.areturn, 1) := by decide +kernel
abbrev RC2 : Room := { frames := 2, cells := 1, slots := 1, locals := 90 }
set_option maxRecDepth 65536 in
theorem rmCp2 (l : Launch) (Z : State) (a0 : Array Value) (hw : ∀ d ∈ tables_1, d.before a0 Z = true) (b e mr : Addr) (kb : ClassId) (h0 : Heap) (V : Arv Z h0 b kb (.object "java/lang/Object") 10 [.ref e] .null) (Xb : Exa Z h0 b OA) (Ee : Exa Z h0 e TK) (M : Mir Z OA mr) :
    Con l Z [] [] false (⟨"java/util/Arrays", "copyOf", "([Ljava/lang/Object;I)[Ljava/lang/Object;"⟩ : MethodName) jdk_65_method_119_code 2 (some (.array (.object "java/lang/Object"))) RC2 #[.ref b, .int 1] h0 (rV fun x h => ∃ (r : Addr) (k : ClassId), x = .ref r ∧ h0.size ≤ r ∧ Z.heap.size ≤ r ∧ Keep h0 h [] ∧ Arv Z h r k (.object "java/lang/Object") 1 [.ref e] .null) := by
  refine body (ls := #[.val (.ref b), .val (.int 1)]) (plainFor_of_name pn_8) (fun m => by first | (simp [entryFrame, mkF, argsToLocals, Value.category]; done) | rfl) fun K ok => ?_
  refine r_aloadN (pc' := 1) ok rfl d30_0 rfl rfl ?_
  refine r_iloadN (pc' := 2) ok rfl d30_1 rfl ?_
  refine r_aloadN (pc' := 3) ok rfl d30_2 rfl rfl ?_
  refine r_getClass (pc' := 6) ok rfl d30_3 (hw _ (List.mem_of_getElem? (i := 132) rfl)) (hw _ (List.mem_of_getElem? (i := 133) rfl)) (hw _ (List.mem_of_getElem? (i := 135) rfl)) (hw _ (List.mem_of_getElem? (i := 134) rfl)) (hw _ (List.mem_of_getElem? (i := 136) rfl)) Xb M rfl (by decide) (by show 2 + (nativeFrameWords "java/lang/Object" "getClass" 1 + 11) ≤ _; decide +kernel) ?_
  refine r_static (pc' := 9) ok rfl d30_6 (hw _ (List.mem_of_getElem? (i := 138) rfl)) (hw _ (List.mem_of_getElem? (i := 139) rfl)) (hw _ (List.mem_of_getElem? (i := 130) rfl)) (hw _ (List.mem_of_getElem? (i := 140) rfl)) (by decide) pd_14 (Con.pay (W := 0) (rmCp3 l Z a0 hw b e mr kb h0 V Ee M) EW.nil (hw _ (List.mem_of_getElem? (i := 140) rfl)) (hw _ (List.mem_of_getElem? (i := 130) rfl)) (by decide) (by decide)) (fun q => nomatch q) (Or.inl rfl) rfl (argsL := [(.ref b), (.int 1), (.ref mr)]) (rest := []) rfl rfl rfl (Nat.le_of_ble_eq_true rfl) (by decide) (by decide) (cV fun x1 h1 q1 le1 => ?_)
  obtain ⟨r, k, rfl, q⟩ := q1
  refine r_areturn ok d30_9 rfl rfl rfl (by decide) (by decide) ?_
  exact ⟨r, k, rfl, q⟩
theorem d31_0 : decode jdk_38_method_16_code 0 = .ok (.aload_n 0, 1) := by decide +kernel
theorem d31_1 : decode jdk_38_method_16_code 1 = .ok (.getfield 9, 3) := by decide +kernel
theorem d31_4 : decode jdk_38_method_16_code 4 = .ok (.aload_n 0, 1) := by decide +kernel
theorem d31_5 : decode jdk_38_method_16_code 5 = .ok (.getfield 48, 3) := by decide +kernel
theorem d31_8 : decode jdk_38_method_16_code 8 = .ok (.invokestatic 66, 3) := by decide +kernel
theorem d31_11 : decode jdk_38_method_16_code 11 = .ok (.areturn, 1) := by decide +kernel
abbrev RC3 : Room := { frames := 3, cells := 1, slots := 1, locals := 120 }
set_option maxRecDepth 65536 in
theorem rmTA (l : Launch) (Z : State) (a0 : Array Value) (hw : ∀ d ∈ tables_1, d.before a0 Z = true) (a b e mr : Addr) (kb : ClassId) (v1 : Value) (h0 : Heap) (A : ALs Z h0 a v1 (.ref b) (.int 1)) (V : Arv Z h0 b kb (.object "java/lang/Object") 10 [.ref e] .null) (Xb : Exa Z h0 b OA) (Ee : Exa Z h0 e TK) (M : Mir Z OA mr) :
    Con l Z [] [] false (⟨"java/util/ArrayList", "toArray", "()[Ljava/lang/Object;"⟩ : MethodName) jdk_38_method_16_code 1 (some (.array (.object "java/lang/Object"))) RC3 #[.ref a] h0 (rV fun x h => ∃ (r : Addr) (k : ClassId), x = .ref r ∧ h0.size ≤ r ∧ Z.heap.size ≤ r ∧ Keep h0 h [] ∧ Arv Z h r k (.object "java/lang/Object") 1 [.ref e] .null) := by
  refine body (ls := #[.val (.ref a)]) (plainFor_of_name pn_0) (fun m => by first | (simp [entryFrame, mkF, argsToLocals, Value.category]; done) | rfl) fun K ok => ?_
  refine r_aloadN (pc' := 1) ok rfl d31_0 rfl rfl ?_
  refine r_getfield (pc' := 4) (host := "") ok rfl d31_1 (Or.inl (hw _ (List.mem_of_getElem? (i := 24) rfl))) Via.refl A.2.2.1 ?_
  refine r_aloadN (pc' := 5) ok rfl d31_4 rfl rfl ?_
  refine r_getfield (pc' := 8) (host := "") ok rfl d31_5 (Or.inl (hw _ (List.mem_of_getElem? (i := 51) rfl))) Via.refl A.2.2.2 ?_
  refine r_static (pc' := 11) ok rfl d31_8 (hw _ (List.mem_of_getElem? (i := 128) rfl)) (hw _ (List.mem_of_getElem? (i := 129) rfl)) (hw _ (List.mem_of_getElem? (i := 130) rfl)) (hw _ (List.mem_of_getElem? (i := 131) rfl)) (by decide) pd_12 (Con.pay (W := 0) (rmCp2 l Z a0 hw b e mr kb h0 V Xb Ee M) EW.nil (hw _ (List.mem_of_getElem? (i := 131) rfl)) (hw _ (List.mem_of_getElem? (i := 130) rfl)) (by decide) (by decide)) (fun q => nomatch q) (Or.inl rfl) rfl (argsL := [(.ref b), (.int 1)]) (rest := []) rfl rfl rfl (Nat.le_of_ble_eq_true rfl) (by decide) (by decide) (cV fun x1 h1 q1 le1 => ?_)
  obtain ⟨r, k, rfl, q⟩ := q1
  refine r_areturn ok d31_11 rfl rfl rfl (by decide) (by decide) ?_
  exact ⟨r, k, rfl, q⟩
/-! List.copyOf -/
theorem d32_0 : decode jdk_56_method_3_code 0 = .ok (.aload_n 0, 1) := by decide +kernel
theorem d32_1 : decode jdk_56_method_3_code 1 = .ok (.instanceof 10, 3) := by decide +kernel
theorem d32_4 : decode jdk_56_method_3_code 4 = .ok (.ifCond .ne 22, 3) := by decide +kernel
theorem d32_7 : decode jdk_56_method_3_code 7 = .ok (.aload_n 0, 1) := by decide +kernel
theorem d32_8 : decode jdk_56_method_3_code 8 = .ok (.instanceof 12, 3) := by decide +kernel
theorem d32_11 : decode jdk_56_method_3_code 11 = .ok (.ifCond .eq 20, 3) := by decide +kernel
theorem d32_14 : decode jdk_56_method_3_code 14 = .ok (.aload_n 0, 1) := by decide +kernel
theorem d32_15 : decode jdk_56_method_3_code 15 = .ok (.checkcast 12, 3) := by decide +kernel
theorem d32_18 : decode jdk_56_method_3_code 18 = .ok (.astore_n 1, 1) := by decide +kernel
theorem d32_19 : decode jdk_56_method_3_code 19 = .ok (.aload_n 1, 1) := by decide +kernel
theorem d32_20 : decode jdk_56_method_3_code 20 = .ok (.getfield 14, 3) := by decide +kernel
theorem d32_23 : decode jdk_56_method_3_code 23 = .ok (.ifCond .ne 8, 3) := by decide +kernel
theorem d32_26 : decode jdk_56_method_3_code 26 = .ok (.aload_n 0, 1) := by decide +kernel
theorem d32_27 : decode jdk_56_method_3_code 27 = .ok (.checkcast 18, 3) := by decide +kernel
theorem d32_30 : decode jdk_56_method_3_code 30 = .ok (.areturn, 1) := by decide +kernel
theorem d32_31 : decode jdk_56_method_3_code 31 = .ok (.aload_n 0, 1) := by decide +kernel
theorem d32_32 : decode jdk_56_method_3_code 32 = .ok (.invokeinterface 20 1, 5) := by decide +kernel
theorem d32_37 : decode jdk_56_method_3_code 37 = .ok (.ifCond .eq 7, 3) := by decide +kernel
theorem d32_44 : decode jdk_56_method_3_code 44 = .ok (.aload_n 0, 1) := by decide +kernel
theorem d32_45 : decode jdk_56_method_3_code 45 = .ok (.invokeinterface 30 1, 5) := by decide +kernel
theorem d32_50 : decode jdk_56_method_3_code 50 = .ok (.invokestatic 34, 3) := by decide +kernel
theorem d32_53 : decode jdk_56_method_3_code 53 = .ok (.areturn, 1) := by decide +kernel
abbrev RL : Room := { frames := 6, cells := 2, slots := 3, locals := 160 }
theorem own_nsA {Z : State} {a0 : Array Value} (hw : ∀ d ∈ tables_1, d.before a0 Z = true) : NS Z AL L12 :=
  NS.step (hw _ (List.mem_of_getElem? (i := 109) rfl)) (NS.step (hw _ (List.mem_of_getElem? (i := 110) rfl)) (NS.step (hw _ (List.mem_of_getElem? (i := 101) rfl)) (own_root (hw _ (List.mem_of_getElem? (i := 102) rfl)) (hw _ (List.mem_of_getElem? (i := 154) rfl)) (by decide)) (by decide)) (by decide)) (by decide)
theorem own_nsB {Z : State} {a0 : Array Value} (hw : ∀ d ∈ tables_1, d.before a0 Z = true) : NS Z AL LN :=
  NS.step (hw _ (List.mem_of_getElem? (i := 109) rfl)) (NS.step (hw _ (List.mem_of_getElem? (i := 110) rfl)) (NS.step (hw _ (List.mem_of_getElem? (i := 101) rfl)) (NS.root (hw _ (List.mem_of_getElem? (i := 102) rfl)) (hw _ (List.mem_of_getElem? (i := 98) rfl)) (by decide)) (by decide)) (by decide)) (by decide)
theorem own_nsC {Z : State} {a0 : Array Value} (hw : ∀ d ∈ tables_1, d.before a0 Z = true) : NS Z LN L12 :=
  NS.step (hw _ (List.mem_of_getElem? (i := 98) rfl)) (NS.step (hw _ (List.mem_of_getElem? (i := 99) rfl)) (NS.step (hw _ (List.mem_of_getElem? (i := 100) rfl)) (NS.step (hw _ (List.mem_of_getElem? (i := 101) rfl)) (own_root (hw _ (List.mem_of_getElem? (i := 102) rfl)) (hw _ (List.mem_of_getElem? (i := 154) rfl)) (by decide)) (by decide)) (by decide)) (by decide)) (by decide)
set_option maxRecDepth 65536 in
theorem rmLcA (l : Launch) (Z : State) (a0 : Array Value) (hw : ∀ d ∈ tables_1, d.before a0 Z = true) (a b e em mr : Addr) (kb : ClassId) (v1 : Value) (h0 : Heap) (A : ALs Z h0 a v1 (.ref b) (.int 1)) (V : Arv Z h0 b kb (.object "java/lang/Object") 10 [.ref e] .null) (Xb : Exa Z h0 b OA) (Ee : Exa Z h0 e TK) (M : Mir Z OA mr) (SM : Sta Z Z.heap "java/util/ImmutableCollections" "EMPTY" LO (.ref em)) :
    Con l Z [] [] false (⟨"java/util/ImmutableCollections", "listCopy", "(Ljava/util/Collection;)Ljava/util/List;"⟩ : MethodName) jdk_56_method_3_code 2 (some (.object "java/util/List")) RL #[.ref a] h0 (rV fun x h => ∃ r, x = .ref r ∧ h0.size ≤ r ∧ Z.heap.size ≤ r ∧ Keep h0 h [] ∧ L12s Z h r (.ref e) (.ref em)) := by
  refine body (ls := #[.val (.ref a), .unset]) (plainFor_of_name pn_7) (fun m => by first | (simp [entryFrame, mkF, argsToLocals, Value.category]; done) | rfl) fun K ok => ?_
  refine r_aloadN (pc' := 1) ok rfl d32_0 rfl rfl ?_
  refine r_instanceofNo (pc' := 4) ok rfl d32_1 (hw _ (List.mem_of_getElem? (i := 97) rfl)) A.1 (own_no (hw _ (List.mem_of_getElem? (i := 109) rfl)) (hw _ (List.mem_of_getElem? (i := 154) rfl)) (own_nsA hw) (by decide)) ?_
  refine r_if_ne (pc' := 7) (pcY := 26) ok rfl d32_4 (by decide) (by decide) ?_ ?_
  · intro hc
    exact absurd rfl hc
  intro _
  refine r_aloadN (pc' := 8) ok rfl d32_7 rfl rfl ?_
  refine r_instanceofNo (pc' := 11) ok rfl d32_8 (hw _ (List.mem_of_getElem? (i := 103) rfl)) A.1 (NS.no (hw _ (List.mem_of_getElem? (i := 109) rfl)) (hw _ (List.mem_of_getElem? (i := 98) rfl)) (own_nsB hw) (by decide)) ?_
  refine r_if_eq (pc' := 14) (pcY := 31) ok rfl d32_11 (by decide) (by decide) ?_ ?_
  rotate_left
  · intro hc
    exact absurd rfl hc
  intro _
  refine r_aloadN (pc' := 32) ok rfl d32_31 rfl rfl ?_
  refine r_iface (pc' := 37) ok rfl d32_32 (hw _ (List.mem_of_getElem? (i := 111) rfl)) (hw _ (List.mem_of_getElem? (i := 112) rfl)) (hw _ (List.mem_of_getElem? (i := 113) rfl)) (hw _ (List.mem_of_getElem? (i := 114) rfl)) (hw _ (List.mem_of_getElem? (i := 115) rfl)) (hw _ (List.mem_of_getElem? (i := 116) rfl)) (hw _ (List.mem_of_getElem? (i := 117) rfl)) (hw _ (List.mem_of_getElem? (i := 118) rfl)) A.1 (by decide) pd_11 (Con.pay (W := 0) (rmAlE l Z a0 hw a v1 (.ref b) h0 A) EW.nil (hw _ (List.mem_of_getElem? (i := 119) rfl)) (hw _ (List.mem_of_getElem? (i := 2) rfl)) (by decide) (by decide)) (fun q => nomatch q) (Or.inl rfl) rfl (argsL := []) (rest := []) rfl rfl rfl (Nat.le_of_ble_eq_true rfl) (by decide) (by decide) (cV fun x1 h1 q1 le1 => ?_)
  obtain ⟨rfl, rfl⟩ := q1
  refine r_if_eq (pc' := 40) (pcY := 44) ok rfl d32_37 (by decide) (by decide) ?_ ?_
  rotate_left
  · intro hc
    exact absurd rfl hc
  intro _
  refine r_aloadN (pc' := 45) ok rfl d32_44 rfl rfl ?_
  refine r_iface (pc' := 50) ok rfl d32_45 (hw _ (List.mem_of_getElem? (i := 120) rfl)) (hw _ (List.mem_of_getElem? (i := 121) rfl)) (hw _ (List.mem_of_getElem? (i := 122) rfl)) (hw _ (List.mem_of_getElem? (i := 123) rfl)) (hw _ (List.mem_of_getElem? (i := 124) rfl)) (hw _ (List.mem_of_getElem? (i := 125) rfl)) (hw _ (List.mem_of_getElem? (i := 126) rfl)) (hw _ (List.mem_of_getElem? (i := 118) rfl)) A.1 (by decide) pd_4 (Con.pay (W := 0) (rmTA l Z a0 hw a b e mr kb v1 h0 A V Xb Ee M) EW.nil (hw _ (List.mem_of_getElem? (i := 127) rfl)) (hw _ (List.mem_of_getElem? (i := 2) rfl)) (by decide) (by decide)) (fun q => nomatch q) (Or.inl rfl) rfl (argsL := []) (rest := []) rfl rfl rfl (Nat.le_of_ble_eq_true rfl) (by decide) (by decide) (cV fun x2 h2 q2 le2 => ?_)
  obtain ⟨r, k, rfl, g2, z2, K2, V2⟩ := q2
  refine r_static (pc' := 53) ok rfl d32_50 (hw _ (List.mem_of_getElem? (i := 150) rfl)) (hw _ (List.mem_of_getElem? (i := 151) rfl)) (hw _ (List.mem_of_getElem? (i := 83) rfl)) (hw _ (List.mem_of_getElem? (i := 152) rfl)) (by decide) pd_16 (Con.pay (W := 0) (rmLoA l Z a0 hw r e em k .null h2 V2 SM) EW.nil (hw _ (List.mem_of_getElem? (i := 152) rfl)) (hw _ (List.mem_of_getElem? (i := 83) rfl)) (by decide) (by decide)) (fun q => nomatch q) (Or.inl rfl) rfl (argsL := [(.ref r)]) (rest := []) rfl rfl rfl (Nat.le_of_ble_eq_true rfl) (by decide) (by decide) (cV fun x3 h3 q3 le3 => ?_)
  obtain ⟨c, rfl, g3, z3, K3, L3⟩ := q3
  refine r_areturn ok d32_53 rfl rfl rfl (by decide) (by decide) ?_
  exact ⟨c, rfl, Nat.le_trans K2.1 g3, z3, K2.trans K3 (fun x hx => nomatch hx), L3⟩
set_option maxRecDepth 65536 in
theorem rmLcE (l : Launch) (Z : State) (a0 : Array Value) (hw : ∀ d ∈ tables_1, d.before a0 Z = true) (a : Addr) (h0 : Heap) (E : Exa Z h0 a LN) (F : Fld Z h0 a LN "allowNulls" "Z" (.int 0)) :
    Con l Z [] [] false (⟨"java/util/ImmutableCollections", "listCopy", "(Ljava/util/Collection;)Ljava/util/List;"⟩ : MethodName) jdk_56_method_3_code 2 (some (.object "java/util/List")) RZ #[.ref a] h0 (rV fun x h => x = .ref a ∧ h0 = h) := by
  refine body (ls := #[.val (.ref a), .unset]) (plainFor_of_name pn_7) (fun m => by first | (simp [entryFrame, mkF, argsToLocals, Value.category]; done) | rfl) fun K ok => ?_
  refine r_aloadN (pc' := 1) ok rfl d32_0 rfl rfl ?_
  refine r_instanceofNo (pc' := 4) ok rfl d32_1 (hw _ (List.mem_of_getElem? (i := 97) rfl)) E (own_no (hw _ (List.mem_of_getElem? (i := 98) rfl)) (hw _ (List.mem_of_getElem? (i := 154) rfl)) (own_nsC hw) (by decide)) ?_
  refine r_if_ne (pc' := 7) (pcY := 26) ok rfl d32_4 (by decide) (by decide) ?_ ?_
  · intro hc
    exact absurd rfl hc
  intro _
  refine r_aloadN (pc' := 8) ok rfl d32_7 rfl rfl ?_
  refine r_instanceof (pc' := 11) ok rfl d32_8 (hw _ (List.mem_of_getElem? (i := 103) rfl)) (Ins.of_exa E (hw _ (List.mem_of_getElem? (i := 104) rfl))) ?_
  refine r_if_eq (pc' := 14) (pcY := 31) ok rfl d32_11 (by decide) (by decide) ?_ ?_
  · intro hc
    exact absurd hc (by decide)
  intro _
  refine r_aloadN (pc' := 15) ok rfl d32_14 rfl rfl ?_
  refine r_checkcast (pc' := 18) ok rfl d32_15 (hw _ (List.mem_of_getElem? (i := 103) rfl)) (Ins.of_exa E (hw _ (List.mem_of_getElem? (i := 104) rfl))) ?_
  refine r_astoreN (pc' := 19) (ls' := #[.val (.ref a), .val (.ref a)]) ok rfl d32_18 rfl rfl ?_
  refine r_aloadN (pc' := 20) ok rfl d32_19 rfl rfl ?_
  refine r_getfield (pc' := 23) ok rfl d32_20 (Or.inr (hw _ (List.mem_of_getElem? (i := 105) rfl))) Via.refl F ?_
  refine r_if_ne (pc' := 26) (pcY := 31) ok rfl d32_23 (by decide) (by decide) ?_ ?_
  · intro hc
    exact absurd rfl hc
  intro _
  refine r_aloadN (pc' := 27) ok rfl d32_26 rfl rfl ?_
  refine r_checkcast (pc' := 30) ok rfl d32_27 (hw _ (List.mem_of_getElem? (i := 107) rfl)) (Ins.of_exa E (hw _ (List.mem_of_getElem? (i := 108) rfl))) ?_
  refine r_areturn ok d32_30 rfl rfl rfl (by decide) (by decide) ?_
  exact ⟨rfl, rfl⟩
theorem d33_0 : decode jdk_40_method_48_code 0 = .ok (.aload_n 0, 1) := by decide +kernel
theorem d33_1 : decode jdk_40_method_48_code 1 = .ok (.invokestatic 112, 3) := by decide +kernel
theorem d33_4 : decode jdk_40_method_48_code 4 = .ok (.areturn, 1) := by decide +kernel
abbrev RL2 : Room := { frames := 7, cells := 2, slots := 3, locals := 190 }
set_option maxRecDepth 65536 in
theorem rmCoA (l : Launch) (Z : State) (a0 : Array Value) (hw : ∀ d ∈ tables_1, d.before a0 Z = true) (a b e em mr : Addr) (kb : ClassId) (v1 : Value) (h0 : Heap) (A : ALs Z h0 a v1 (.ref b) (.int 1)) (V : Arv Z h0 b kb (.object "java/lang/Object") 10 [.ref e] .null) (Xb : Exa Z h0 b OA) (Ee : Exa Z h0 e TK) (M : Mir Z OA mr) (SM : Sta Z Z.heap "java/util/ImmutableCollections" "EMPTY" LO (.ref em)) :
    Con l Z [] [] false (⟨"java/util/List", "copyOf", "(Ljava/util/Collection;)Ljava/util/List;"⟩ : MethodName) jdk_40_method_48_code 1 (some (.object "java/util/List")) RL2 #[.ref a] h0 (rV fun x h => ∃ r, x = .ref r ∧ h0.size ≤ r ∧ Z.heap.size ≤ r ∧ Keep h0 h [] ∧ L12s Z h r (.ref e) (.ref em)) := by
  refine body (ls := #[.val (.ref a)]) (plainFor_of_name pn_6) (fun m => by first | (simp [entryFrame, mkF, argsToLocals, Value.category]; done) | rfl) fun K ok => ?_
  refine r_aloadN (pc' := 1) ok rfl d33_0 rfl rfl ?_
  refine r_static (pc' := 4) ok rfl d33_1 (hw _ (List.mem_of_getElem? (i := 94) rfl)) (hw _ (List.mem_of_getElem? (i := 95) rfl)) (hw _ (List.mem_of_getElem? (i := 86) rfl)) (hw _ (List.mem_of_getElem? (i := 96) rfl)) (by decide) pd_10 (Con.pay (W := 0) (rmLcA l Z a0 hw a b e em mr kb v1 h0 A V Xb Ee M SM) EW.nil (hw _ (List.mem_of_getElem? (i := 96) rfl)) (hw _ (List.mem_of_getElem? (i := 86) rfl)) (by decide) (by decide)) (fun q => nomatch q) (Or.inl rfl) rfl (argsL := [(.ref a)]) (rest := []) rfl rfl rfl (Nat.le_of_ble_eq_true rfl) (by decide) (by decide) (cV fun x1 h1 q1 le1 => ?_)
  obtain ⟨r, rfl, q⟩ := q1
  refine r_areturn ok d33_4 rfl rfl rfl (by decide) (by decide) ?_
  exact ⟨r, rfl, q⟩
set_option maxRecDepth 65536 in
theorem rmCoE (l : Launch) (Z : State) (a0 : Array Value) (hw : ∀ d ∈ tables_1, d.before a0 Z = true) (a : Addr) (h0 : Heap) (E : Exa Z h0 a LN) (F : Fld Z h0 a LN "allowNulls" "Z" (.int 0)) :
    Con l Z [] [] false (⟨"java/util/List", "copyOf", "(Ljava/util/Collection;)Ljava/util/List;"⟩ : MethodName) jdk_40_method_48_code 1 (some (.object "java/util/List")) R1 #[.ref a] h0 (rV fun x h => x = .ref a ∧ h0 = h) := by
  refine body (ls := #[.val (.ref a)]) (plainFor_of_name pn_6) (fun m => by first | (simp [entryFrame, mkF, argsToLocals, Value.category]; done) | rfl) fun K ok => ?_
  refine r_aloadN (pc' := 1) ok rfl d33_0 rfl rfl ?_
  refine r_static (pc' := 4) ok rfl d33_1 (hw _ (List.mem_of_getElem? (i := 94) rfl)) (hw _ (List.mem_of_getElem? (i := 95) rfl)) (hw _ (List.mem_of_getElem? (i := 86) rfl)) (hw _ (List.mem_of_getElem? (i := 96) rfl)) (by decide) pd_10 (Con.pay (W := 0) (rmLcE l Z a0 hw a h0 E F) EW.nil (hw _ (List.mem_of_getElem? (i := 96) rfl)) (hw _ (List.mem_of_getElem? (i := 86) rfl)) (by decide) (by decide)) (fun q => nomatch q) (Or.inl rfl) rfl (argsL := [(.ref a)]) (rest := []) rfl rfl rfl (Nat.le_of_ble_eq_true rfl) (by decide) (by decide) (cV fun x1 h1 q1 le1 => ?_)
  obtain ⟨rfl, rfl⟩ := q1
  refine r_areturn ok d33_4 rfl rfl rfl (by decide) (by decide) ?_
  exact ⟨rfl, rfl⟩
/-! the record of the layout -/
def KLs (Z : State) (h : Heap) (a : Addr) (v1 v2 v3 v4 v5 v6 : Value) : Prop := Exa Z h a KL ∧ Fld Z h a KL "start" "I" v1 ∧ Fld Z h a KL "bytes" "I" v2 ∧ Fld Z h a KL "slots" "Ljava/util/List;" v3 ∧ Fld Z h a KL "tableBytes" "I" v4 ∧ Fld Z h a KL "ramWords" "I" v5 ∧ Fld Z h a KL "tasks" "Ljava/util/List;" v6
theorem L12s.ow {Z : State} {h h' : Heap} {r a : Addr} {sl : Nat} {v v0 v1 : Value} (A : L12s Z h r v0 v1) (W : Wr h h' a sl v) (n : r ≠ a) : L12s Z h' r v0 v1 := ⟨A.1.wr W, A.2.1.other W (Or.inl n), A.2.2.other W (Or.inl n)⟩
theorem d34_0 : decode prog_26_method_1_code 0 = .ok (.aload_n 0, 1) := by decide +kernel
theorem d34_1 : decode prog_26_method_1_code 1 = .ok (.invokespecial 1, 3) := by decide +kernel
theorem d34_4 : decode prog_26_method_1_code 4 = .ok (.aload_n 3, 1) := by decide +kernel
theorem d34_5 : decode prog_26_method_1_code 5 = .ok (.invokestatic 7, 3) := by decide +kernel
theorem d34_8 : decode prog_26_method_1_code 8 = .ok (.astore_n 3, 1) := by decide +kernel
theorem d34_9 : decode prog_26_method_1_code 9 = .ok (.aload 6, 2) := by decide +kernel
theorem d34_11 : decode prog_26_method_1_code 11 = .ok (.invokestatic 7, 3) := by decide +kernel
theorem d34_14 : decode prog_26_method_1_code 14 = .ok (.astore 6, 2) := by decide +kernel
theorem d34_16 : decode prog_26_method_1_code 16 = .ok (.aload_n 0, 1) := by decide +kernel
theorem d34_17 : decode prog_26_method_1_code 17 = .ok (.iload_n 1, 1) := by decide +kernel
theorem d34_18 : decode prog_26_method_1_code 18 = .ok (.putfield 13, 3) := by decide +kernel
theorem d34_21 : decode prog_26_method_1_code 21 = .ok (.aload_n 0, 1) := by decide +kernel
theorem d34_22 : decode prog_26_method_1_code 22 = .ok (.iload_n 2, 1) := by decide +kernel
theorem d34_23 : decode prog_26_method_1_code 23 = .ok (.putfield 19, 3) := by decide +kernel
theorem d34_26 : decode prog_26_method_1_code 26 = .ok (.aload_n 0, 1) := by decide +kernel
theorem d34_27 : decode prog_26_method_1_code 27 = .ok (.aload_n 3, 1) := by decide +kernel
theorem d34_28 : decode prog_26_method_1_code 28 = .ok (.putfield 22, 3) := by decide +kernel
theorem d34_31 : decode prog_26_method_1_code 31 = .ok (.aload_n 0, 1) := by decide +kernel
theorem d34_32 : decode prog_26_method_1_code 32 = .ok (.iload 4, 2) := by decide +kernel
theorem d34_34 : decode prog_26_method_1_code 34 = .ok (.putfield 26, 3) := by decide +kernel
theorem d34_37 : decode prog_26_method_1_code 37 = .ok (.aload_n 0, 1) := by decide +kernel
theorem d34_38 : decode prog_26_method_1_code 38 = .ok (.iload 5, 2) := by decide +kernel
theorem d34_40 : decode prog_26_method_1_code 40 = .ok (.putfield 29, 3) := by decide +kernel
theorem d34_43 : decode prog_26_method_1_code 43 = .ok (.aload_n 0, 1) := by decide +kernel
theorem d34_44 : decode prog_26_method_1_code 44 = .ok (.aload 6, 2) := by decide +kernel
theorem d34_46 : decode prog_26_method_1_code 46 = .ok (.putfield 32, 3) := by decide +kernel
theorem d34_49 : decode prog_26_method_1_code 49 = .ok (.return_, 1) := by decide +kernel
abbrev RK : Room := { frames := 8, cells := 2, slots := 3, locals := 220 }
set_option maxRecDepth 65536 in
theorem rmKL6 (l : Launch) (Z : State) (a0 : Array Value) (hw : ∀ d ∈ tables_1, d.before a0 Z = true) (a el al b e em mr : Addr) (p q r s : Int32) (kb : ClassId) (v1 v2 v3 v4 v5 v6 vm : Value) (h0 : Heap) (A : KLs Z h0 a v1 v2 v3 v4 v5 v6) (g : Z.heap.size ≤ a) (Eel : Exa Z h0 el LN) (Fel : Fld Z h0 el LN "allowNulls" "Z" (.int 0)) (L : ALs Z h0 al vm (.ref b) (.int 1)) (V : Arv Z h0 b kb (.object "java/lang/Object") 10 [.ref e] .null) (Xb : Exa Z h0 b OA) (Ee : Exa Z h0 e TK) (M : Mir Z OA mr) (SM : Sta Z Z.heap "java/util/ImmutableCollections" "EMPTY" LO (.ref em)) :
    Con l Z [] [] false (⟨"com/example/stackloom/stackloom/model/KernelLayout", "<init>", "(IILjava/util/List;IILjava/util/List;)V"⟩ : MethodName) prog_26_method_1_code 7 none RK #[.ref a, .int p, .int q, .ref el, .int r, .int s, .ref al] h0 (rU fun h => Keep h0 h [a] ∧ ∃ t, h0.size ≤ t ∧ Z.heap.size ≤ t ∧ KLs Z h a (.int p) (.int q) (.ref el) (.int r) (.int s) (.ref t) ∧ L12s Z h t (.ref e) (.ref em)) := by
  obtain ⟨E, F1, F2, F3, F4, F5, F6⟩ := A
  have lt := E.lt
  refine body (ls := #[.val (.ref a), .val (.int p), .val (.int q), .val (.ref el), .val (.int r), .val (.int s), .val (.ref al)]) (plainFor_of_name pn_5) (fun m => by first | (simp [entryFrame, mkF, argsToLocals, Value.category]; done) | rfl) fun K ok => ?_
  refine r_aloadN (pc' := 1) ok rfl d34_0 rfl rfl ?_
  refine r_special (pc' := 4) ok rfl d34_1 rfl (hw _ (List.mem_of_getElem? (i := 90) rfl)) (hw _ (List.mem_of_getElem? (i := 33) rfl)) (hw _ (List.mem_of_getElem? (i := 36) rfl)) (by decide) pd_0 (Con.pay (W := 0) (rmRec l Z a0 hw a h0) EW.nil (hw _ (List.mem_of_getElem? (i := 36) rfl)) (hw _ (List.mem_of_getElem? (i := 35) rfl)) (by decide) (by decide)) (fun q => nomatch q) (Or.inl rfl) rfl (argsL := []) (rest := []) rfl rfl rfl (Nat.le_of_ble_eq_true rfl) (by decide) (by decide) (cU fun h1 q1 le1 => ?_)
  subst q1
  refine r_aloadN (pc' := 5) ok rfl d34_4 rfl rfl ?_
  refine r_static (pc' := 8) ok rfl d34_5 (hw _ (List.mem_of_getElem? (i := 91) rfl)) (hw _ (List.mem_of_getElem? (i := 92) rfl)) (hw _ (List.mem_of_getElem? (i := 83) rfl)) (hw _ (List.mem_of_getElem? (i := 93) rfl)) (by decide) pd_10 (Con.pay (W := 0) (rmCoE l Z a0 hw el h0 Eel Fel) EW.nil (hw _ (List.mem_of_getElem? (i := 93) rfl)) (hw _ (List.mem_of_getElem? (i := 83) rfl)) (by decide) (by decide)) (fun q => nomatch q) (Or.inl rfl) rfl (argsL := [(.ref el)]) (rest := []) rfl rfl rfl (Nat.le_of_ble_eq_true rfl) (by decide) (by decide) (cV fun x2 h2 q2 le2 => ?_)
  obtain ⟨rfl, rfl⟩ := q2
  refine r_astoreN (pc' := 9) (ls' := #[.val (.ref a), .val (.int p), .val (.int q), .val (.ref el), .val (.int r), .val (.int s), .val (.ref al)]) ok rfl d34_8 rfl rfl ?_
  refine r_aload (pc' := 11) ok rfl d34_9 rfl rfl ?_
  refine r_static (pc' := 14) ok rfl d34_11 (hw _ (List.mem_of_getElem? (i := 91) rfl)) (hw _ (List.mem_of_getElem? (i := 92) rfl)) (hw _ (List.mem_of_getElem? (i := 83) rfl)) (hw _ (List.mem_of_getElem? (i := 93) rfl)) (by decide) pd_10 (Con.pay (W := 0) (rmCoA l Z a0 hw al b e em mr kb vm h0 L V Xb Ee M SM) EW.nil (hw _ (List.mem_of_getElem? (i := 93) rfl)) (hw _ (List.mem_of_getElem? (i := 83) rfl)) (by decide) (by decide)) (fun q => nomatch q) (Or.inl rfl) rfl (argsL := [(.ref al)]) (rest := []) rfl rfl rfl (Nat.le_of_ble_eq_true rfl) (by decide) (by decide) (cV fun x3 h3 q3 le3 => ?_)
  obtain ⟨t, rfl, gt, zt, K3, Lt⟩ := q3
  have nt : t ≠ a := (own_ne' lt gt).symm
  replace E := E.keep K3
  replace F1 := F1.keep K3 nin0
  replace F2 := F2.keep K3 nin0
  replace F3 := F3.keep K3 nin0
  replace F4 := F4.keep K3 nin0
  replace F5 := F5.keep K3 nin0
  replace F6 := F6.keep K3 nin0
  refine r_astore (pc' := 16) (ls' := #[.val (.ref a), .val (.int p), .val (.int q), .val (.ref el), .val (.int r), .val (.int s), .val (.ref t)]) ok rfl d34_14 rfl rfl ?_
  refine r_aloadN (pc' := 17) ok rfl d34_16 rfl rfl ?_
  refine r_iloadN (pc' := 18) ok rfl d34_17 rfl ?_
  refine r_putfield (pc' := 21) (host := "") ok rfl d34_18 (Or.inl (hw _ (List.mem_of_getElem? (i := 183) rfl))) Via.refl (Or.inr ⟨(hw _ (List.mem_of_getElem? (i := 184) rfl)), rfl, rfl⟩) (hw _ (List.mem_of_getElem? (i := 76) rfl)) F1 E g (ty := .int) (by decide) rfl rfl ?_
  intro h11 W11 F11 E11
  replace F2 := F2.other W11 (Or.inr (slot_ne (Or.inr (hw _ (List.mem_of_getElem? (i := 186) rfl))) (Or.inr (hw _ (List.mem_of_getElem? (i := 184) rfl))) (by decide) (t := .int) (t' := .int) (by decide) (by decide)))
  replace F3 := F3.other W11 (Or.inr (slot_ne (Or.inr (hw _ (List.mem_of_getElem? (i := 188) rfl))) (Or.inr (hw _ (List.mem_of_getElem? (i := 184) rfl))) (by decide) (t := (.object "java/util/List")) (t' := .int) (by decide) (by decide)))
  replace F4 := F4.other W11 (Or.inr (slot_ne (Or.inr (hw _ (List.mem_of_getElem? (i := 190) rfl))) (Or.inr (hw _ (List.mem_of_getElem? (i := 184) rfl))) (by decide) (t := .int) (t' := .int) (by decide) (by decide)))
  replace F5 := F5.other W11 (Or.inr (slot_ne (Or.inr (hw _ (List.mem_of_getElem? (i := 192) rfl))) (Or.inr (hw _ (List.mem_of_getElem? (i := 184) rfl))) (by decide) (t := .int) (t' := .int) (by decide) (by decide)))
  replace F6 := F6.other W11 (Or.inr (slot_ne (Or.inr (hw _ (List.mem_of_getElem? (i := 194) rfl))) (Or.inr (hw _ (List.mem_of_getElem? (i := 184) rfl))) (by decide) (t := (.object "java/util/List")) (t' := .int) (by decide) (by decide)))
  refine r_aloadN (pc' := 22) ok rfl d34_21 rfl rfl ?_
  refine r_iloadN (pc' := 23) ok rfl d34_22 rfl ?_
  refine r_putfield (pc' := 26) (host := "") ok rfl d34_23 (Or.inl (hw _ (List.mem_of_getElem? (i := 185) rfl))) Via.refl (Or.inr ⟨(hw _ (List.mem_of_getElem? (i := 186) rfl)), rfl, rfl⟩) (hw _ (List.mem_of_getElem? (i := 76) rfl)) F2 E11 g (ty := .int) (by decide) rfl rfl ?_
  intro h12 W12 F12 E12
  replace F11 := F11.other W12 (Or.inr (slot_ne (Or.inr (hw _ (List.mem_of_getElem? (i := 184) rfl))) (Or.inr (hw _ (List.mem_of_getElem? (i := 186) rfl))) (by decide) (t := .int) (t' := .int) (by decide) (by decide)))
  replace F3 := F3.other W12 (Or.inr (slot_ne (Or.inr (hw _ (List.mem_of_getElem? (i := 188) rfl))) (Or.inr (hw _ (List.mem_of_getElem? (i := 186) rfl))) (by decide) (t := (.object "java/util/List")) (t' := .int) (by decide) (by decide)))
  replace F4 := F4.other W12 (Or.inr (slot_ne (Or.inr (hw _ (List.mem_of_getElem? (i := 190) rfl))) (Or.inr (hw _ (List.mem_of_getElem? (i := 186) rfl))) (by decide) (t := .int) (t' := .int) (by decide) (by decide)))
  replace F5 := F5.other W12 (Or.inr (slot_ne (Or.inr (hw _ (List.mem_of_getElem? (i := 192) rfl))) (Or.inr (hw _ (List.mem_of_getElem? (i := 186) rfl))) (by decide) (t := .int) (t' := .int) (by decide) (by decide)))
  replace F6 := F6.other W12 (Or.inr (slot_ne (Or.inr (hw _ (List.mem_of_getElem? (i := 194) rfl))) (Or.inr (hw _ (List.mem_of_getElem? (i := 186) rfl))) (by decide) (t := (.object "java/util/List")) (t' := .int) (by decide) (by decide)))
  refine r_aloadN (pc' := 27) ok rfl d34_26 rfl rfl ?_
  refine r_aloadN (pc' := 28) ok rfl d34_27 rfl rfl ?_
  refine r_putfield (pc' := 31) (host := "") ok rfl d34_28 (Or.inl (hw _ (List.mem_of_getElem? (i := 187) rfl))) Via.refl (Or.inr ⟨(hw _ (List.mem_of_getElem? (i := 188) rfl)), rfl, rfl⟩) (hw _ (List.mem_of_getElem? (i := 76) rfl)) F3 E12 g (ty := (.object "java/util/List")) (by decide) rfl rfl ?_
  intro h13 W13 F13 E13
  replace F11 := F11.other W13 (Or.inr (slot_ne (Or.inr (hw _ (List.mem_of_getElem? (i := 184) rfl))) (Or.inr (hw _ (List.mem_of_getElem? (i := 188) rfl))) (by decide) (t := .int) (t' := (.object "java/util/List")) (by decide) (by decide)))
  replace F12 := F12.other W13 (Or.inr (slot_ne (Or.inr (hw _ (List.mem_of_getElem? (i := 186) rfl))) (Or.inr (hw _ (List.mem_of_getElem? (i := 188) rfl))) (by decide) (t := .int) (t' := (.object "java/util/List")) (by decide) (by decide)))
  replace F4 := F4.other W13 (Or.inr (slot_ne (Or.inr (hw _ (List.mem_of_getElem? (i := 190) rfl))) (Or.inr (hw _ (List.mem_of_getElem? (i := 188) rfl))) (by decide) (t := .int) (t' := (.object "java/util/List")) (by decide) (by decide)))
  replace F5 := F5.other W13 (Or.inr (slot_ne (Or.inr (hw _ (List.mem_of_getElem? (i := 192) rfl))) (Or.inr (hw _ (List.mem_of_getElem? (i := 188) rfl))) (by decide) (t := .int) (t' := (.object "java/util/List")) (by decide) (by decide)))
  replace F6 := F6.other W13 (Or.inr (slot_ne (Or.inr (hw _ (List.mem_of_getElem? (i := 194) rfl))) (Or.inr (hw _ (List.mem_of_getElem? (i := 188) rfl))) (by decide) (t := (.object "java/util/List")) (t' := (.object "java/util/List")) (by decide) (by decide)))
  refine r_aloadN (pc' := 32) ok rfl d34_31 rfl rfl ?_
  refine r_iload (pc' := 34) ok rfl d34_32 rfl ?_
  refine r_putfield (pc' := 37) (host := "") ok rfl d34_34 (Or.inl (hw _ (List.mem_of_getElem? (i := 189) rfl))) Via.refl (Or.inr ⟨(hw _ (List.mem_of_getElem? (i := 190) rfl)), rfl, rfl⟩) (hw _ (List.mem_of_getElem? (i := 76) rfl)) F4 E13 g (ty := .int) (by decide) rfl rfl ?_
  intro h14 W14 F14 E14
  replace F11 := F11.other W14 (Or.inr (slot_ne (Or.inr (hw _ (List.mem_of_getElem? (i := 184) rfl))) (Or.inr (hw _ (List.mem_of_getElem? (i := 190) rfl))) (by decide) (t := .int) (t' := .int) (by decide) (by decide)))
  replace F12 := F12.other W14 (Or.inr (slot_ne (Or.inr (hw _ (List.mem_of_getElem? (i := 186) rfl))) (Or.inr (hw _ (List.mem_of_getElem? (i := 190) rfl))) (by decide) (t := .int) (t' := .int) (by decide) (by decide)))
  replace F13 := F13.other W14 (Or.inr (slot_ne (Or.inr (hw _ (List.mem_of_getElem? (i := 188) rfl))) (Or.inr (hw _ (List.mem_of_getElem? (i := 190) rfl))) (by decide) (t := (.object "java/util/List")) (t' := .int) (by decide) (by decide)))
  replace F5 := F5.other W14 (Or.inr (slot_ne (Or.inr (hw _ (List.mem_of_getElem? (i := 192) rfl))) (Or.inr (hw _ (List.mem_of_getElem? (i := 190) rfl))) (by decide) (t := .int) (t' := .int) (by decide) (by decide)))
  replace F6 := F6.other W14 (Or.inr (slot_ne (Or.inr (hw _ (List.mem_of_getElem? (i := 194) rfl))) (Or.inr (hw _ (List.mem_of_getElem? (i := 190) rfl))) (by decide) (t := (.object "java/util/List")) (t' := .int) (by decide) (by decide)))
  refine r_aloadN (pc' := 38) ok rfl d34_37 rfl rfl ?_
  refine r_iload (pc' := 40) ok rfl d34_38 rfl ?_
  refine r_putfield (pc' := 43) (host := "") ok rfl d34_40 (Or.inl (hw _ (List.mem_of_getElem? (i := 191) rfl))) Via.refl (Or.inr ⟨(hw _ (List.mem_of_getElem? (i := 192) rfl)), rfl, rfl⟩) (hw _ (List.mem_of_getElem? (i := 76) rfl)) F5 E14 g (ty := .int) (by decide) rfl rfl ?_
  intro h15 W15 F15 E15
  replace F11 := F11.other W15 (Or.inr (slot_ne (Or.inr (hw _ (List.mem_of_getElem? (i := 184) rfl))) (Or.inr (hw _ (List.mem_of_getElem? (i := 192) rfl))) (by decide) (t := .int) (t' := .int) (by decide) (by decide)))
  replace F12 := F12.other W15 (Or.inr (slot_ne (Or.inr (hw _ (List.mem_of_getElem? (i := 186) rfl))) (Or.inr (hw _ (List.mem_of_getElem? (i := 192) rfl))) (by decide) (t := .int) (t' := .int) (by decide) (by decide)))
  replace F13 := F13.other W15 (Or.inr (slot_ne (Or.inr (hw _ (List.mem_of_getElem? (i := 188) rfl))) (Or.inr (hw _ (List.mem_of_getElem? (i := 192) rfl))) (by decide) (t := (.object "java/util/List")) (t' := .int) (by decide) (by decide)))
  replace F14 := F14.other W15 (Or.inr (slot_ne (Or.inr (hw _ (List.mem_of_getElem? (i := 190) rfl))) (Or.inr (hw _ (List.mem_of_getElem? (i := 192) rfl))) (by decide) (t := .int) (t' := .int) (by decide) (by decide)))
  replace F6 := F6.other W15 (Or.inr (slot_ne (Or.inr (hw _ (List.mem_of_getElem? (i := 194) rfl))) (Or.inr (hw _ (List.mem_of_getElem? (i := 192) rfl))) (by decide) (t := (.object "java/util/List")) (t' := .int) (by decide) (by decide)))
  refine r_aloadN (pc' := 44) ok rfl d34_43 rfl rfl ?_
  refine r_aload (pc' := 46) ok rfl d34_44 rfl rfl ?_
  refine r_putfield (pc' := 49) (host := "") ok rfl d34_46 (Or.inl (hw _ (List.mem_of_getElem? (i := 193) rfl))) Via.refl (Or.inr ⟨(hw _ (List.mem_of_getElem? (i := 194) rfl)), rfl, rfl⟩) (hw _ (List.mem_of_getElem? (i := 76) rfl)) F6 E15 g (ty := (.object "java/util/List")) (by decide) rfl rfl ?_
  intro h16 W16 F16 E16
  replace F11 := F11.other W16 (Or.inr (slot_ne (Or.inr (hw _ (List.mem_of_getElem? (i := 184) rfl))) (Or.inr (hw _ (List.mem_of_getElem? (i := 194) rfl))) (by decide) (t := .int) (t' := (.object "java/util/List")) (by decide) (by decide)))
  replace F12 := F12.other W16 (Or.inr (slot_ne (Or.inr (hw _ (List.mem_of_getElem? (i := 186) rfl))) (Or.inr (hw _ (List.mem_of_getElem? (i := 194) rfl))) (by decide) (t := .int) (t' := (.object "java/util/List")) (by decide) (by decide)))
  replace F13 := F13.other W16 (Or.inr (slot_ne (Or.inr (hw _ (List.mem_of_getElem? (i := 188) rfl))) (Or.inr (hw _ (List.mem_of_getElem? (i := 194) rfl))) (by decide) (t := (.object "java/util/List")) (t' := (.object "java/util/List")) (by decide) (by decide)))
  replace F14 := F14.other W16 (Or.inr (slot_ne (Or.inr (hw _ (List.mem_of_getElem? (i := 190) rfl))) (Or.inr (hw _ (List.mem_of_getElem? (i := 194) rfl))) (by decide) (t := .int) (t' := (.object "java/util/List")) (by decide) (by decide)))
  replace F15 := F15.other W16 (Or.inr (slot_ne (Or.inr (hw _ (List.mem_of_getElem? (i := 192) rfl))) (Or.inr (hw _ (List.mem_of_getElem? (i := 194) rfl))) (by decide) (t := .int) (t' := (.object "java/util/List")) (by decide) (by decide)))
  refine r_return ok d34_49 ?_ (by decide) (by decide)
  have m : a ∈ [a] := List.mem_singleton.mpr rfl
  exact ⟨(((((((Keep.refl h0 [a]).trans K3 (fun x hx => nomatch hx)).wr W11 (Or.inl m)).wr W12 (Or.inl m)).wr W13 (Or.inl m)).wr W14 (Or.inl m)).wr W15 (Or.inl m)).wr W16 (Or.inl m), t, gt, zt, ⟨E16, F11, F12, F13, F14, F15, F16⟩, (((((Lt.ow W11 nt).ow W12 nt).ow W13 nt).ow W14 nt).ow W15 nt).ow W16 nt⟩
theorem d35_0 : decode prog_26_method_2_code 0 = .ok (.aload_n 0, 1) := by decide +kernel
theorem d35_1 : decode prog_26_method_2_code 1 = .ok (.iload_n 1, 1) := by decide +kernel
theorem d35_2 : decode prog_26_method_2_code 2 = .ok (.iload_n 2, 1) := by decide +kernel
theorem d35_3 : decode prog_26_method_2_code 3 = .ok (.invokestatic 35, 3) := by decide +kernel
theorem d35_6 : decode prog_26_method_2_code 6 = .ok (.iconst 0, 1) := by decide +kernel
theorem d35_7 : decode prog_26_method_2_code 7 = .ok (.iload_n 3, 1) := by decide +kernel
theorem d35_8 : decode prog_26_method_2_code 8 = .ok (.aload 4, 2) := by decide +kernel
theorem d35_10 : decode prog_26_method_2_code 10 = .ok (.invokespecial 39, 3) := by decide +kernel
theorem d35_13 : decode prog_26_method_2_code 13 = .ok (.return_, 1) := by decide +kernel
abbrev RK4 : Room := { frames := 9, cells := 2, slots := 3, locals := 250 }
set_option maxRecDepth 65536 in
theorem rmKL4 (l : Launch) (Z : State) (a0 : Array Value) (hw : ∀ d ∈ tables_1, d.before a0 Z = true) (a el al b e em mr : Addr) (p q s : Int32) (kb : ClassId) (v1 v2 v3 v4 v5 v6 vm : Value) (h0 : Heap) (A : KLs Z h0 a v1 v2 v3 v4 v5 v6) (g : Z.heap.size ≤ a) (SE : Sta Z Z.heap "java/util/ImmutableCollections" "EMPTY_LIST" "Ljava/util/ImmutableCollections$ListN;" (.ref el)) (Eel : Exa Z h0 el LN) (Fel : Fld Z h0 el LN "allowNulls" "Z" (.int 0)) (L : ALs Z h0 al vm (.ref b) (.int 1)) (V : Arv Z h0 b kb (.object "java/lang/Object") 10 [.ref e] .null) (Xb : Exa Z h0 b OA) (Ee : Exa Z h0 e TK) (M : Mir Z OA mr) (SM : Sta Z Z.heap "java/util/ImmutableCollections" "EMPTY" LO (.ref em)) :
    Con l Z [] [] false (⟨"com/example/stackloom/stackloom/model/KernelLayout", "<init>", "(IIILjava/util/List;)V"⟩ : MethodName) prog_26_method_2_code 5 none RK4 #[.ref a, .int p, .int q, .int s, .ref al] h0 (rU fun h => Keep h0 h [a] ∧ ∃ t, h0.size ≤ t ∧ Z.heap.size ≤ t ∧ KLs Z h a (.int p) (.int q) (.ref el) (.int 0) (.int s) (.ref t) ∧ L12s Z h t (.ref e) (.ref em)) := by
  refine body (ls := #[.val (.ref a), .val (.int p), .val (.int q), .val (.int s), .val (.ref al)]) (plainFor_of_name pn_5) (fun m => by first | (simp [entryFrame, mkF, argsToLocals, Value.category]; done) | rfl) fun K ok => ?_
  refine r_aloadN (pc' := 1) ok rfl d35_0 rfl rfl ?_
  refine r_iloadN (pc' := 2) ok rfl d35_1 rfl ?_
  refine r_iloadN (pc' := 3) ok rfl d35_2 rfl ?_
  refine r_static (pc' := 6) ok rfl d35_3 (hw _ (List.mem_of_getElem? (i := 81) rfl)) (hw _ (List.mem_of_getElem? (i := 82) rfl)) (hw _ (List.mem_of_getElem? (i := 83) rfl)) (hw _ (List.mem_of_getElem? (i := 84) rfl)) (by decide) pd_8 (Con.pay (W := 3) (rmLo0 l Z a0 hw el h0 SE) EW.nil (hw _ (List.mem_of_getElem? (i := 84) rfl)) (hw _ (List.mem_of_getElem? (i := 83) rfl)) (by decide) (by decide)) (fun q => nomatch q) (Or.inl rfl) rfl (argsL := []) (rest := [(.int q), (.int p), (.ref a)]) rfl rfl rfl (Nat.le_of_ble_eq_true rfl) (by decide) (by decide) (cV fun x1 h1 q1 le1 => ?_)
  obtain ⟨rfl, rfl⟩ := q1
  refine r_iconstV (pc' := 7) ok rfl (0 : Int32) d35_6 rfl ?_
  refine r_iloadN (pc' := 8) ok rfl d35_7 rfl ?_
  refine r_aload (pc' := 10) ok rfl d35_8 rfl rfl ?_
  refine r_special (pc' := 13) ok rfl d35_10 rfl (hw _ (List.mem_of_getElem? (i := 87) rfl)) (hw _ (List.mem_of_getElem? (i := 88) rfl)) (hw _ (List.mem_of_getElem? (i := 89) rfl)) (by decide) pd_9 (Con.pay (W := 0) (rmKL6 l Z a0 hw a el al b e em mr p q 0 s kb v1 v2 v3 v4 v5 v6 vm h0 A g Eel Fel L V Xb Ee M SM) EW.nil (hw _ (List.mem_of_getElem? (i := 89) rfl)) (hw _ (List.mem_of_getElem? (i := 77) rfl)) (by decide) (by decide)) (fun q => nomatch q) (Or.inl rfl) rfl (argsL := [(.int p), (.int q), (.ref el), .int _, (.int s), (.ref al)]) (rest := []) rfl rfl rfl (Nat.le_of_ble_eq_true rfl) (by decide) (by decide) (cU fun h2 q2 le2 => ?_)
  refine r_return ok d35_13 ?_ (by decide) (by decide)
  exact q2
/-! the watch's own parts -/
def HMs (Z : State) (h : Heap) (a : Addr) (v1 v2 : Value) : Prop := Exa Z h a HM ∧ Fld Z h a HM "table" "[Ljava/util/HashMap$Node;" v1 ∧ Fld Z h a HM "loadFactor" "F" v2
theorem d36_0 : decode jdk_69_method_7_code 0 = .ok (.aload_n 0, 1) := by decide +kernel
theorem d36_1 : decode jdk_69_method_7_code 1 = .ok (.invokespecial 43, 3) := by decide +kernel
theorem d36_4 : decode jdk_69_method_7_code 4 = .ok (.aload_n 0, 1) := by decide +kernel
theorem d36_5 : decode jdk_69_method_7_code 5 = .ok (.ldc 92, 2) := by decide +kernel
theorem d36_7 : decode jdk_69_method_7_code 7 = .ok (.putfield 81, 3) := by decide +kernel
theorem d36_10 : decode jdk_69_method_7_code 10 = .ok (.return_, 1) := by decide +kernel
set_option maxRecDepth 65536 in
theorem rmHM (l : Launch) (Z : State) (a0 : Array Value) (hw : ∀ d ∈ tables_1, d.before a0 Z = true) (a : Addr) (v1 v2 : Value) (h0 : Heap) (A : HMs Z h0 a v1 v2) (g : Z.heap.size ≤ a) : Con l Z [] [] false (⟨"java/util/HashMap", "<init>", "()V"⟩ : MethodName) jdk_69_method_7_code 1 none R2 #[.ref a] h0 (rU fun h => Keep h0 h [a] ∧ ∃ v, HMs Z h a v1 v) := by
  obtain ⟨E, F1, F2⟩ := A
  refine body (ls := #[.val (.ref a)]) (plainFor_of_name pn_15) (fun m => by first | (simp [entryFrame, mkF, argsToLocals, Value.category]; done) | rfl) fun K ok => ?_
  refine r_aloadN (pc' := 1) ok rfl d36_0 rfl rfl ?_
  refine r_special (pc' := 4) ok rfl d36_1 rfl (hw _ (List.mem_of_getElem? (i := 224) rfl)) (hw _ (List.mem_of_getElem? (i := 225) rfl)) (hw _ (List.mem_of_getElem? (i := 229) rfl)) (by decide) pd_0 (Con.pay (W := 0) (rmAM l Z a0 hw a h0) EW.nil (hw _ (List.mem_of_getElem? (i := 229) rfl)) (hw _ (List.mem_of_getElem? (i := 228) rfl)) (by decide) (by decide)) (fun q => nomatch q) (Or.inl rfl) rfl (argsL := []) (rest := []) rfl rfl rfl (Nat.le_of_ble_eq_true rfl) (by decide) (by decide) (cU fun h1 q1 le1 => ?_)
  subst q1
  refine r_aloadN (pc' := 5) ok rfl d36_4 rfl rfl ?_
  refine r_ldcF (pc' := 7) ok rfl d36_5 (hw _ (List.mem_of_getElem? (i := 231) rfl)) ?_
  refine r_putfield (pc' := 10) (host := "") ok rfl d36_7 (Or.inl (hw _ (List.mem_of_getElem? (i := 232) rfl))) Via.refl (Or.inr ⟨(hw _ (List.mem_of_getElem? (i := 233) rfl)), rfl, rfl⟩) (hw _ (List.mem_of_getElem? (i := 219) rfl)) F2 E g (ty := .float) (by decide) rfl rfl ?_
  intro h2 W2 F2 E2
  replace F1 := F1.other W2 (Or.inr (slot_ne (Or.inl (hw _ (List.mem_of_getElem? (i := 475) rfl))) (Or.inr (hw _ (List.mem_of_getElem? (i := 233) rfl))) (by decide) (t := (.array (.object "java/util/HashMap$Node"))) (t' := .float) (by decide) (by decide)))
  refine r_return ok d36_10 ?_ (by decide) (by decide)
  exact ⟨(Keep.refl h0 [a]).wr W2 (Or.inl (List.mem_singleton.mpr rfl)), _, E2, F1, F2⟩
def BSs (Z : State) (h : Heap) (a : Addr) (v1 v2 v3 : Value) : Prop := Exa Z h a BS ∧ Fld Z h a BS "wordsInUse" "I" v1 ∧ Fld Z h a BS "sizeIsSticky" "Z" v2 ∧ Fld Z h a BS "words" "[J" v3
theorem d37_0 : decode jdk_92_method_6_code 0 = .ok (.aload_n 0, 1) := by decide +kernel
theorem d37_1 : decode jdk_92_method_6_code 1 = .ok (.iload_n 1, 1) := by decide +kernel
theorem d37_2 : decode jdk_92_method_6_code 2 = .ok (.iconst 1, 1) := by decide +kernel
theorem d37_3 : decode jdk_92_method_6_code 3 = .ok (.isub, 1) := by decide +kernel
theorem d37_4 : decode jdk_92_method_6_code 4 = .ok (.invokestatic 52, 3) := by decide +kernel
theorem d37_7 : decode jdk_92_method_6_code 7 = .ok (.iconst 1, 1) := by decide +kernel
theorem d37_8 : decode jdk_92_method_6_code 8 = .ok (.iadd, 1) := by decide +kernel
theorem d37_9 : decode jdk_92_method_6_code 9 = .ok (.newarray .long, 2) := by decide +kernel
theorem d37_11 : decode jdk_92_method_6_code 11 = .ok (.putfield 11, 3) := by decide +kernel
theorem d37_14 : decode jdk_92_method_6_code 14 = .ok (.return_, 1) := by decide +kernel
abbrev RB : Room := { frames := 1, cells := 1, slots := 1, locals := 30 }
set_option maxRecDepth 65536 in
theorem rmIW (l : Launch) (Z : State) (a0 : Array Value) (hw : ∀ d ∈ tables_1, d.before a0 Z = true) (a : Addr) (v1 v2 v3 : Value) (h0 : Heap) (A : BSs Z h0 a v1 v2 v3) (g : Z.heap.size ≤ a) : Con l Z [] [] false (⟨"java/util/BitSet", "initWords", "(I)V"⟩ : MethodName) jdk_92_method_6_code 2 none RB #[.ref a, .int 64] h0 (rU fun h => Keep h0 h [a] ∧ ∃ v, BSs Z h a v1 v2 v) := by
  obtain ⟨E, F1, F2, F3⟩ := A
  refine body (ls := #[.val (.ref a), .val (.int 64)]) (plainFor_of_name pn_17) (fun m => by first | (simp [entryFrame, mkF, argsToLocals, Value.category]; done) | rfl) fun K ok => ?_
  refine r_aloadN (pc' := 1) ok rfl d37_0 rfl rfl ?_
  refine r_iloadN (pc' := 2) ok rfl d37_1 rfl ?_
  refine r_iconstV (pc' := 3) ok rfl (1 : Int32) d37_2 rfl ?_
  refine r_isub (pc' := 4) ok rfl d37_3 ?_
  refine r_static (pc' := 7) ok rfl d37_4 (hw _ (List.mem_of_getElem? (i := 252) rfl)) (hw _ (List.mem_of_getElem? (i := 253) rfl)) (hw _ (List.mem_of_getElem? (i := 238) rfl)) (hw _ (List.mem_of_getElem? (i := 254) rfl)) (by decide) pd_22 (Con.pay (W := 1) (rmWI l Z a0 hw (64 - 1) h0) EW.nil (hw _ (List.mem_of_getElem? (i := 254) rfl)) (hw _ (List.mem_of_getElem? (i := 238) rfl)) (by decide) (by decide)) (fun q => nomatch q) (Or.inl rfl) rfl (argsL := [.int _]) (rest := [(.ref a)]) rfl rfl rfl (Nat.le_of_ble_eq_true rfl) (by decide) (by decide) (cV fun x1 h1 q1 le1 => ?_)
  obtain ⟨rfl, rfl⟩ := q1
  refine r_iconstV (pc' := 8) ok rfl (1 : Int32) d37_7 rfl ?_
  refine r_iadd (pc' := 9) ok rfl d37_8 ?_
  rw [show ((64 : Int32) - 1) >>> ((6 : Int32) &&& 31) + 1 = 1 from by decide]
  refine r_newarray (pc' := 11) ok rfl (1) d37_9 (hw _ (List.mem_of_getElem? (i := 255) rfl)) (by decide) (by decide) (by decide) (by decide) (by decide) ?_
  intro h2 b2 k2 g2 z2 E2 V2
  refine r_putfield (pc' := 14) (host := "") ok rfl d37_11 (Or.inl (hw _ (List.mem_of_getElem? (i := 256) rfl))) Via.refl (Or.inl (hw _ (List.mem_of_getElem? (i := 257) rfl))) (hw _ (List.mem_of_getElem? (i := 237) rfl)) (F3.ext E2) (E.ext E2) g (ty := (.array .long)) (by decide) rfl rfl ?_
  intro h3 W3 F3 E3
  replace F1 := F1.ext E2
  replace F2 := F2.ext E2
  replace F1 := F1.other W3 (Or.inr (slot_ne (Or.inl (hw _ (List.mem_of_getElem? (i := 244) rfl))) (Or.inl (hw _ (List.mem_of_getElem? (i := 257) rfl))) (by decide) (t := .int) (t' := (.array .long)) (by decide) (by decide)))
  replace F2 := F2.other W3 (Or.inr (slot_ne (Or.inl (hw _ (List.mem_of_getElem? (i := 246) rfl))) (Or.inl (hw _ (List.mem_of_getElem? (i := 257) rfl))) (by decide) (t := .boolean) (t' := (.array .long)) (by decide) (by decide)))
  refine r_return ok d37_14 ?_ (by decide) (by decide)
  exact ⟨((Keep.refl h0 [a]).ext E2).wr W3 (Or.inl (List.mem_singleton.mpr rfl)), _, E3, F1, F2, F3⟩
theorem d38_0 : decode jdk_92_method_4_code 0 = .ok (.aload_n 0, 1) := by decide +kernel
theorem d38_1 : decode jdk_92_method_4_code 1 = .ok (.invokespecial 21, 3) := by decide +kernel
theorem d38_4 : decode jdk_92_method_4_code 4 = .ok (.aload_n 0, 1) := by decide +kernel
theorem d38_5 : decode jdk_92_method_4_code 5 = .ok (.iconst 0, 1) := by decide +kernel
theorem d38_6 : decode jdk_92_method_4_code 6 = .ok (.putfield 7, 3) := by decide +kernel
theorem d38_9 : decode jdk_92_method_4_code 9 = .ok (.aload_n 0, 1) := by decide +kernel
theorem d38_10 : decode jdk_92_method_4_code 10 = .ok (.iconst 0, 1) := by decide +kernel
theorem d38_11 : decode jdk_92_method_4_code 11 = .ok (.putfield 24, 3) := by decide +kernel
theorem d38_14 : decode jdk_92_method_4_code 14 = .ok (.aload_n 0, 1) := by decide +kernel
theorem d38_15 : decode jdk_92_method_4_code 15 = .ok (.bipush 64, 2) := by decide +kernel
theorem d38_17 : decode jdk_92_method_4_code 17 = .ok (.invokevirtual 27, 3) := by decide +kernel
theorem d38_20 : decode jdk_92_method_4_code 20 = .ok (.aload_n 0, 1) := by decide +kernel
theorem d38_21 : decode jdk_92_method_4_code 21 = .ok (.iconst 0, 1) := by decide +kernel
theorem d38_22 : decode jdk_92_method_4_code 22 = .ok (.putfield 24, 3) := by decide +kernel
theorem d38_25 : decode jdk_92_method_4_code 25 = .ok (.return_, 1) := by decide +kernel
abbrev RB2 : Room := { frames := 2, cells := 1, slots := 1, locals := 60 }
set_option maxRecDepth 65536 in
theorem rmBS (l : Launch) (Z : State) (a0 : Array Value) (hw : ∀ d ∈ tables_1, d.before a0 Z = true) (a : Addr) (v1 v2 v3 : Value) (h0 : Heap) (A : BSs Z h0 a v1 v2 v3) (g : Z.heap.size ≤ a) : Con l Z [] [] false (⟨"java/util/BitSet", "<init>", "()V"⟩ : MethodName) jdk_92_method_4_code 1 none RB2 #[.ref a] h0 (rU fun h => Keep h0 h [a]) := by
  obtain ⟨E, F1, F2, F3⟩ := A
  refine body (ls := #[.val (.ref a)]) (plainFor_of_name pn_17) (fun m => by first | (simp [entryFrame, mkF, argsToLocals, Value.category]; done) | rfl) fun K ok => ?_
  refine r_aloadN (pc' := 1) ok rfl d38_0 rfl rfl ?_
  refine r_init (pc' := 4) ok rfl d38_1 (hw _ (List.mem_of_getElem? (i := 242) rfl)) (hw _ (List.mem_of_getElem? (i := 19) rfl)) (hw _ (List.mem_of_getElem? (i := 20) rfl)) rfl (by decide) (Nat.le_of_ble_eq_true rfl) ?_
  refine r_aloadN (pc' := 5) ok rfl d38_4 rfl rfl ?_
  refine r_iconstV (pc' := 6) ok rfl (0 : Int32) d38_5 rfl ?_
  refine r_putfield (pc' := 9) (host := "") ok rfl d38_6 (Or.inl (hw _ (List.mem_of_getElem? (i := 243) rfl))) Via.refl (Or.inl (hw _ (List.mem_of_getElem? (i := 244) rfl))) (hw _ (List.mem_of_getElem? (i := 237) rfl)) F1 E g (ty := .int) (by decide) rfl rfl ?_
  intro h4 W4 F4 E4
  replace F2 := F2.other W4 (Or.inr (slot_ne (Or.inl (hw _ (List.mem_of_getElem? (i := 246) rfl))) (Or.inl (hw _ (List.mem_of_getElem? (i := 244) rfl))) (by decide) (t := .boolean) (t' := .int) (by decide) (by decide)))
  replace F3 := F3.other W4 (Or.inr (slot_ne (Or.inl (hw _ (List.mem_of_getElem? (i := 257) rfl))) (Or.inl (hw _ (List.mem_of_getElem? (i := 244) rfl))) (by decide) (t := (.array .long)) (t' := .int) (by decide) (by decide)))
  refine r_aloadN (pc' := 10) ok rfl d38_9 rfl rfl ?_
  refine r_iconstV (pc' := 11) ok rfl (0 : Int32) d38_10 rfl ?_
  refine r_putfieldN (pc' := 14) ok rfl d38_11 (hw _ (List.mem_of_getElem? (i := 245) rfl)) Via.refl (Or.inl (hw _ (List.mem_of_getElem? (i := 246) rfl))) (hw _ (List.mem_of_getElem? (i := 237) rfl)) F2 E4 g (ty := .boolean) (by decide) rfl (by decide) ?_
  intro h5 W5 F5 E5
  replace F4 := F4.other W5 (Or.inr (slot_ne (Or.inl (hw _ (List.mem_of_getElem? (i := 244) rfl))) (Or.inl (hw _ (List.mem_of_getElem? (i := 246) rfl))) (by decide) (t := .int) (t' := .boolean) (by decide) (by decide)))
  replace F3 := F3.other W5 (Or.inr (slot_ne (Or.inl (hw _ (List.mem_of_getElem? (i := 257) rfl))) (Or.inl (hw _ (List.mem_of_getElem? (i := 246) rfl))) (by decide) (t := (.array .long)) (t' := .boolean) (by decide) (by decide)))
  refine r_aloadN (pc' := 15) ok rfl d38_14 rfl rfl ?_
  refine r_bipushV (pc' := 17) ok rfl (64 : Int32) d38_15 rfl ?_
  refine r_private (pc' := 20) ok rfl d38_17 (hw _ (List.mem_of_getElem? (i := 247) rfl)) (hw _ (List.mem_of_getElem? (i := 248) rfl)) (hw _ (List.mem_of_getElem? (i := 250) rfl)) (hw _ (List.mem_of_getElem? (i := 249) rfl)) (hw _ (List.mem_of_getElem? (i := 251) rfl)) E5 (by decide) pd_21 (Con.pay (W := 0) (rmIW l Z a0 hw a _ _ _ h5 ⟨E5, F4, F5, F3⟩ g) EW.nil (hw _ (List.mem_of_getElem? (i := 251) rfl)) (hw _ (List.mem_of_getElem? (i := 238) rfl)) (by decide) (by decide)) (fun q => nomatch q) (Or.inl rfl) rfl (argsL := [.int _]) (rest := []) rfl rfl rfl (Nat.le_of_ble_eq_true rfl) (by decide) (by decide) (cU fun h6 q6 le6 => ?_)
  obtain ⟨K6, v6, E6, G1, G2, G3⟩ := q6
  refine r_aloadN (pc' := 21) ok rfl d38_20 rfl rfl ?_
  refine r_iconstV (pc' := 22) ok rfl (0 : Int32) d38_21 rfl ?_
  refine r_putfieldN (pc' := 25) ok rfl d38_22 (hw _ (List.mem_of_getElem? (i := 245) rfl)) Via.refl (Or.inl (hw _ (List.mem_of_getElem? (i := 246) rfl))) (hw _ (List.mem_of_getElem? (i := 237) rfl)) G2 E6 g (ty := .boolean) (by decide) rfl (by decide) ?_
  intro h7 W7 F7 E7
  refine r_return ok d38_25 ?_ (by decide) (by decide)
  have m : a ∈ [a] := List.mem_singleton.mpr rfl
  exact ((((Keep.refl h0 [a]).wr W4 (Or.inl m)).wr W5 (Or.inl m)).trans K6 (fun x hx => Or.inl hx)).wr W7 (Or.inl m)
/-! boxes -/
theorem d39_0 : decode jdk_2055_method_5_code 0 = .ok (.iload_n 0, 1) := by decide +kernel
theorem d39_1 : decode jdk_2055_method_5_code 1 = .ok (.ifCond .eq 9, 3) := by decide +kernel
theorem d39_10 : decode jdk_2055_method_5_code 10 = .ok (.getstatic 31, 3) := by decide +kernel
theorem d39_13 : decode jdk_2055_method_5_code 13 = .ok (.areturn, 1) := by decide +kernel
set_option maxRecDepth 65536 in
theorem rmBv (l : Launch) (Z : State) (a0 : Array Value) (hw : ∀ d ∈ tables_1, d.before a0 Z = true) (bf : Addr) (h0 : Heap) (SF : Sta Z Z.heap "java/lang/Boolean" "FALSE" "Ljava/lang/Boolean;" (.ref bf)) : Con l Z [] [] false (⟨"java/lang/Boolean", "valueOf", "(Z)Ljava/lang/Boolean;"⟩ : MethodName) jdk_2055_method_5_code 1 (some (.object "java/lang/Boolean")) RZ #[.int 0] h0 (rV fun x h => x = .ref bf ∧ h0 = h) := by
  refine body (ls := #[.val (.int 0)]) (plainFor_of_name pn_20) (fun m => by first | (simp [entryFrame, mkF, argsToLocals, Value.category]; done) | rfl) fun K ok => ?_
  refine r_iloadN (pc' := 1) ok rfl d39_0 rfl ?_
  refine r_if_eq (pc' := 4) (pcY := 10) ok rfl d39_1 (by decide) (by decide) ?_ ?_
  rotate_left
  · intro hc
    exact absurd rfl hc
  intro _
  refine r_getstatic (pc' := 13) ok rfl d39_10 (hw _ (List.mem_of_getElem? (i := 313) rfl)) Via.refl SF ?_
  refine r_areturn ok d39_13 rfl rfl rfl (by decide) (by decide) ?_
  exact ⟨rfl, rfl⟩
theorem d40_0 : decode jdk_2055_method_4_code 0 = .ok (.aload_n 0, 1) := by decide +kernel
theorem d40_1 : decode jdk_2055_method_4_code 1 = .ok (.getfield 7, 3) := by decide +kernel
theorem d40_4 : decode jdk_2055_method_4_code 4 = .ok (.ireturn, 1) := by decide +kernel
set_option maxRecDepth 65536 in
theorem rmBb (l : Launch) (Z : State) (a0 : Array Value) (hw : ∀ d ∈ tables_1, d.before a0 Z = true) (a : Addr) (h0 : Heap) (F : Fld Z h0 a "java/lang/Boolean" "value" "Z" (.int 0)) : Con l Z [] [] false (⟨"java/lang/Boolean", "booleanValue", "()Z"⟩ : MethodName) jdk_2055_method_4_code 1 (some .boolean) RZ #[.ref a] h0 (rV fun x h => x = .int 0 ∧ h0 = h) := by
  refine body (ls := #[.val (.ref a)]) (plainFor_of_name pn_20) (fun m => by first | (simp [entryFrame, mkF, argsToLocals, Value.category]; done) | rfl) fun K ok => ?_
  refine r_aloadN (pc' := 1) ok rfl d40_0 rfl rfl ?_
  refine r_getfield (pc' := 4) (host := "") ok rfl d40_1 (Or.inl (hw _ (List.mem_of_getElem? (i := 330) rfl))) Via.refl F ?_
  refine r_ireturn ok d40_4 rfl (by simp) (by decide) (by decide) ?_
  exact ⟨rfl, rfl⟩
theorem d41_0 : decode jdk_33_method_27_code 0 = .ok (.aload_n 0, 1) := by decide +kernel
theorem d41_1 : decode jdk_33_method_27_code 1 = .ok (.getfield 205, 3) := by decide +kernel
theorem d41_4 : decode jdk_33_method_27_code 4 = .ok (.ireturn, 1) := by decide +kernel
set_option maxRecDepth 65536 in
theorem rmIv (l : Launch) (Z : State) (a0 : Array Value) (hw : ∀ d ∈ tables_1, d.before a0 Z = true) (a : Addr) (n : Int32) (h0 : Heap) (F : Fld Z h0 a "java/lang/Integer" "value" "I" (.int n)) : Con l Z [] [] false (⟨"java/lang/Integer", "intValue", "()I"⟩ : MethodName) jdk_33_method_27_code 1 (some .int) RZ #[.ref a] h0 (rV fun x h => x = .int n ∧ h0 = h) := by
  refine body (ls := #[.val (.ref a)]) (plainFor_of_name pn_18) (fun m => by first | (simp [entryFrame, mkF, argsToLocals, Value.category]; done) | rfl) fun K ok => ?_
  refine r_aloadN (pc' := 1) ok rfl d41_0 rfl rfl ?_
  refine r_getfield (pc' := 4) (host := "") ok rfl d41_1 (Or.inl (hw _ (List.mem_of_getElem? (i := 486) rfl))) Via.refl F ?_
  refine r_ireturn ok d41_4 rfl (by simp) (by decide) (by decide) ?_
  exact ⟨rfl, rfl⟩
/-! the counts -/
def KCs (Z : State) (h : Heap) (a : Addr) (v1 v2 v3 v4 v5 : Value) : Prop := Exa Z h a KC ∧ Fld Z h a KC "cycles" "J" v1 ∧ Fld Z h a KC "initCycles" "J" v2 ∧ Fld Z h a KC "entries" "J" v3 ∧ Fld Z h a KC "dispatches" "J" v4 ∧ Fld Z h a KC "tasksDone" "J" v5
theorem d42_0 : decode prog_33_method_1_code 0 = .ok (.aload_n 0, 1) := by decide +kernel
theorem d42_1 : decode prog_33_method_1_code 1 = .ok (.invokespecial 1, 3) := by decide +kernel
theorem d42_4 : decode prog_33_method_1_code 4 = .ok (.aload_n 0, 1) := by decide +kernel
theorem d42_5 : decode prog_33_method_1_code 5 = .ok (.lload_n 1, 1) := by decide +kernel
theorem d42_6 : decode prog_33_method_1_code 6 = .ok (.putfield 7, 3) := by decide +kernel
theorem d42_9 : decode prog_33_method_1_code 9 = .ok (.aload_n 0, 1) := by decide +kernel
theorem d42_10 : decode prog_33_method_1_code 10 = .ok (.lload_n 3, 1) := by decide +kernel
theorem d42_11 : decode prog_33_method_1_code 11 = .ok (.putfield 13, 3) := by decide +kernel
theorem d42_14 : decode prog_33_method_1_code 14 = .ok (.aload_n 0, 1) := by decide +kernel
theorem d42_15 : decode prog_33_method_1_code 15 = .ok (.lload 5, 2) := by decide +kernel
theorem d42_17 : decode prog_33_method_1_code 17 = .ok (.putfield 16, 3) := by decide +kernel
theorem d42_20 : decode prog_33_method_1_code 20 = .ok (.aload_n 0, 1) := by decide +kernel
theorem d42_21 : decode prog_33_method_1_code 21 = .ok (.lload 7, 2) := by decide +kernel
theorem d42_23 : decode prog_33_method_1_code 23 = .ok (.putfield 19, 3) := by decide +kernel
theorem d42_26 : decode prog_33_method_1_code 26 = .ok (.aload_n 0, 1) := by decide +kernel
theorem d42_27 : decode prog_33_method_1_code 27 = .ok (.lload 9, 2) := by decide +kernel
theorem d42_29 : decode prog_33_method_1_code 29 = .ok (.putfield 22, 3) := by decide +kernel
theorem d42_32 : decode prog_33_method_1_code 32 = .ok (.return_, 1) := by decide +kernel
set_option maxRecDepth 65536 in
theorem rmKC (l : Launch) (Z : State) (a0 : Array Value) (hw : ∀ d ∈ tables_1, d.before a0 Z = true) (a : Addr) (p q r s t : Int64) (v1 v2 v3 v4 v5 : Value) (h0 : Heap) (A : KCs Z h0 a v1 v2 v3 v4 v5) (g : Z.heap.size ≤ a) :
    Con l Z [] [] false (⟨"com/example/stackloom/stackloom/service/Core$KernelCounts", "<init>", "(JJJJJ)V"⟩ : MethodName) prog_33_method_1_code 11 none R2 #[.ref a, .long p, .long q, .long r, .long s, .long t] h0 (rU fun h => Keep h0 h [a] ∧ KCs Z h a (.long p) (.long q) (.long r) (.long s) (.long t)) := by
  obtain ⟨E, F1, F2, F3, F4, F5⟩ := A
  refine body (ls := #[.val (.ref a), .val (.long p), .second, .val (.long q), .second, .val (.long r), .second, .val (.long s), .second, .val (.long t), .second]) (plainFor_of_name pn_22) (fun m => by first | (simp [entryFrame, mkF, argsToLocals, Value.category]; done) | rfl) fun K ok => ?_
  refine r_aloadN (pc' := 1) ok rfl d42_0 rfl rfl ?_
  refine r_special (pc' := 4) ok rfl d42_1 rfl (hw _ (List.mem_of_getElem? (i := 423) rfl)) (hw _ (List.mem_of_getElem? (i := 33) rfl)) (hw _ (List.mem_of_getElem? (i := 36) rfl)) (by decide) pd_0 (Con.pay (W := 0) (rmRec l Z a0 hw a h0) EW.nil (hw _ (List.mem_of_getElem? (i := 36) rfl)) (hw _ (List.mem_of_getElem? (i := 35) rfl)) (by decide) (by decide)) (fun q => nomatch q) (Or.inl rfl) rfl (argsL := []) (rest := []) rfl rfl rfl (Nat.le_of_ble_eq_true rfl) (by decide) (by decide) (cU fun h1 q1 le1 => ?_)
  subst q1
  refine r_aloadN (pc' := 5) ok rfl d42_4 rfl rfl ?_
  refine r_lloadN (pc' := 6) ok rfl d42_5 rfl ?_
  refine r_putfield (pc' := 9) (host := "") ok rfl d42_6 (Or.inl (hw _ (List.mem_of_getElem? (i := 424) rfl))) Via.refl (Or.inr ⟨(hw _ (List.mem_of_getElem? (i := 425) rfl)), rfl, rfl⟩) (hw _ (List.mem_of_getElem? (i := 408) rfl)) F1 E g (ty := .long) (by decide) rfl rfl ?_
  intro h11 W11 F11 E11
  replace F2 := F2.other W11 (Or.inr (slot_ne (Or.inr (hw _ (List.mem_of_getElem? (i := 427) rfl))) (Or.inr (hw _ (List.mem_of_getElem? (i := 425) rfl))) (by decide) (t := .long) (t' := .long) (by decide) (by decide)))
  replace F3 := F3.other W11 (Or.inr (slot_ne (Or.inr (hw _ (List.mem_of_getElem? (i := 429) rfl))) (Or.inr (hw _ (List.mem_of_getElem? (i := 425) rfl))) (by decide) (t := .long) (t' := .long) (by decide) (by decide)))
  replace F4 := F4.other W11 (Or.inr (slot_ne (Or.inr (hw _ (List.mem_of_getElem? (i := 431) rfl))) (Or.inr (hw _ (List.mem_of_getElem? (i := 425) rfl))) (by decide) (t := .long) (t' := .long) (by decide) (by decide)))
  replace F5 := F5.other W11 (Or.inr (slot_ne (Or.inr (hw _ (List.mem_of_getElem? (i := 433) rfl))) (Or.inr (hw _ (List.mem_of_getElem? (i := 425) rfl))) (by decide) (t := .long) (t' := .long) (by decide) (by decide)))
  refine r_aloadN (pc' := 10) ok rfl d42_9 rfl rfl ?_
  refine r_lloadN (pc' := 11) ok rfl d42_10 rfl ?_
  refine r_putfield (pc' := 14) (host := "") ok rfl d42_11 (Or.inl (hw _ (List.mem_of_getElem? (i := 426) rfl))) Via.refl (Or.inr ⟨(hw _ (List.mem_of_getElem? (i := 427) rfl)), rfl, rfl⟩) (hw _ (List.mem_of_getElem? (i := 408) rfl)) F2 E11 g (ty := .long) (by decide) rfl rfl ?_
  intro h12 W12 F12 E12
  replace F11 := F11.other W12 (Or.inr (slot_ne (Or.inr (hw _ (List.mem_of_getElem? (i := 425) rfl))) (Or.inr (hw _ (List.mem_of_getElem? (i := 427) rfl))) (by decide) (t := .long) (t' := .long) (by decide) (by decide)))
  replace F3 := F3.other W12 (Or.inr (slot_ne (Or.inr (hw _ (List.mem_of_getElem? (i := 429) rfl))) (Or.inr (hw _ (List.mem_of_getElem? (i := 427) rfl))) (by decide) (t := .long) (t' := .long) (by decide) (by decide)))
  replace F4 := F4.other W12 (Or.inr (slot_ne (Or.inr (hw _ (List.mem_of_getElem? (i := 431) rfl))) (Or.inr (hw _ (List.mem_of_getElem? (i := 427) rfl))) (by decide) (t := .long) (t' := .long) (by decide) (by decide)))
  replace F5 := F5.other W12 (Or.inr (slot_ne (Or.inr (hw _ (List.mem_of_getElem? (i := 433) rfl))) (Or.inr (hw _ (List.mem_of_getElem? (i := 427) rfl))) (by decide) (t := .long) (t' := .long) (by decide) (by decide)))
  refine r_aloadN (pc' := 15) ok rfl d42_14 rfl rfl ?_
  refine r_lload (pc' := 17) ok rfl d42_15 rfl ?_
  refine r_putfield (pc' := 20) (host := "") ok rfl d42_17 (Or.inl (hw _ (List.mem_of_getElem? (i := 428) rfl))) Via.refl (Or.inr ⟨(hw _ (List.mem_of_getElem? (i := 429) rfl)), rfl, rfl⟩) (hw _ (List.mem_of_getElem? (i := 408) rfl)) F3 E12 g (ty := .long) (by decide) rfl rfl ?_
  intro h13 W13 F13 E13
  replace F11 := F11.other W13 (Or.inr (slot_ne (Or.inr (hw _ (List.mem_of_getElem? (i := 425) rfl))) (Or.inr (hw _ (List.mem_of_getElem? (i := 429) rfl))) (by decide) (t := .long) (t' := .long) (by decide) (by decide)))
  replace F12 := F12.other W13 (Or.inr (slot_ne (Or.inr (hw _ (List.mem_of_getElem? (i := 427) rfl))) (Or.inr (hw _ (List.mem_of_getElem? (i := 429) rfl))) (by decide) (t := .long) (t' := .long) (by decide) (by decide)))
  replace F4 := F4.other W13 (Or.inr (slot_ne (Or.inr (hw _ (List.mem_of_getElem? (i := 431) rfl))) (Or.inr (hw _ (List.mem_of_getElem? (i := 429) rfl))) (by decide) (t := .long) (t' := .long) (by decide) (by decide)))
  replace F5 := F5.other W13 (Or.inr (slot_ne (Or.inr (hw _ (List.mem_of_getElem? (i := 433) rfl))) (Or.inr (hw _ (List.mem_of_getElem? (i := 429) rfl))) (by decide) (t := .long) (t' := .long) (by decide) (by decide)))
  refine r_aloadN (pc' := 21) ok rfl d42_20 rfl rfl ?_
  refine r_lload (pc' := 23) ok rfl d42_21 rfl ?_
  refine r_putfield (pc' := 26) (host := "") ok rfl d42_23 (Or.inl (hw _ (List.mem_of_getElem? (i := 430) rfl))) Via.refl (Or.inr ⟨(hw _ (List.mem_of_getElem? (i := 431) rfl)), rfl, rfl⟩) (hw _ (List.mem_of_getElem? (i := 408) rfl)) F4 E13 g (ty := .long) (by decide) rfl rfl ?_
  intro h14 W14 F14 E14
  replace F11 := F11.other W14 (Or.inr (slot_ne (Or.inr (hw _ (List.mem_of_getElem? (i := 425) rfl))) (Or.inr (hw _ (List.mem_of_getElem? (i := 431) rfl))) (by decide) (t := .long) (t' := .long) (by decide) (by decide)))
  replace F12 := F12.other W14 (Or.inr (slot_ne (Or.inr (hw _ (List.mem_of_getElem? (i := 427) rfl))) (Or.inr (hw _ (List.mem_of_getElem? (i := 431) rfl))) (by decide) (t := .long) (t' := .long) (by decide) (by decide)))
  replace F13 := F13.other W14 (Or.inr (slot_ne (Or.inr (hw _ (List.mem_of_getElem? (i := 429) rfl))) (Or.inr (hw _ (List.mem_of_getElem? (i := 431) rfl))) (by decide) (t := .long) (t' := .long) (by decide) (by decide)))
  replace F5 := F5.other W14 (Or.inr (slot_ne (Or.inr (hw _ (List.mem_of_getElem? (i := 433) rfl))) (Or.inr (hw _ (List.mem_of_getElem? (i := 431) rfl))) (by decide) (t := .long) (t' := .long) (by decide) (by decide)))
  refine r_aloadN (pc' := 27) ok rfl d42_26 rfl rfl ?_
  refine r_lload (pc' := 29) ok rfl d42_27 rfl ?_
  refine r_putfield (pc' := 32) (host := "") ok rfl d42_29 (Or.inl (hw _ (List.mem_of_getElem? (i := 432) rfl))) Via.refl (Or.inr ⟨(hw _ (List.mem_of_getElem? (i := 433) rfl)), rfl, rfl⟩) (hw _ (List.mem_of_getElem? (i := 408) rfl)) F5 E14 g (ty := .long) (by decide) rfl rfl ?_
  intro h15 W15 F15 E15
  replace F11 := F11.other W15 (Or.inr (slot_ne (Or.inr (hw _ (List.mem_of_getElem? (i := 425) rfl))) (Or.inr (hw _ (List.mem_of_getElem? (i := 433) rfl))) (by decide) (t := .long) (t' := .long) (by decide) (by decide)))
  replace F12 := F12.other W15 (Or.inr (slot_ne (Or.inr (hw _ (List.mem_of_getElem? (i := 427) rfl))) (Or.inr (hw _ (List.mem_of_getElem? (i := 433) rfl))) (by decide) (t := .long) (t' := .long) (by decide) (by decide)))
  replace F13 := F13.other W15 (Or.inr (slot_ne (Or.inr (hw _ (List.mem_of_getElem? (i := 429) rfl))) (Or.inr (hw _ (List.mem_of_getElem? (i := 433) rfl))) (by decide) (t := .long) (t' := .long) (by decide) (by decide)))
  replace F14 := F14.other W15 (Or.inr (slot_ne (Or.inr (hw _ (List.mem_of_getElem? (i := 431) rfl))) (Or.inr (hw _ (List.mem_of_getElem? (i := 433) rfl))) (by decide) (t := .long) (t' := .long) (by decide) (by decide)))
  refine r_return ok d42_32 ?_ (by decide) (by decide)
  have m : a ∈ [a] := List.mem_singleton.mpr rfl
  exact ⟨(((((Keep.refl h0 [a]).wr W11 (Or.inl m)).wr W12 (Or.inl m)).wr W13 (Or.inl m)).wr W14 (Or.inl m)).wr W15 (Or.inl m), E15, F11, F12, F13, F14, F15⟩
theorem d43_0 : decode prog_33_method_5_code 0 = .ok (.aload_n 0, 1) := by decide +kernel
theorem d43_1 : decode prog_33_method_5_code 1 = .ok (.getfield 7, 3) := by decide +kernel
theorem d43_4 : decode prog_33_method_5_code 4 = .ok (.lreturn, 1) := by decide +kernel
set_option maxRecDepth 65536 in
theorem rmC1 (l : Launch) (Z : State) (a0 : Array Value) (hw : ∀ d ∈ tables_1, d.before a0 Z = true) (a : Addr) (p : Int64) (h0 : Heap) (F : Fld Z h0 a KC "cycles" "J" (.long p)) : Con l Z [] [] false (⟨"com/example/stackloom/stackloom/service/Core$KernelCounts", "cycles", "()J"⟩ : MethodName) prog_33_method_5_code 1 (some .long) RZ #[.ref a] h0 (rV fun x h => x = .long p ∧ h0 = h) := by
  refine body (ls := #[.val (.ref a)]) (plainFor_of_name pn_22) (fun m => by first | (simp [entryFrame, mkF, argsToLocals, Value.category]; done) | rfl) fun K ok => ?_
  refine r_aloadN (pc' := 1) ok rfl d43_0 rfl rfl ?_
  refine r_getfield (pc' := 4) (host := "") ok rfl d43_1 (Or.inl (hw _ (List.mem_of_getElem? (i := 424) rfl))) Via.refl F ?_
  refine r_lreturn ok d43_4 (by decide) (by decide) ?_
  exact ⟨rfl, rfl⟩
theorem d44_0 : decode prog_33_method_6_code 0 = .ok (.aload_n 0, 1) := by decide +kernel
theorem d44_1 : decode prog_33_method_6_code 1 = .ok (.getfield 13, 3) := by decide +kernel
theorem d44_4 : decode prog_33_method_6_code 4 = .ok (.lreturn, 1) := by decide +kernel
set_option maxRecDepth 65536 in
theorem rmC2 (l : Launch) (Z : State) (a0 : Array Value) (hw : ∀ d ∈ tables_1, d.before a0 Z = true) (a : Addr) (p : Int64) (h0 : Heap) (F : Fld Z h0 a KC "initCycles" "J" (.long p)) : Con l Z [] [] false (⟨"com/example/stackloom/stackloom/service/Core$KernelCounts", "initCycles", "()J"⟩ : MethodName) prog_33_method_6_code 1 (some .long) RZ #[.ref a] h0 (rV fun x h => x = .long p ∧ h0 = h) := by
  refine body (ls := #[.val (.ref a)]) (plainFor_of_name pn_22) (fun m => by first | (simp [entryFrame, mkF, argsToLocals, Value.category]; done) | rfl) fun K ok => ?_
  refine r_aloadN (pc' := 1) ok rfl d44_0 rfl rfl ?_
  refine r_getfield (pc' := 4) (host := "") ok rfl d44_1 (Or.inl (hw _ (List.mem_of_getElem? (i := 426) rfl))) Via.refl F ?_
  refine r_lreturn ok d44_4 (by decide) (by decide) ?_
  exact ⟨rfl, rfl⟩
theorem d45_0 : decode prog_33_method_8_code 0 = .ok (.aload_n 0, 1) := by decide +kernel
theorem d45_1 : decode prog_33_method_8_code 1 = .ok (.getfield 19, 3) := by decide +kernel
theorem d45_4 : decode prog_33_method_8_code 4 = .ok (.lreturn, 1) := by decide +kernel
set_option maxRecDepth 65536 in
theorem rmC3 (l : Launch) (Z : State) (a0 : Array Value) (hw : ∀ d ∈ tables_1, d.before a0 Z = true) (a : Addr) (p : Int64) (h0 : Heap) (F : Fld Z h0 a KC "dispatches" "J" (.long p)) : Con l Z [] [] false (⟨"com/example/stackloom/stackloom/service/Core$KernelCounts", "dispatches", "()J"⟩ : MethodName) prog_33_method_8_code 1 (some .long) RZ #[.ref a] h0 (rV fun x h => x = .long p ∧ h0 = h) := by
  refine body (ls := #[.val (.ref a)]) (plainFor_of_name pn_22) (fun m => by first | (simp [entryFrame, mkF, argsToLocals, Value.category]; done) | rfl) fun K ok => ?_
  refine r_aloadN (pc' := 1) ok rfl d45_0 rfl rfl ?_
  refine r_getfield (pc' := 4) (host := "") ok rfl d45_1 (Or.inl (hw _ (List.mem_of_getElem? (i := 430) rfl))) Via.refl F ?_
  refine r_lreturn ok d45_4 (by decide) (by decide) ?_
  exact ⟨rfl, rfl⟩
/-! a task, and the list of one -/
theorem d46_0 : decode prog_27_method_2_code 0 = .ok (.aload_n 0, 1) := by decide +kernel
theorem d46_1 : decode prog_27_method_2_code 1 = .ok (.getfield 16, 3) := by decide +kernel
theorem d46_4 : decode prog_27_method_2_code 4 = .ok (.iconst 1, 1) := by decide +kernel
theorem d46_5 : decode prog_27_method_2_code 5 = .ok (.iadd, 1) := by decide +kernel
theorem d46_6 : decode prog_27_method_2_code 6 = .ok (.ireturn, 1) := by decide +kernel
set_option maxRecDepth 65536 in
theorem rmTop (l : Launch) (Z : State) (a0 : Array Value) (hw : ∀ d ∈ tables_1, d.before a0 Z = true) (a : Addr) (v1 v2 : Value) (n : Int32) (h0 : Heap) (A : TKs Z h0 a v1 v2 (.int n)) : Con l Z [] [] false (⟨"com/example/stackloom/stackloom/model/KernelLayout$Task", "top", "()I"⟩ : MethodName) prog_27_method_2_code 1 (some .int) RZ #[.ref a] h0 (rV fun x h => x = .int (n + 1) ∧ h0 = h) := by
  refine body (ls := #[.val (.ref a)]) (plainFor_of_name pn_3) (fun m => by first | (simp [entryFrame, mkF, argsToLocals, Value.category]; done) | rfl) fun K ok => ?_
  refine r_aloadN (pc' := 1) ok rfl d46_0 rfl rfl ?_
  refine r_getfield (pc' := 4) (host := "") ok rfl d46_1 (Or.inl (hw _ (List.mem_of_getElem? (i := 42) rfl))) Via.refl A.2.2.2 ?_
  refine r_iconstV (pc' := 5) ok rfl (1 : Int32) d46_4 rfl ?_
  refine r_iadd (pc' := 6) ok rfl d46_5 ?_
  refine r_ireturn ok d46_6 rfl (by simp) (by decide) (by decide) ?_
  exact ⟨rfl, rfl⟩
theorem d47_0 : decode prog_27_method_3_code 0 = .ok (.iload_n 1, 1) := by decide +kernel
theorem d47_1 : decode prog_27_method_3_code 1 = .ok (.aload_n 0, 1) := by decide +kernel
theorem d47_2 : decode prog_27_method_3_code 2 = .ok (.getfield 13, 3) := by decide +kernel
theorem d47_5 : decode prog_27_method_3_code 5 = .ok (.if_icmp .lt 15, 3) := by decide +kernel
theorem d47_8 : decode prog_27_method_3_code 8 = .ok (.iload_n 1, 1) := by decide +kernel
theorem d47_9 : decode prog_27_method_3_code 9 = .ok (.aload_n 0, 1) := by decide +kernel
theorem d47_10 : decode prog_27_method_3_code 10 = .ok (.invokevirtual 19, 3) := by decide +kernel
theorem d47_13 : decode prog_27_method_3_code 13 = .ok (.if_icmp .gt 7, 3) := by decide +kernel
theorem d47_16 : decode prog_27_method_3_code 16 = .ok (.iconst 1, 1) := by decide +kernel
theorem d47_17 : decode prog_27_method_3_code 17 = .ok (.goto 4, 3) := by decide +kernel
theorem d47_20 : decode prog_27_method_3_code 20 = .ok (.iconst 0, 1) := by decide +kernel
theorem d47_21 : decode prog_27_method_3_code 21 = .ok (.ireturn, 1) := by decide +kernel
set_option maxRecDepth 65536 in
theorem rmSp (l : Launch) (Z : State) (a0 : Array Value) (hw : ∀ d ∈ tables_1, d.before a0 Z = true) (a : Addr) (v1 : Value) (m n p : Int32) (h0 : Heap) (A : TKs Z h0 a v1 (.int m) (.int n)) (h1 : ¬ p < m) (h2 : ¬ n + 1 < p) : Con l Z [] [] false (⟨"com/example/stackloom/stackloom/model/KernelLayout$Task", "spans", "(I)Z"⟩ : MethodName) prog_27_method_3_code 2 (some .boolean) R1 #[.ref a, .int p] h0 (rV fun x h => x = .int 1 ∧ h0 = h) := by
  refine body (ls := #[.val (.ref a), .val (.int p)]) (plainFor_of_name pn_3) (fun m => by first | (simp [entryFrame, mkF, argsToLocals, Value.category]; done) | rfl) fun K ok => ?_
  refine r_iloadN (pc' := 1) ok rfl d47_0 rfl ?_
  refine r_aloadN (pc' := 2) ok rfl d47_1 rfl rfl ?_
  refine r_getfield (pc' := 5) (host := "") ok rfl d47_2 (Or.inl (hw _ (List.mem_of_getElem? (i := 40) rfl))) Via.refl A.2.2.1 ?_
  refine r_icmp_lt (pc' := 8) (pcY := 20) ok rfl d47_5 (by decide) (by decide) ?_ ?_
  · intro hc
    exact absurd hc h1
  intro _
  refine r_iloadN (pc' := 9) ok rfl d47_8 rfl ?_
  refine r_aloadN (pc' := 10) ok rfl d47_9 rfl rfl ?_
  refine r_virtual (pc' := 13) ok rfl d47_10 (hw _ (List.mem_of_getElem? (i := 519) rfl)) (hw _ (List.mem_of_getElem? (i := 520) rfl)) (hw _ (List.mem_of_getElem? (i := 522) rfl)) (hw _ (List.mem_of_getElem? (i := 521) rfl)) (nf_sel (C := "com/example/stackloom/stackloom/model/KernelLayout$Task") (z := (⟨"com/example/stackloom/stackloom/model/KernelLayout$Task", "top", "()I"⟩ : MethodName)) (hw _ (List.mem_of_getElem? (i := 522) rfl))) A.1 (by decide) pd_30 (Con.pay (W := 1) (rmTop l Z a0 hw a v1 (.int m) n h0 A) EW.nil (hw _ (List.mem_of_getElem? (i := 523) rfl)) (hw _ (List.mem_of_getElem? (i := 28) rfl)) (by decide) (by decide)) (fun q => nomatch q) (Or.inl rfl) rfl (argsL := []) (rest := [(.int p)]) rfl rfl rfl (Nat.le_of_ble_eq_true rfl) (by decide) (by decide) (cV fun x1 h1 q1 le1 => ?_)
  obtain ⟨rfl, rfl⟩ := q1
  refine r_icmp_gt (pc' := 16) (pcY := 20) ok rfl d47_13 (by decide) (by decide) ?_ ?_
  · intro hc
    exact absurd hc h2
  intro _
  refine r_iconstV (pc' := 17) ok rfl (1 : Int32) d47_16 rfl ?_
  refine r_goto (pc' := 21) ok d47_17 (by decide) (by decide) ?_
  refine r_ireturn ok d47_21 rfl (by simp) (by decide) (by decide) ?_
  exact ⟨rfl, rfl⟩
theorem d48_0 : decode jdk_44_method_3_code 0 = .ok (.aload_n 0, 1) := by decide +kernel
theorem d48_1 : decode jdk_44_method_3_code 1 = .ok (.getfield 24, 3) := by decide +kernel
theorem d48_4 : decode jdk_44_method_3_code 4 = .ok (.getstatic 19, 3) := by decide +kernel
theorem d48_7 : decode jdk_44_method_3_code 7 = .ok (.if_acmp .eq 7, 3) := by decide +kernel
theorem d48_10 : decode jdk_44_method_3_code 10 = .ok (.iconst 2, 1) := by decide +kernel
theorem d48_11 : decode jdk_44_method_3_code 11 = .ok (.goto 4, 3) := by decide +kernel
theorem d48_14 : decode jdk_44_method_3_code 14 = .ok (.iconst 1, 1) := by decide +kernel
theorem d48_15 : decode jdk_44_method_3_code 15 = .ok (.ireturn, 1) := by decide +kernel
set_option maxRecDepth 65536 in
theorem rmLs (l : Launch) (Z : State) (a0 : Array Value) (hw : ∀ d ∈ tables_1, d.before a0 Z = true) (a em : Addr) (v0 : Value) (h0 : Heap) (A : L12s Z h0 a v0 (.ref em)) (SM : Sta Z Z.heap "java/util/ImmutableCollections" "EMPTY" LO (.ref em)) : Con l Z [] [] false (⟨"java/util/ImmutableCollections$List12", "size", "()I"⟩ : MethodName) jdk_44_method_3_code 1 (some .int) RZ #[.ref a] h0 (rV fun x h => x = .int 1 ∧ h0 = h) := by
  refine body (ls := #[.val (.ref a)]) (plainFor_of_name pn_9) (fun m => by first | (simp [entryFrame, mkF, argsToLocals, Value.category]; done) | rfl) fun K ok => ?_
  refine r_aloadN (pc' := 1) ok rfl d48_0 rfl rfl ?_
  refine r_getfield (pc' := 4) (host := "") ok rfl d48_1 (Or.inl (hw _ (List.mem_of_getElem? (i := 181) rfl))) Via.refl A.2.2 ?_
  refine r_getstaticN (pc' := 7) ok rfl d48_4 (Or.inr (hw _ (List.mem_of_getElem? (i := 180) rfl))) Via.refl SM ?_
  refine r_acmp (pc' := 14) (same := true) ok rfl rfl d48_7 (by simp) (by decide) (by decide) ?_
  refine r_iconstV (pc' := 15) ok rfl (1 : Int32) d48_14 rfl ?_
  refine r_ireturn ok d48_15 rfl (by simp) (by decide) (by decide) ?_
  exact ⟨rfl, rfl⟩
theorem d49_0 : decode jdk_44_method_5_code 0 = .ok (.iload_n 1, 1) := by decide +kernel
theorem d49_1 : decode jdk_44_method_5_code 1 = .ok (.ifCond .ne 8, 3) := by decide +kernel
theorem d49_4 : decode jdk_44_method_5_code 4 = .ok (.aload_n 0, 1) := by decide +kernel
theorem d49_5 : decode jdk_44_method_5_code 5 = .ok (.getfield 13, 3) := by decide +kernel
theorem d49_8 : decode jdk_44_method_5_code 8 = .ok (.areturn, 1) := by decide +kernel
theorem d49_9 : decode jdk_44_method_5_code 9 = .ok (.iload_n 1, 1) := by decide +kernel
theorem d49_10 : decode jdk_44_method_5_code 10 = .ok (.iconst 1, 1) := by decide +kernel
theorem d49_11 : decode jdk_44_method_5_code 11 = .ok (.if_icmp .ne 18, 3) := by decide +kernel
theorem d49_14 : decode jdk_44_method_5_code 14 = .ok (.aload_n 0, 1) := by decide +kernel
theorem d49_15 : decode jdk_44_method_5_code 15 = .ok (.getfield 24, 3) := by decide +kernel
theorem d49_18 : decode jdk_44_method_5_code 18 = .ok (.getstatic 19, 3) := by decide +kernel
theorem d49_21 : decode jdk_44_method_5_code 21 = .ok (.if_acmp .eq 8, 3) := by decide +kernel
theorem d49_24 : decode jdk_44_method_5_code 24 = .ok (.aload_n 0, 1) := by decide +kernel
theorem d49_25 : decode jdk_44_method_5_code 25 = .ok (.getfield 24, 3) := by decide +kernel
theorem d49_28 : decode jdk_44_method_5_code 28 = .ok (.areturn, 1) := by decide +kernel
theorem d49_29 : decode jdk_44_method_5_code 29 = .ok (.aload_n 0, 1) := by decide +kernel
theorem d49_30 : decode jdk_44_method_5_code 30 = .ok (.iload_n 1, 1) := by decide +kernel
theorem d49_31 : decode jdk_44_method_5_code 31 = .ok (.invokevirtual 27, 3) := by decide +kernel
theorem d49_34 : decode jdk_44_method_5_code 34 = .ok (.athrow, 1) := by decide +kernel
set_option maxRecDepth 65536 in
theorem rmLg (l : Launch) (Z : State) (a0 : Array Value) (hw : ∀ d ∈ tables_1, d.before a0 Z = true) (a e : Addr) (v1 : Value) (h0 : Heap) (A : L12s Z h0 a (.ref e) v1) : Con l Z [] [] false (⟨"java/util/ImmutableCollections$List12", "get", "(I)Ljava/lang/Object;"⟩ : MethodName) jdk_44_method_5_code 2 (some (.object "java/lang/Object")) RZ #[.ref a, .int 0] h0 (rV fun x h => x = .ref e ∧ h0 = h) := by
  refine body (ls := #[.val (.ref a), .val (.int 0)]) (plainFor_of_name pn_9) (fun m => by first | (simp [entryFrame, mkF, argsToLocals, Value.category]; done) | rfl) fun K ok => ?_
  refine r_iloadN (pc' := 1) ok rfl d49_0 rfl ?_
  refine r_if_ne (pc' := 4) (pcY := 9) ok rfl d49_1 (by decide) (by decide) ?_ ?_
  · intro hc
    exact absurd rfl hc
  intro _
  refine r_aloadN (pc' := 5) ok rfl d49_4 rfl rfl ?_
  refine r_getfield (pc' := 8) (host := "") ok rfl d49_5 (Or.inl (hw _ (List.mem_of_getElem? (i := 178) rfl))) Via.refl A.2.1 ?_
  refine r_areturn ok d49_8 rfl rfl rfl (by decide) (by decide) ?_
  exact ⟨rfl, rfl⟩
/-! the empty list's iterator -/
theorem d50_0 : decode jdk_45_method_3_code 0 = .ok (.aload_n 0, 1) := by decide +kernel
theorem d50_1 : decode jdk_45_method_3_code 1 = .ok (.getfield 7, 3) := by decide +kernel
theorem d50_4 : decode jdk_45_method_3_code 4 = .ok (.arraylength, 1) := by decide +kernel
theorem d50_5 : decode jdk_45_method_3_code 5 = .ok (.ireturn, 1) := by decide +kernel
set_option maxRecDepth 65536 in
theorem rmNs (l : Launch) (Z : State) (a0 : Array Value) (hw : ∀ d ∈ tables_1, d.before a0 Z = true) (a ea : Addr) (k : ClassId) (dv : Value) (h0 : Heap) (F : Fld Z h0 a LN "elements" OA (.ref ea)) (V : Arv Z h0 ea k (.object "java/lang/Object") 0 [] dv) : Con l Z [] [] false (⟨"java/util/ImmutableCollections$ListN", "size", "()I"⟩ : MethodName) jdk_45_method_3_code 1 (some .int) RZ #[.ref a] h0 (rV fun x h => x = .int 0 ∧ h0 = h) := by
  refine body (ls := #[.val (.ref a)]) (plainFor_of_name pn_19) (fun m => by first | (simp [entryFrame, mkF, argsToLocals, Value.category]; done) | rfl) fun K ok => ?_
  refine r_aloadN (pc' := 1) ok rfl d50_0 rfl rfl ?_
  refine r_getfield (pc' := 4) (host := "") ok rfl d50_1 (Or.inl (hw _ (List.mem_of_getElem? (i := 308) rfl))) Via.refl F ?_
  refine r_arraylength (pc' := 5) ok rfl d50_4 V ?_
  refine r_ireturn ok d50_5 rfl (by simp) (by decide) (by decide) ?_
  exact ⟨rfl, rfl⟩
def LIs (Z : State) (h : Heap) (a : Addr) (v1 v2 v3 v4 : Value) : Prop := Exa Z h a LI ∧ Fld Z h a LI "list" "Ljava/util/List;" v1 ∧ Fld Z h a LI "size" "I" v2 ∧ Fld Z h a LI "cursor" "I" v3 ∧ Fld Z h a LI "isListIterator" "Z" v4
theorem d51_0 : decode jdk_53_method_1_code 0 = .ok (.aload_n 0, 1) := by decide +kernel
theorem d51_1 : decode jdk_53_method_1_code 1 = .ok (.invokespecial 1, 3) := by decide +kernel
theorem d51_4 : decode jdk_53_method_1_code 4 = .ok (.aload_n 0, 1) := by decide +kernel
theorem d51_5 : decode jdk_53_method_1_code 5 = .ok (.aload_n 1, 1) := by decide +kernel
theorem d51_6 : decode jdk_53_method_1_code 6 = .ok (.putfield 7, 3) := by decide +kernel
theorem d51_9 : decode jdk_53_method_1_code 9 = .ok (.aload_n 0, 1) := by decide +kernel
theorem d51_10 : decode jdk_53_method_1_code 10 = .ok (.iload_n 2, 1) := by decide +kernel
theorem d51_11 : decode jdk_53_method_1_code 11 = .ok (.putfield 13, 3) := by decide +kernel
theorem d51_14 : decode jdk_53_method_1_code 14 = .ok (.aload_n 0, 1) := by decide +kernel
theorem d51_15 : decode jdk_53_method_1_code 15 = .ok (.iconst 0, 1) := by decide +kernel
theorem d51_16 : decode jdk_53_method_1_code 16 = .ok (.putfield 17, 3) := by decide +kernel
theorem d51_19 : decode jdk_53_method_1_code 19 = .ok (.aload_n 0, 1) := by decide +kernel
theorem d51_20 : decode jdk_53_method_1_code 20 = .ok (.iconst 0, 1) := by decide +kernel
theorem d51_21 : decode jdk_53_method_1_code 21 = .ok (.putfield 20, 3) := by decide +kernel
theorem d51_24 : decode jdk_53_method_1_code 24 = .ok (.return_, 1) := by decide +kernel
set_option maxRecDepth 65536 in
theorem rmLI (l : Launch) (Z : State) (a0 : Array Value) (hw : ∀ d ∈ tables_1, d.before a0 Z = true) (a b : Addr) (n : Int32) (v1 v2 v3 v4 : Value) (h0 : Heap) (A : LIs Z h0 a v1 v2 v3 v4) (g : Z.heap.size ≤ a) : Con l Z [] [] false (⟨"java/util/ImmutableCollections$ListItr", "<init>", "(Ljava/util/List;I)V"⟩ : MethodName) jdk_53_method_1_code 3 none R1 #[.ref a, .ref b, .int n] h0 (rU fun h => Keep h0 h [a] ∧ LIs Z h a (.ref b) (.int n) (.int 0) (.int 0)) := by
  obtain ⟨E, F1, F2, F3, F4⟩ := A
  refine body (ls := #[.val (.ref a), .val (.ref b), .val (.int n)]) (plainFor_of_name pn_21) (fun m => by first | (simp [entryFrame, mkF, argsToLocals, Value.category]; done) | rfl) fun K ok => ?_
  refine r_aloadN (pc' := 1) ok rfl d51_0 rfl rfl ?_
  refine r_init (pc' := 4) ok rfl d51_1 (hw _ (List.mem_of_getElem? (i := 377) rfl)) (hw _ (List.mem_of_getElem? (i := 19) rfl)) (hw _ (List.mem_of_getElem? (i := 20) rfl)) rfl (by decide) (Nat.le_of_ble_eq_true rfl) ?_
  refine r_aloadN (pc' := 5) ok rfl d51_4 rfl rfl ?_
  refine r_aloadN (pc' := 6) ok rfl d51_5 rfl rfl ?_
  refine r_putfield (pc' := 9) (host := "") ok rfl d51_6 (Or.inl (hw _ (List.mem_of_getElem? (i := 378) rfl))) Via.refl (Or.inr ⟨(hw _ (List.mem_of_getElem? (i := 379) rfl)), rfl, rfl⟩) (hw _ (List.mem_of_getElem? (i := 365) rfl)) F1 E g (ty := (.object "java/util/List")) (by decide) rfl rfl ?_
  intro h11 W11 F11 E11
  replace F2 := F2.other W11 (Or.inr (slot_ne (Or.inr (hw _ (List.mem_of_getElem? (i := 381) rfl))) (Or.inr (hw _ (List.mem_of_getElem? (i := 379) rfl))) (by decide) (t := .int) (t' := (.object "java/util/List")) (by decide) (by decide)))
  replace F3 := F3.other W11 (Or.inr (slot_ne (Or.inl (hw _ (List.mem_of_getElem? (i := 383) rfl))) (Or.inr (hw _ (List.mem_of_getElem? (i := 379) rfl))) (by decide) (t := .int) (t' := (.object "java/util/List")) (by decide) (by decide)))
  replace F4 := F4.other W11 (Or.inr (slot_ne (Or.inr (hw _ (List.mem_of_getElem? (i := 385) rfl))) (Or.inr (hw _ (List.mem_of_getElem? (i := 379) rfl))) (by decide) (t := .boolean) (t' := (.object "java/util/List")) (by decide) (by decide)))
  refine r_aloadN (pc' := 10) ok rfl d51_9 rfl rfl ?_
  refine r_iloadN (pc' := 11) ok rfl d51_10 rfl ?_
  refine r_putfield (pc' := 14) (host := "") ok rfl d51_11 (Or.inl (hw _ (List.mem_of_getElem? (i := 380) rfl))) Via.refl (Or.inr ⟨(hw _ (List.mem_of_getElem? (i := 381) rfl)), rfl, rfl⟩) (hw _ (List.mem_of_getElem? (i := 365) rfl)) F2 E11 g (ty := .int) (by decide) rfl rfl ?_
  intro h12 W12 F12 E12
  replace F11 := F11.other W12 (Or.inr (slot_ne (Or.inr (hw _ (List.mem_of_getElem? (i := 379) rfl))) (Or.inr (hw _ (List.mem_of_getElem? (i := 381) rfl))) (by decide) (t := (.object "java/util/List")) (t' := .int) (by decide) (by decide)))
  replace F3 := F3.other W12 (Or.inr (slot_ne (Or.inl (hw _ (List.mem_of_getElem? (i := 383) rfl))) (Or.inr (hw _ (List.mem_of_getElem? (i := 381) rfl))) (by decide) (t := .int) (t' := .int) (by decide) (by decide)))
  replace F4 := F4.other W12 (Or.inr (slot_ne (Or.inr (hw _ (List.mem_of_getElem? (i := 385) rfl))) (Or.inr (hw _ (List.mem_of_getElem? (i := 381) rfl))) (by decide) (t := .boolean) (t' := .int) (by decide) (by decide)))
  refine r_aloadN (pc' := 15) ok rfl d51_14 rfl rfl ?_
  refine r_iconstV (pc' := 16) ok rfl (0 : Int32) d51_15 rfl ?_
  refine r_putfield (pc' := 19) (host := "") ok rfl d51_16 (Or.inl (hw _ (List.mem_of_getElem? (i := 382) rfl))) Via.refl (Or.inl (hw _ (List.mem_of_getElem? (i := 383) rfl))) (hw _ (List.mem_of_getElem? (i := 365) rfl)) F3 E12 g (ty := .int) (by decide) rfl rfl ?_
  intro h13 W13 F13 E13
  replace F11 := F11.other W13 (Or.inr (slot_ne (Or.inr (hw _ (List.mem_of_getElem? (i := 379) rfl))) (Or.inl (hw _ (List.mem_of_getElem? (i := 383) rfl))) (by decide) (t := (.object "java/util/List")) (t' := .int) (by decide) (by decide)))
  replace F12 := F12.other W13 (Or.inr (slot_ne (Or.inr (hw _ (List.mem_of_getElem? (i := 381) rfl))) (Or.inl (hw _ (List.mem_of_getElem? (i := 383) rfl))) (by decide) (t := .int) (t' := .int) (by decide) (by decide)))
  replace F4 := F4.other W13 (Or.inr (slot_ne (Or.inr (hw _ (List.mem_of_getElem? (i := 385) rfl))) (Or.inl (hw _ (List.mem_of_getElem? (i := 383) rfl))) (by decide) (t := .boolean) (t' := .int) (by decide) (by decide)))
  refine r_aloadN (pc' := 20) ok rfl d51_19 rfl rfl ?_
  refine r_iconstV (pc' := 21) ok rfl (0 : Int32) d51_20 rfl ?_
  refine r_putfieldN (pc' := 24) ok rfl d51_21 (hw _ (List.mem_of_getElem? (i := 384) rfl)) Via.refl (Or.inr ⟨(hw _ (List.mem_of_getElem? (i := 385) rfl)), rfl, rfl⟩) (hw _ (List.mem_of_getElem? (i := 365) rfl)) F4 E13 g (ty := .boolean) (by decide) rfl (by decide) ?_
  intro h14 W14 F14 E14
  replace F11 := F11.other W14 (Or.inr (slot_ne (Or.inr (hw _ (List.mem_of_getElem? (i := 379) rfl))) (Or.inr (hw _ (List.mem_of_getElem? (i := 385) rfl))) (by decide) (t := (.object "java/util/List")) (t' := .boolean) (by decide) (by decide)))
  replace F12 := F12.other W14 (Or.inr (slot_ne (Or.inr (hw _ (List.mem_of_getElem? (i := 381) rfl))) (Or.inr (hw _ (List.mem_of_getElem? (i := 385) rfl))) (by decide) (t := .int) (t' := .boolean) (by decide) (by decide)))
  replace F13 := F13.other W14 (Or.inr (slot_ne (Or.inl (hw _ (List.mem_of_getElem? (i := 383) rfl))) (Or.inr (hw _ (List.mem_of_getElem? (i := 385) rfl))) (by decide) (t := .int) (t' := .boolean) (by decide) (by decide)))
  refine r_return ok d51_24 ?_ (by decide) (by decide)
  have m : a ∈ [a] := List.mem_singleton.mpr rfl
  exact ⟨((((Keep.refl h0 [a]).wr W11 (Or.inl m)).wr W12 (Or.inl m)).wr W13 (Or.inl m)).wr W14 (Or.inl m), E14, F11, F12, F13, F14⟩
theorem d52_0 : decode jdk_53_method_3_code 0 = .ok (.aload_n 0, 1) := by decide +kernel
theorem d52_1 : decode jdk_53_method_3_code 1 = .ok (.getfield 17, 3) := by decide +kernel
theorem d52_4 : decode jdk_53_method_3_code 4 = .ok (.aload_n 0, 1) := by decide +kernel
theorem d52_5 : decode jdk_53_method_3_code 5 = .ok (.getfield 13, 3) := by decide +kernel
theorem d52_8 : decode jdk_53_method_3_code 8 = .ok (.if_icmp .eq 7, 3) := by decide +kernel
theorem d52_11 : decode jdk_53_method_3_code 11 = .ok (.iconst 1, 1) := by decide +kernel
theorem d52_12 : decode jdk_53_method_3_code 12 = .ok (.goto 4, 3) := by decide +kernel
theorem d52_15 : decode jdk_53_method_3_code 15 = .ok (.iconst 0, 1) := by decide +kernel
theorem d52_16 : decode jdk_53_method_3_code 16 = .ok (.ireturn, 1) := by decide +kernel
set_option maxRecDepth 65536 in
theorem rmHn (l : Launch) (Z : State) (a0 : Array Value) (hw : ∀ d ∈ tables_1, d.before a0 Z = true) (a : Addr) (v1 v4 : Value) (h0 : Heap) (A : LIs Z h0 a v1 (.int 0) (.int 0) v4) : Con l Z [] [] false (⟨"java/util/ImmutableCollections$ListItr", "hasNext", "()Z"⟩ : MethodName) jdk_53_method_3_code 1 (some .boolean) RZ #[.ref a] h0 (rV fun x h => x = .int 0 ∧ h0 = h) := by
  refine body (ls := #[.val (.ref a)]) (plainFor_of_name pn_21) (fun m => by first | (simp [entryFrame, mkF, argsToLocals, Value.category]; done) | rfl) fun K ok => ?_
  refine r_aloadN (pc' := 1) ok rfl d52_0 rfl rfl ?_
  refine r_getfield (pc' := 4) (host := "") ok rfl d52_1 (Or.inl (hw _ (List.mem_of_getElem? (i := 382) rfl))) Via.refl A.2.2.2.1 ?_
  refine r_aloadN (pc' := 5) ok rfl d52_4 rfl rfl ?_
  refine r_getfield (pc' := 8) (host := "") ok rfl d52_5 (Or.inl (hw _ (List.mem_of_getElem? (i := 380) rfl))) Via.refl A.2.2.1 ?_
  refine r_icmp_eq (pc' := 11) (pcY := 15) ok rfl d52_8 (by decide) (by decide) ?_ ?_
  rotate_left
  · intro hc
    exact absurd rfl hc
  intro _
  refine r_iconstV (pc' := 16) ok rfl (0 : Int32) d52_15 rfl ?_
  refine r_ireturn ok d52_16 rfl (by simp) (by decide) (by decide) ?_
  exact ⟨rfl, rfl⟩
abbrev IC : String := "java/lang/Integer$IntegerCache"
abbrev IN : String := "java/lang/Integer"
abbrev BO : String := "java/lang/Boolean"
abbrev CLy : String := "com/example/stackloom/stackloom/model/CoreLayout"
/-! the empty list -/
theorem d53_0 : decode jdk_46_method_10_code 0 = .ok (.new 61, 3) := by decide +kernel
theorem d53_3 : decode jdk_46_method_10_code 3 = .ok (.dup, 1) := by decide +kernel
theorem d53_4 : decode jdk_46_method_10_code 4 = .ok (.aload_n 0, 1) := by decide +kernel
theorem d53_5 : decode jdk_46_method_10_code 5 = .ok (.aload_n 0, 1) := by decide +kernel
theorem d53_6 : decode jdk_46_method_10_code 6 = .ok (.invokevirtual 13, 3) := by decide +kernel
theorem d53_9 : decode jdk_46_method_10_code 9 = .ok (.invokespecial 63, 3) := by decide +kernel
theorem d53_12 : decode jdk_46_method_10_code 12 = .ok (.areturn, 1) := by decide +kernel
abbrev RIt : Room := { frames := 2, cells := 1, slots := 4, locals := 40 }
set_option maxRecDepth 65536 in
theorem rmIt (l : Launch) (Z : State) (a0 : Array Value) (hw : ∀ d ∈ tables_1, d.before a0 Z = true) (a ea : Addr) (k : ClassId) (dv : Value) (h0 : Heap) (E : Exa Z h0 a LN) (F : Fld Z h0 a LN "elements" OA (.ref ea)) (V : Arv Z h0 ea k (.object "java/lang/Object") 0 [] dv) :
    Con l Z [] [] false (⟨"java/util/ImmutableCollections$AbstractImmutableList", "iterator", "()Ljava/util/Iterator;"⟩ : MethodName) jdk_46_method_10_code 1 (some (.object "java/util/Iterator")) RIt #[.ref a] h0 (rV fun x h => ∃ i, x = .ref i ∧ h0.size ≤ i ∧ Z.heap.size ≤ i ∧ Keep h0 h [] ∧ LIs Z h i (.ref a) (.int 0) (.int 0) (.int 0)) := by
  refine body (ls := #[.val (.ref a)]) (plainFor_of_name pn_10) (fun m => by first | (simp [entryFrame, mkF, argsToLocals, Value.category]; done) | rfl) fun K ok => ?_
  refine r_new (pc' := 3) ok rfl d53_0 (hw _ (List.mem_of_getElem? (i := 364) rfl)) (hw _ (List.mem_of_getElem? (i := 365) rfl)) (hw _ (List.mem_of_getElem? (i := 366) rfl)) (by decide) (by decide) ?_
  intro h1 b1 g1 z1 E1 A1 D1
  have G1 := D1 (Or.inr (hw _ (List.mem_of_getElem? (i := 379) rfl))) (ty := (.object "java/util/List")) (by decide)
  have G2 := D1 (Or.inr (hw _ (List.mem_of_getElem? (i := 381) rfl))) (ty := .int) (by decide)
  have G3 := D1 (Or.inl (hw _ (List.mem_of_getElem? (i := 383) rfl))) (ty := .int) (by decide)
  have G4 := D1 (Or.inr (hw _ (List.mem_of_getElem? (i := 385) rfl))) (ty := .boolean) (by decide)
  refine r_dup (pc' := 4) ok rfl d53_3 rfl ?_
  refine r_aloadN (pc' := 5) ok rfl d53_4 rfl rfl ?_
  refine r_aloadN (pc' := 6) ok rfl d53_5 rfl rfl ?_
  refine r_virtualUp (pc' := 9) ok rfl d53_6 (hw _ (List.mem_of_getElem? (i := 367) rfl)) (hw _ (List.mem_of_getElem? (i := 368) rfl)) (hw _ (List.mem_of_getElem? (i := 369) rfl)) (hw _ (List.mem_of_getElem? (i := 370) rfl)) (hw _ (List.mem_of_getElem? (i := 371) rfl)) (E.ext E1) (by decide) pd_30 (Con.pay (W := 3) (rmNs l Z a0 hw a ea k dv h1 (F.ext E1) (V.ext E1)) EW.nil (hw _ (List.mem_of_getElem? (i := 372) rfl)) (hw _ (List.mem_of_getElem? (i := 305) rfl)) (by decide) (by decide)) (fun q => nomatch q) (Or.inl rfl) rfl (argsL := []) (rest := [(.ref a), (.ref b1), (.ref b1)]) rfl rfl rfl (Nat.le_of_ble_eq_true rfl) (by decide) (by decide) (cV fun x2 h2 q2 le2 => ?_)
  obtain ⟨rfl, rfl⟩ := q2
  refine r_special (pc' := 12) ok rfl d53_9 rfl (hw _ (List.mem_of_getElem? (i := 373) rfl)) (hw _ (List.mem_of_getElem? (i := 374) rfl)) (hw _ (List.mem_of_getElem? (i := 376) rfl)) (by decide) pd_31 (Con.pay (W := 1) (rmLI l Z a0 hw b1 a 0 _ _ _ _ h1 ⟨A1, G1, G2, G3, G4⟩ z1) EW.nil (hw _ (List.mem_of_getElem? (i := 376) rfl)) (hw _ (List.mem_of_getElem? (i := 366) rfl)) (by decide) (by decide)) (fun q => nomatch q) (Or.inl rfl) rfl (argsL := [(.ref a), (.int 0)]) (rest := [(.ref b1)]) rfl rfl rfl (Nat.le_of_ble_eq_true rfl) (by decide) (by decide) (cU fun h3 q3 le3 => ?_)
  obtain ⟨K3, L3⟩ := q3
  refine r_areturn ok d53_12 rfl rfl rfl (by decide) (by decide) ?_
  exact ⟨b1, rfl, Nat.le_of_eq g1.symm, z1, ((Keep.refl h0 []).ext E1).trans K3 (fun x hx => by cases List.mem_singleton.mp hx; exact Or.inr (Nat.le_of_eq g1.symm)), L3⟩
theorem d54_0 : decode jdk_45_method_9_code 0 = .ok (.aload_n 0, 1) := by decide +kernel
theorem d54_1 : decode jdk_45_method_9_code 1 = .ok (.getfield 13, 3) := by decide +kernel
theorem d54_4 : decode jdk_45_method_9_code 4 = .ok (.ifCond .ne 15, 3) := by decide +kernel
theorem d54_7 : decode jdk_45_method_9_code 7 = .ok (.aload_n 1, 1) := by decide +kernel
theorem d54_8 : decode jdk_45_method_9_code 8 = .ok (.ifnonnull 11, 3) := by decide +kernel
theorem d54_19 : decode jdk_45_method_9_code 19 = .ok (.aload_n 0, 1) := by decide +kernel
theorem d54_20 : decode jdk_45_method_9_code 20 = .ok (.getfield 7, 3) := by decide +kernel
theorem d54_23 : decode jdk_45_method_9_code 23 = .ok (.astore_n 2, 1) := by decide +kernel
theorem d54_24 : decode jdk_45_method_9_code 24 = .ok (.iconst 0, 1) := by decide +kernel
theorem d54_25 : decode jdk_45_method_9_code 25 = .ok (.istore_n 3, 1) := by decide +kernel
theorem d54_26 : decode jdk_45_method_9_code 26 = .ok (.iload_n 3, 1) := by decide +kernel
theorem d54_27 : decode jdk_45_method_9_code 27 = .ok (.aload_n 2, 1) := by decide +kernel
theorem d54_28 : decode jdk_45_method_9_code 28 = .ok (.arraylength, 1) := by decide +kernel
theorem d54_29 : decode jdk_45_method_9_code 29 = .ok (.if_icmp .ge 21, 3) := by decide +kernel
theorem d54_50 : decode jdk_45_method_9_code 50 = .ok (.iconst (-1), 1) := by decide +kernel
theorem d54_51 : decode jdk_45_method_9_code 51 = .ok (.ireturn, 1) := by decide +kernel
set_option maxRecDepth 65536 in
theorem rmIx (l : Launch) (Z : State) (a0 : Array Value) (hw : ∀ d ∈ tables_1, d.before a0 Z = true) (a o ea : Addr) (k : ClassId) (dv : Value) (h0 : Heap) (Fn : Fld Z h0 a LN "allowNulls" "Z" (.int 0)) (F : Fld Z h0 a LN "elements" OA (.ref ea)) (V : Arv Z h0 ea k (.object "java/lang/Object") 0 [] dv) :
    Con l Z [] [] false (⟨"java/util/ImmutableCollections$ListN", "indexOf", "(Ljava/lang/Object;)I"⟩ : MethodName) jdk_45_method_9_code 4 (some .int) RZ #[.ref a, .ref o] h0 (rV fun x h => x = .int (-1) ∧ h0 = h) := by
  refine body (ls := #[.val (.ref a), .val (.ref o), .unset, .unset]) (plainFor_of_name pn_19) (fun m => by first | (simp [entryFrame, mkF, argsToLocals, Value.category]; done) | rfl) fun K ok => ?_
  refine r_aloadN (pc' := 1) ok rfl d54_0 rfl rfl ?_
  refine r_getfield (pc' := 4) (host := "") ok rfl d54_1 (Or.inl (hw _ (List.mem_of_getElem? (i := 307) rfl))) Via.refl Fn ?_
  refine r_if_ne (pc' := 7) (pcY := 19) ok rfl d54_4 (by decide) (by decide) ?_ ?_
  · intro hc
    exact absurd rfl hc
  intro _
  refine r_aloadN (pc' := 8) ok rfl d54_7 rfl rfl ?_
  refine r_ifnonnull_ref (pc' := 19) ok d54_8 (by decide) (by decide) ?_
  refine r_aloadN (pc' := 20) ok rfl d54_19 rfl rfl ?_
  refine r_getfield (pc' := 23) (host := "") ok rfl d54_20 (Or.inl (hw _ (List.mem_of_getElem? (i := 308) rfl))) Via.refl F ?_
  refine r_astoreN (pc' := 24) (ls' := #[.val (.ref a), .val (.ref o), .val (.ref ea), .unset]) ok rfl d54_23 rfl rfl ?_
  refine r_iconstV (pc' := 25) ok rfl (0 : Int32) d54_24 rfl ?_
  refine r_istoreN (pc' := 26) (ls' := fun z => #[.val (.ref a), .val (.ref o), .val (.ref ea), .val (.int z)]) ok rfl d54_25 (fun _ => rfl) ?_
  intro v25 ev25
  refine r_iloadN (pc' := 27) ok rfl d54_26 rfl ?_
  refine r_aloadN (pc' := 28) ok rfl d54_27 rfl rfl ?_
  refine r_arraylength (pc' := 29) ok rfl d54_28 V ?_
  refine r_icmp_ge (pc' := 32) (pcY := 50) ok rfl d54_29 (by decide) (by decide) ?_ ?_
  rotate_left
  · intro hc
    exact absurd hc (by rw [ev25]; decide)
  intro _
  refine r_iconstV (pc' := 51) ok rfl (-1 : Int32) d54_50 rfl ?_
  refine r_ireturn ok d54_51 rfl (by simp) (by decide) (by decide) ?_
  exact ⟨rfl, rfl⟩
theorem d55_0 : decode jdk_46_method_15_code 0 = .ok (.aload_n 0, 1) := by decide +kernel
theorem d55_1 : decode jdk_46_method_15_code 1 = .ok (.aload_n 1, 1) := by decide +kernel
theorem d55_2 : decode jdk_46_method_15_code 2 = .ok (.invokevirtual 107, 3) := by decide +kernel
theorem d55_5 : decode jdk_46_method_15_code 5 = .ok (.ifCond .lt 7, 3) := by decide +kernel
theorem d55_8 : decode jdk_46_method_15_code 8 = .ok (.iconst 1, 1) := by decide +kernel
theorem d55_9 : decode jdk_46_method_15_code 9 = .ok (.goto 4, 3) := by decide +kernel
theorem d55_12 : decode jdk_46_method_15_code 12 = .ok (.iconst 0, 1) := by decide +kernel
theorem d55_13 : decode jdk_46_method_15_code 13 = .ok (.ireturn, 1) := by decide +kernel
set_option maxRecDepth 65536 in
theorem rmCn (l : Launch) (Z : State) (a0 : Array Value) (hw : ∀ d ∈ tables_1, d.before a0 Z = true) (a o ea : Addr) (k : ClassId) (dv : Value) (h0 : Heap) (E : Exa Z h0 a LN) (Fn : Fld Z h0 a LN "allowNulls" "Z" (.int 0)) (F : Fld Z h0 a LN "elements" OA (.ref ea)) (V : Arv Z h0 ea k (.object "java/lang/Object") 0 [] dv) :
    Con l Z [] [] false (⟨"java/util/ImmutableCollections$AbstractImmutableList", "contains", "(Ljava/lang/Object;)Z"⟩ : MethodName) jdk_46_method_15_code 2 (some .boolean) R1 #[.ref a, .ref o] h0 (rV fun x h => x = .int 0 ∧ h0 = h) := by
  refine body (ls := #[.val (.ref a), .val (.ref o)]) (plainFor_of_name pn_10) (fun m => by first | (simp [entryFrame, mkF, argsToLocals, Value.category]; done) | rfl) fun K ok => ?_
  refine r_aloadN (pc' := 1) ok rfl d55_0 rfl rfl ?_
  refine r_aloadN (pc' := 2) ok rfl d55_1 rfl rfl ?_
  refine r_virtualUp (pc' := 5) ok rfl d55_2 (hw _ (List.mem_of_getElem? (i := 300) rfl)) (hw _ (List.mem_of_getElem? (i := 301) rfl)) (hw _ (List.mem_of_getElem? (i := 302) rfl)) (hw _ (List.mem_of_getElem? (i := 303) rfl)) (hw _ (List.mem_of_getElem? (i := 304) rfl)) E (by decide) pd_25 (Con.pay (W := 0) (rmIx l Z a0 hw a o ea k dv h0 Fn F V) EW.nil (hw _ (List.mem_of_getElem? (i := 306) rfl)) (hw _ (List.mem_of_getElem? (i := 305) rfl)) (by decide) (by decide)) (fun q => nomatch q) (Or.inl rfl) rfl (argsL := [(.ref o)]) (rest := []) rfl rfl rfl (Nat.le_of_ble_eq_true rfl) (by decide) (by decide) (cV fun x1 h1 q1 le1 => ?_)
  obtain ⟨rfl, rfl⟩ := q1
  refine r_if_lt (pc' := 8) (pcY := 12) ok rfl d55_5 (by decide) (by decide) ?_ ?_
  rotate_left
  · intro hc
    exact absurd (by decide) hc
  intro _
  refine r_iconstV (pc' := 13) ok rfl (0 : Int32) d55_12 rfl ?_
  refine r_ireturn ok d55_13 rfl (by simp) (by decide) (by decide) ?_
  exact ⟨rfl, rfl⟩
/-! boxes of ints -/
theorem d56_0 : decode jdk_33_method_22_code 0 = .ok (.iload_n 0, 1) := by decide +kernel
theorem d56_1 : decode jdk_33_method_22_code 1 = .ok (.bipush (-128), 2) := by decide +kernel
theorem d56_3 : decode jdk_33_method_22_code 3 = .ok (.if_icmp .lt 20, 3) := by decide +kernel
theorem d56_6 : decode jdk_33_method_22_code 6 = .ok (.iload_n 0, 1) := by decide +kernel
theorem d56_7 : decode jdk_33_method_22_code 7 = .ok (.getstatic 191, 3) := by decide +kernel
theorem d56_10 : decode jdk_33_method_22_code 10 = .ok (.if_icmp .gt 13, 3) := by decide +kernel
theorem d56_13 : decode jdk_33_method_22_code 13 = .ok (.getstatic 195, 3) := by decide +kernel
theorem d56_16 : decode jdk_33_method_22_code 16 = .ok (.iload_n 0, 1) := by decide +kernel
theorem d56_17 : decode jdk_33_method_22_code 17 = .ok (.sipush 128, 3) := by decide +kernel
theorem d56_20 : decode jdk_33_method_22_code 20 = .ok (.iadd, 1) := by decide +kernel
theorem d56_21 : decode jdk_33_method_22_code 21 = .ok (.aaload, 1) := by decide +kernel
theorem d56_22 : decode jdk_33_method_22_code 22 = .ok (.areturn, 1) := by decide +kernel
set_option maxRecDepth 65536 in
theorem rmIVo (l : Launch) (Z : State) (a0 : Array Value) (hw : ∀ d ∈ tables_1, d.before a0 Z = true) (ca : Addr) (cc : Cell) (n : Int32) (h0 : Heap) (SH : Sta Z Z.heap IC "high" "I" (.int 127)) (SC : Sta Z Z.heap IC "cache" "[Ljava/lang/Integer;" (.ref ca)) (B : Bxs Z ca cc IN "I" 256 (fun j => .int (j - 128))) (c1 : ¬ n < -128) (c2 : ¬ 127 < n) (c3 : ¬ n + 128 < 0 ∧ n + 128 < 256) (c4 : n + 128 - 128 = n) :
    Con l Z [] [] false (⟨"java/lang/Integer", "valueOf", "(I)Ljava/lang/Integer;"⟩ : MethodName) jdk_33_method_22_code 1 (some (.object "java/lang/Integer")) RZ #[.int n] h0 (rV fun x h => ∃ b, x = .ref b ∧ Exa Z Z.heap b IN ∧ Fld Z Z.heap b IN "value" "I" (.int n) ∧ h0 = h) := by
  refine body (ls := #[.val (.int n)]) (plainFor_of_name pn_18) (fun m => by first | (simp [entryFrame, mkF, argsToLocals, Value.category]; done) | rfl) fun K ok => ?_
  refine r_iloadN (pc' := 1) ok rfl d56_0 rfl ?_
  refine r_bipushV (pc' := 3) ok rfl (-128 : Int32) d56_1 rfl ?_
  refine r_icmp_lt (pc' := 6) (pcY := 23) ok rfl d56_3 (by decide) (by decide) ?_ ?_
  · intro hc
    exact absurd hc c1
  intro _
  refine r_iloadN (pc' := 7) ok rfl d56_6 rfl ?_
  refine r_getstatic (pc' := 10) ok rfl d56_7 (hw _ (List.mem_of_getElem? (i := 289) rfl)) Via.refl SH ?_
  refine r_icmp_gt (pc' := 13) (pcY := 23) ok rfl d56_10 (by decide) (by decide) ?_ ?_
  · intro hc
    exact absurd hc c2
  intro _
  refine r_getstatic (pc' := 16) ok rfl d56_13 (hw _ (List.mem_of_getElem? (i := 291) rfl)) Via.refl SC ?_
  refine r_iloadN (pc' := 17) ok rfl d56_16 rfl ?_
  refine r_sipushV (pc' := 20) ok rfl (128 : Int32) d56_17 rfl ?_
  refine r_iadd (pc' := 21) ok rfl d56_20 ?_
  refine r_aaloadB (pc' := 22) ok rfl d56_21 B c3 fun b Eb Fb => ?_
  refine r_areturn ok d56_22 rfl rfl rfl (by decide) (by decide) ?_
  exact ⟨b, rfl, Eb, by rw [← c4]; exact Fb, rfl⟩
theorem d57_0 : decode prog_26_method_4_code 0 = .ok (.aload_n 0, 1) := by decide +kernel
theorem d57_1 : decode prog_26_method_4_code 1 = .ok (.getfield 22, 3) := by decide +kernel
theorem d57_4 : decode prog_26_method_4_code 4 = .ok (.getstatic 64, 3) := by decide +kernel
theorem d57_7 : decode prog_26_method_4_code 7 = .ok (.invokestatic 67, 3) := by decide +kernel
theorem d57_10 : decode prog_26_method_4_code 10 = .ok (.invokeinterface 71 2, 5) := by decide +kernel
theorem d57_15 : decode prog_26_method_4_code 15 = .ok (.ireturn, 1) := by decide +kernel
abbrev RKT : Room := { frames := 2, cells := 0, slots := 0, locals := 50 }
set_option maxRecDepth 65536 in
theorem rmKT (l : Launch) (Z : State) (a0 : Array Value) (hw : ∀ d ∈ tables_1, d.before a0 Z = true) (a el ea ca : Addr) (cc : Cell) (k : ClassId) (dv w1 w2 w4 w5 w6 : Value) (h0 : Heap) (A : KLs Z h0 a w1 w2 (.ref el) w4 w5 w6) (E : Exa Z h0 el LN) (Fn : Fld Z h0 el LN "allowNulls" "Z" (.int 0)) (F : Fld Z h0 el LN "elements" OA (.ref ea)) (V : Arv Z h0 ea k (.object "java/lang/Object") 0 [] dv) (ST : Sta Z Z.heap CLy "TIMER0_SLOT" "I" (.int 11)) (SH : Sta Z Z.heap IC "high" "I" (.int 127)) (SC : Sta Z Z.heap IC "cache" "[Ljava/lang/Integer;" (.ref ca)) (B : Bxs Z ca cc IN "I" 256 (fun j => .int (j - 128))) :
    Con l Z [] [] false (⟨"com/example/stackloom/stackloom/model/KernelLayout", "keepsTimer0", "()Z"⟩ : MethodName) prog_26_method_4_code 1 (some .boolean) RKT #[.ref a] h0 (rV fun x h => x = .int 0 ∧ h0 = h) := by
  refine body (ls := #[.val (.ref a)]) (plainFor_of_name pn_5) (fun m => by first | (simp [entryFrame, mkF, argsToLocals, Value.category]; done) | rfl) fun K ok => ?_
  refine r_aloadN (pc' := 1) ok rfl d57_0 rfl rfl ?_
  refine r_getfield (pc' := 4) (host := "") ok rfl d57_1 (Or.inl (hw _ (List.mem_of_getElem? (i := 187) rfl))) Via.refl A.2.2.2.1 ?_
  refine r_getstatic (pc' := 7) ok rfl d57_4 (hw _ (List.mem_of_getElem? (i := 282) rfl)) Via.refl ST ?_
  refine r_static (pc' := 10) ok rfl d57_7 (hw _ (List.mem_of_getElem? (i := 285) rfl)) (hw _ (List.mem_of_getElem? (i := 286) rfl)) (hw _ (List.mem_of_getElem? (i := 287) rfl)) (hw _ (List.mem_of_getElem? (i := 288) rfl)) (by decide) pd_24 (Con.pay (W := 1) (rmIVo l Z a0 hw ca cc 11 h0 SH SC B (by decide) (by decide) (by decide) (by decide)) EW.nil (hw _ (List.mem_of_getElem? (i := 288) rfl)) (hw _ (List.mem_of_getElem? (i := 287) rfl)) (by decide) (by decide)) (fun q => nomatch q) (Or.inl rfl) rfl (argsL := [(.int 11)]) (rest := [(.ref el)]) rfl rfl rfl (Nat.le_of_ble_eq_true rfl) (by decide) (by decide) (cV fun x1 h1 q1 le1 => ?_)
  obtain ⟨b, rfl, Eb, Fb, rfl⟩ := q1
  refine r_iface (pc' := 15) ok rfl d57_10 (hw _ (List.mem_of_getElem? (i := 292) rfl)) (hw _ (List.mem_of_getElem? (i := 293) rfl)) (hw _ (List.mem_of_getElem? (i := 294) rfl)) (hw _ (List.mem_of_getElem? (i := 295) rfl)) (hw _ (List.mem_of_getElem? (i := 296) rfl)) (hw _ (List.mem_of_getElem? (i := 297) rfl)) (hw _ (List.mem_of_getElem? (i := 298) rfl)) (hw _ (List.mem_of_getElem? (i := 108) rfl)) E (by decide) pd_2 (Con.pay (W := 0) (rmCn l Z a0 hw el b ea k dv h0 E Fn F V) EW.nil (hw _ (List.mem_of_getElem? (i := 299) rfl)) (hw _ (List.mem_of_getElem? (i := 164) rfl)) (by decide) (by decide)) (fun q => nomatch q) (Or.inl rfl) rfl (argsL := [(.ref b)]) (rest := []) rfl rfl rfl (Nat.le_of_ble_eq_true rfl) (by decide) (by decide) (cV fun x2 h2 q2 le2 => ?_)
  obtain ⟨rfl, rfl⟩ := q2
  refine r_ireturn ok d57_15 rfl (by simp) (by decide) (by decide) ?_
  exact ⟨rfl, rfl⟩
/-! the map without an entry -/
theorem d58_0 : decode jdk_69_method_13_code 0 = .ok (.aload_n 0, 1) := by decide +kernel
theorem d58_1 : decode jdk_69_method_13_code 1 = .ok (.getfield 105, 3) := by decide +kernel
theorem d58_4 : decode jdk_69_method_13_code 4 = .ok (.dup, 1) := by decide +kernel
theorem d58_5 : decode jdk_69_method_13_code 5 = .ok (.astore_n 2, 1) := by decide +kernel
theorem d58_6 : decode jdk_69_method_13_code 6 = .ok (.ifnull 142, 3) := by decide +kernel
theorem d58_148 : decode jdk_69_method_13_code 148 = .ok (.aconst_null, 1) := by decide +kernel
theorem d58_149 : decode jdk_69_method_13_code 149 = .ok (.areturn, 1) := by decide +kernel
set_option maxRecDepth 65536 in
theorem rmGN (l : Launch) (Z : State) (a0 : Array Value) (hw : ∀ d ∈ tables_1, d.before a0 Z = true) (a o : Addr) (w2 : Value) (h0 : Heap) (A : HMs Z h0 a .null w2) : Con l Z [] [] false (⟨"java/util/HashMap", "getNode", "(Ljava/lang/Object;)Ljava/util/HashMap$Node;"⟩ : MethodName) jdk_69_method_13_code 8 (some (.object "java/util/HashMap$Node")) RZ #[.ref a, .ref o] h0 (rV fun x h => x = .null ∧ h0 = h) := by
  refine body (ls := #[.val (.ref a), .val (.ref o), .unset, .unset, .unset, .unset, .unset, .unset]) (plainFor_of_name pn_15) (fun m => by first | (simp [entryFrame, mkF, argsToLocals, Value.category]; done) | rfl) fun K ok => ?_
  refine r_aloadN (pc' := 1) ok rfl d58_0 rfl rfl ?_
  refine r_getfield (pc' := 4) (host := "") ok rfl d58_1 (Or.inl (hw _ (List.mem_of_getElem? (i := 474) rfl))) Via.refl A.2.1 ?_
  refine r_dup (pc' := 5) ok rfl d58_4 rfl ?_
  refine r_astoreN (pc' := 6) (ls' := #[.val (.ref a), .val (.ref o), .val .null, .unset, .unset, .unset, .unset, .unset]) ok rfl d58_5 rfl rfl ?_
  refine r_ifnull_null (pc' := 148) ok d58_6 (by decide) (by decide) ?_
  refine r_aconst_null (pc' := 149) ok rfl d58_148 ?_
  refine r_areturn ok d58_149 rfl rfl rfl (by decide) (by decide) ?_
  exact ⟨rfl, rfl⟩
theorem d59_0 : decode jdk_69_method_12_code 0 = .ok (.aload_n 0, 1) := by decide +kernel
theorem d59_1 : decode jdk_69_method_12_code 1 = .ok (.aload_n 1, 1) := by decide +kernel
theorem d59_2 : decode jdk_69_method_12_code 2 = .ok (.invokevirtual 158, 3) := by decide +kernel
theorem d59_5 : decode jdk_69_method_12_code 5 = .ok (.dup, 1) := by decide +kernel
theorem d59_6 : decode jdk_69_method_12_code 6 = .ok (.astore_n 2, 1) := by decide +kernel
theorem d59_7 : decode jdk_69_method_12_code 7 = .ok (.ifnonnull 7, 3) := by decide +kernel
theorem d59_10 : decode jdk_69_method_12_code 10 = .ok (.aconst_null, 1) := by decide +kernel
theorem d59_11 : decode jdk_69_method_12_code 11 = .ok (.goto 7, 3) := by decide +kernel
theorem d59_18 : decode jdk_69_method_12_code 18 = .ok (.areturn, 1) := by decide +kernel
set_option maxRecDepth 65536 in
theorem rmGet (l : Launch) (Z : State) (a0 : Array Value) (hw : ∀ d ∈ tables_1, d.before a0 Z = true) (a o : Addr) (w2 : Value) (h0 : Heap) (A : HMs Z h0 a .null w2) : Con l Z [] [] false (⟨"java/util/HashMap", "get", "(Ljava/lang/Object;)Ljava/lang/Object;"⟩ : MethodName) jdk_69_method_12_code 3 (some (.object "java/lang/Object")) R2 #[.ref a, .ref o] h0 (rV fun x h => x = .null ∧ h0 = h) := by
  refine body (ls := #[.val (.ref a), .val (.ref o), .unset]) (plainFor_of_name pn_15) (fun m => by first | (simp [entryFrame, mkF, argsToLocals, Value.category]; done) | rfl) fun K ok => ?_
  refine r_aloadN (pc' := 1) ok rfl d59_0 rfl rfl ?_
  refine r_aloadN (pc' := 2) ok rfl d59_1 rfl rfl ?_
  refine r_virtual (pc' := 5) ok rfl d59_2 (hw _ (List.mem_of_getElem? (i := 469) rfl)) (hw _ (List.mem_of_getElem? (i := 470) rfl)) (hw _ (List.mem_of_getElem? (i := 472) rfl)) (hw _ (List.mem_of_getElem? (i := 471) rfl)) (nf_sel (C := "java/util/HashMap") (z := (⟨"java/util/HashMap", "getNode", "(Ljava/lang/Object;)Ljava/util/HashMap$Node;"⟩ : MethodName)) (hw _ (List.mem_of_getElem? (i := 472) rfl))) A.1 (by decide) pd_36 (Con.pay (W := 0) (rmGN l Z a0 hw a o w2 h0 A) EW.nil (hw _ (List.mem_of_getElem? (i := 473) rfl)) (hw _ (List.mem_of_getElem? (i := 220) rfl)) (by decide) (by decide)) (fun q => nomatch q) (Or.inl rfl) rfl (argsL := [(.ref o)]) (rest := []) rfl rfl rfl (Nat.le_of_ble_eq_true rfl) (by decide) (by decide) (cV fun x1 h1 q1 le1 => ?_)
  obtain ⟨rfl, rfl⟩ := q1
  refine r_dup (pc' := 6) ok rfl d59_5 rfl ?_
  refine r_astoreN (pc' := 7) (ls' := #[.val (.ref a), .val (.ref o), .val .null]) ok rfl d59_6 rfl rfl ?_
  refine r_ifnonnull_null (pc' := 10) ok rfl d59_7 ?_
  refine r_aconst_null (pc' := 11) ok rfl d59_10 ?_
  refine r_goto (pc' := 18) ok d59_11 (by decide) (by decide) ?_
  refine r_areturn ok d59_18 rfl rfl rfl (by decide) (by decide) ?_
  exact ⟨rfl, rfl⟩
/-! is the address in the kernel? -/
def inK (p : Int32) : Int32 := if ¬ p < 256 ∧ p < 272 then 1 else 0
theorem inK_nb {p z : Int32} (e : z = inK p) : narrow .boolean (.int z) = .int z := by
  rw [e]; unfold inK; split <;> rfl
theorem inK_fb {p z : Int32} (e : z = inK p) : fits .boolean (.int z) = true := by
  rw [e]; unfold inK; split <;> rfl
theorem inK_one {p : Int32} (e : ¬ inK p = 0) : 1 = inK p := by
  unfold inK at e ⊢; split
  · rfl
  · rename_i q; rw [if_neg q] at e; exact absurd rfl e
theorem d60_0 : decode prog_26_method_3_code 0 = .ok (.iload_n 1, 1) := by decide +kernel
theorem d60_1 : decode prog_26_method_3_code 1 = .ok (.aload_n 0, 1) := by decide +kernel
theorem d60_2 : decode prog_26_method_3_code 2 = .ok (.getfield 13, 3) := by decide +kernel
theorem d60_5 : decode prog_26_method_3_code 5 = .ok (.if_icmp .lt 25, 3) := by decide +kernel
theorem d60_8 : decode prog_26_method_3_code 8 = .ok (.iload_n 1, 1) := by decide +kernel
theorem d60_9 : decode prog_26_method_3_code 9 = .ok (.aload_n 0, 1) := by decide +kernel
theorem d60_10 : decode prog_26_method_3_code 10 = .ok (.getfield 13, 3) := by decide +kernel
theorem d60_13 : decode prog_26_method_3_code 13 = .ok (.aload_n 0, 1) := by decide +kernel
theorem d60_14 : decode prog_26_method_3_code 14 = .ok (.getfield 19, 3) := by decide +kernel
theorem d60_17 : decode prog_26_method_3_code 17 = .ok (.iadd, 1) := by decide +kernel
theorem d60_18 : decode prog_26_method_3_code 18 = .ok (.aload_n 0, 1) := by decide +kernel
theorem d60_19 : decode prog_26_method_3_code 19 = .ok (.getfield 26, 3) := by decide +kernel
theorem d60_22 : decode prog_26_method_3_code 22 = .ok (.iadd, 1) := by decide +kernel
theorem d60_23 : decode prog_26_method_3_code 23 = .ok (.if_icmp .ge 7, 3) := by decide +kernel
theorem d60_26 : decode prog_26_method_3_code 26 = .ok (.iconst 1, 1) := by decide +kernel
theorem d60_27 : decode prog_26_method_3_code 27 = .ok (.goto 4, 3) := by decide +kernel
theorem d60_30 : decode prog_26_method_3_code 30 = .ok (.iconst 0, 1) := by decide +kernel
theorem d60_31 : decode prog_26_method_3_code 31 = .ok (.istore_n 2, 1) := by decide +kernel
theorem d60_32 : decode prog_26_method_3_code 32 = .ok (.aload_n 0, 1) := by decide +kernel
theorem d60_33 : decode prog_26_method_3_code 33 = .ok (.getfield 22, 3) := by decide +kernel
theorem d60_36 : decode prog_26_method_3_code 36 = .ok (.invokeinterface 42 1, 5) := by decide +kernel
theorem d60_41 : decode prog_26_method_3_code 41 = .ok (.astore_n 3, 1) := by decide +kernel
theorem d60_42 : decode prog_26_method_3_code 42 = .ok (.aload_n 3, 1) := by decide +kernel
theorem d60_43 : decode prog_26_method_3_code 43 = .ok (.invokeinterface 46 1, 5) := by decide +kernel
theorem d60_48 : decode prog_26_method_3_code 48 = .ok (.ifCond .eq 43, 3) := by decide +kernel
theorem d60_91 : decode prog_26_method_3_code 91 = .ok (.iload_n 2, 1) := by decide +kernel
theorem d60_92 : decode prog_26_method_3_code 92 = .ok (.ireturn, 1) := by decide +kernel
abbrev RH : Room := { frames := 3, cells := 1, slots := 4, locals := 90 }
set_option maxRecDepth 65536 in
theorem rmHo (l : Launch) (Z : State) (a0 : Array Value) (hw : ∀ d ∈ tables_1, d.before a0 Z = true) (a el ea : Addr) (k : ClassId) (dv : Value) (p : Int32) (w5 w6 : Value) (h0 : Heap) (A : KLs Z h0 a (.int 256) (.int 16) (.ref el) (.int 0) w5 w6) (E : Exa Z h0 el LN) (F : Fld Z h0 el LN "elements" OA (.ref ea)) (V : Arv Z h0 ea k (.object "java/lang/Object") 0 [] dv) :
    Con l Z [] [] false (⟨"com/example/stackloom/stackloom/model/KernelLayout", "holds", "(I)Z"⟩ : MethodName) prog_26_method_3_code 5 (some .boolean) RH #[.ref a, .int p] h0 (rV fun x h => x = .int (inK p) ∧ Keep h0 h []) := by
  refine body (ls := #[.val (.ref a), .val (.int p), .unset, .unset, .unset]) (plainFor_of_name pn_5) (fun m => by first | (simp [entryFrame, mkF, argsToLocals, Value.category]; done) | rfl) fun K ok => ?_
  have J : ∀ z : Int32, z = inK p → Run Z K Cln h0 0 0 31 #[.val (.ref a), .val (.int p), .unset, .unset, .unset] [.int z] := by
    intro z ez
    refine r_istoreN (pc' := 32) (ls' := fun z => #[.val (.ref a), .val (.int p), .val (.int z), .unset, .unset]) ok rfl d60_31 (fun _ => rfl) ?_
    intro v31 ev31
    refine r_aloadN (pc' := 33) ok rfl d60_32 rfl rfl ?_
    refine r_getfield (pc' := 36) (host := "") ok rfl d60_33 (Or.inl (hw _ (List.mem_of_getElem? (i := 187) rfl))) Via.refl A.2.2.2.1 ?_
    refine r_iface (pc' := 41) ok rfl d60_36 (hw _ (List.mem_of_getElem? (i := 356) rfl)) (hw _ (List.mem_of_getElem? (i := 357) rfl)) (hw _ (List.mem_of_getElem? (i := 358) rfl)) (hw _ (List.mem_of_getElem? (i := 359) rfl)) (hw _ (List.mem_of_getElem? (i := 360) rfl)) (hw _ (List.mem_of_getElem? (i := 361) rfl)) (hw _ (List.mem_of_getElem? (i := 362) rfl)) (hw _ (List.mem_of_getElem? (i := 108) rfl)) E (by decide) pd_29 (Con.pay (W := 0) (rmIt l Z a0 hw el ea k dv h0 E F V) EW.nil (hw _ (List.mem_of_getElem? (i := 363) rfl)) (hw _ (List.mem_of_getElem? (i := 164) rfl)) (by decide) (by decide)) (fun q => nomatch q) (Or.inl rfl) rfl (argsL := []) (rest := []) rfl rfl rfl (Nat.le_of_ble_eq_true rfl) (by decide) (by decide) (cV fun x1 h1 q1 le1 => ?_)
    obtain ⟨i, rfl, gi, zi, K1, L1⟩ := q1
    refine r_astoreN (pc' := 42) (ls' := #[.val (.ref a), .val (.int p), .val (.int v31), .val (.ref i), .unset]) ok rfl d60_41 rfl rfl ?_
    refine r_aloadN (pc' := 43) ok rfl d60_42 rfl rfl ?_
    refine r_iface (pc' := 48) ok rfl d60_43 (hw _ (List.mem_of_getElem? (i := 386) rfl)) (hw _ (List.mem_of_getElem? (i := 387) rfl)) (hw _ (List.mem_of_getElem? (i := 388) rfl)) (hw _ (List.mem_of_getElem? (i := 389) rfl)) (hw _ (List.mem_of_getElem? (i := 390) rfl)) (hw _ (List.mem_of_getElem? (i := 391) rfl)) (hw _ (List.mem_of_getElem? (i := 392) rfl)) (hw _ (List.mem_of_getElem? (i := 393) rfl)) L1.1 (by decide) pd_11 (Con.pay (W := 0) (rmHn l Z a0 hw i (.ref el) (.int 0) h1 L1) EW.nil (hw _ (List.mem_of_getElem? (i := 394) rfl)) (hw _ (List.mem_of_getElem? (i := 366) rfl)) (by decide) (by decide)) (fun q => nomatch q) (Or.inl rfl) rfl (argsL := []) (rest := []) rfl rfl rfl (Nat.le_of_ble_eq_true rfl) (by decide) (by decide) (cV fun x2 h2 q2 le2 => ?_)
    obtain ⟨rfl, rfl⟩ := q2
    refine r_if_eq (pc' := 51) (pcY := 91) ok rfl d60_48 (by decide) (by decide) ?_ ?_
    rotate_left
    · intro hc
      exact absurd rfl hc
    intro _
    refine r_iloadN (pc' := 92) ok rfl d60_91 rfl ?_
    refine r_ireturn ok d60_92 (inK_nb (ev31.trans ez)) (by simp) (by decide) (by decide) ?_
    exact ⟨by rw [ev31, ez], K1⟩
  refine r_iloadN (pc' := 1) ok rfl d60_0 rfl ?_
  refine r_aloadN (pc' := 2) ok rfl d60_1 rfl rfl ?_
  refine r_getfield (pc' := 5) (host := "") ok rfl d60_2 (Or.inl (hw _ (List.mem_of_getElem? (i := 183) rfl))) Via.refl A.2.1 ?_
  refine r_icmp_lt (pc' := 8) (pcY := 30) ok rfl d60_5 (by decide) (by decide) ?_ ?_
  · intro hc
    refine r_iconstV (pc' := 31) ok rfl (0 : Int32) d60_30 rfl ?_
    exact J _ (by unfold inK; rw [if_neg (fun q => q.1 hc)])
  intro c1
  refine r_iloadN (pc' := 9) ok rfl d60_8 rfl ?_
  refine r_aloadN (pc' := 10) ok rfl d60_9 rfl rfl ?_
  refine r_getfield (pc' := 13) (host := "") ok rfl d60_10 (Or.inl (hw _ (List.mem_of_getElem? (i := 183) rfl))) Via.refl A.2.1 ?_
  refine r_aloadN (pc' := 14) ok rfl d60_13 rfl rfl ?_
  refine r_getfield (pc' := 17) (host := "") ok rfl d60_14 (Or.inl (hw _ (List.mem_of_getElem? (i := 185) rfl))) Via.refl A.2.2.1 ?_
  refine r_iadd (pc' := 18) ok rfl d60_17 ?_
  refine r_aloadN (pc' := 19) ok rfl d60_18 rfl rfl ?_
  refine r_getfield (pc' := 22) (host := "") ok rfl d60_19 (Or.inl (hw _ (List.mem_of_getElem? (i := 189) rfl))) Via.refl A.2.2.2.2.1 ?_
  refine r_iadd (pc' := 23) ok rfl d60_22 ?_
  rw [show (256 : Int32) + 16 + 0 = 272 from by decide]
  refine r_icmp_ge (pc' := 26) (pcY := 30) ok rfl d60_23 (by decide) (by decide) ?_ ?_
  · intro hc
    refine r_iconstV (pc' := 31) ok rfl (0 : Int32) d60_30 rfl ?_
    exact J _ (by unfold inK; rw [if_neg (fun q => hc q.2)])
  intro c2
  refine r_iconstV (pc' := 27) ok rfl (1 : Int32) d60_26 rfl ?_
  refine r_goto (pc' := 31) ok d60_27 (by decide) (by decide) ?_
  exact J _ (by unfold inK; rw [if_pos ⟨c1, c2⟩])
/-! the watch -/
def KWs (Z : State) (h : Heap) (a : Addr) (v1 v2 v3 v4 v5 v6 v7 v8 v9 v10 v11 v12 : Value) : Prop := Exa Z h a KW ∧ Fld Z h a KW "task" "I" v1 ∧ Fld Z h a KW "saved" "Ljava/util/Map;" v2 ∧ Fld Z h a KW "interruptFrames" "Ljava/util/BitSet;" v3 ∧ Fld Z h a KW "kernel" "Ljava/util/Optional;" v4 ∧ Fld Z h a KW "keepsTimer0" "Z" v5 ∧ Fld Z h a KW "inKernel" "Z" v6 ∧ Fld Z h a KW "cycles" "J" v7 ∧ Fld Z h a KW "initCycles" "J" v8 ∧ Fld Z h a KW "entries" "J" v9 ∧ Fld Z h a KW "dispatches" "J" v10 ∧ Fld Z h a KW "dispatched" "Z" v11 ∧ Fld Z h a KW "tasksDone" "J" v12
theorem OPs.keep {Z : State} {h h' : Heap} {r : Addr} {v : Value} {ws : List Addr} (A : OPs Z h r v) (K : Keep h h' ws) (q : r ∉ ws) : OPs Z h' r v := ⟨A.1.keep K, A.2.keep K q⟩
theorem OPs.ext {Z : State} {h h' : Heap} {r : Addr} {v : Value} (A : OPs Z h r v) (E : Ext h h') : OPs Z h' r v := ⟨A.1.ext E, A.2.ext E⟩
theorem HMs.keep {Z : State} {h h' : Heap} {r : Addr} {v v' : Value} {ws : List Addr} (A : HMs Z h r v v') (K : Keep h h' ws) (q : r ∉ ws) : HMs Z h' r v v' := ⟨A.1.keep K, A.2.1.keep K q, A.2.2.keep K q⟩
theorem TKs.keep {Z : State} {h h' : Heap} {r : Addr} {v1 v2 v3 : Value} {ws : List Addr} (A : TKs Z h r v1 v2 v3) (K : Keep h h' ws) (q : r ∉ ws) : TKs Z h' r v1 v2 v3 := ⟨A.1.keep K, A.2.1.keep K q, A.2.2.1.keep K q, A.2.2.2.keep K q⟩
theorem L12s.keep {Z : State} {h h' : Heap} {r : Addr} {v1 v2 : Value} {ws : List Addr} (A : L12s Z h r v1 v2) (K : Keep h h' ws) (q : r ∉ ws) : L12s Z h' r v1 v2 := ⟨A.1.keep K, A.2.1.keep K q, A.2.2.keep K q⟩
theorem KLs.keep {Z : State} {h h' : Heap} {r : Addr} {v1 v2 v3 v4 v5 v6 : Value} {ws : List Addr} (A : KLs Z h r v1 v2 v3 v4 v5 v6) (K : Keep h h' ws) (q : r ∉ ws) : KLs Z h' r v1 v2 v3 v4 v5 v6 :=
  ⟨A.1.keep K, A.2.1.keep K q, A.2.2.1.keep K q, A.2.2.2.1.keep K q, A.2.2.2.2.1.keep K q, A.2.2.2.2.2.1.keep K q, A.2.2.2.2.2.2.keep K q⟩
/-- the kernel, if there is one -/
def KO (Z : State) (h : Heap) (c : Int32) (o b : Addr) : Prop := (c ≠ 0 ∧ OPs Z h o (.ref b)) ∨ (c = 0 ∧ OPs Z h o .null)
theorem KO.keep {Z : State} {h h' : Heap} {c : Int32} {o b : Addr} {ws : List Addr} (A : KO Z h c o b) (K : Keep h h' ws) (q : o ∉ ws) : KO Z h' c o b := A.imp (fun x => ⟨x.1, x.2.keep K q⟩) (fun x => ⟨x.1, x.2.keep K q⟩)
theorem KO.exa {Z : State} {h : Heap} {c : Int32} {o b : Addr} (A : KO Z h c o b) : Exa Z h o OP := A.elim (fun x => x.2.1) (fun x => x.2.1)
/-- the layout, its list and its task -/
def LY (Z : State) (h : Heap) (b el t e em : Addr) : Prop := KLs Z h b (.int 256) (.int 16) (.ref el) (.int 0) (.int 0) (.ref t) ∧ L12s Z h t (.ref e) (.ref em) ∧ TKs Z h e (.int 512) (.int 4096) (.int 4351)
theorem LY.keep {Z : State} {h h' : Heap} {b el t e em : Addr} {ws : List Addr} (A : LY Z h b el t e em) (K : Keep h h' ws) (qb : b ∉ ws) (qt : t ∉ ws) (qe : e ∉ ws) : LY Z h' b el t e em := ⟨A.1.keep K qb, A.2.1.keep K qt, A.2.2.keep K qe⟩
theorem nin1 {a r : Addr} (h : r < a) : r ∉ [a] := fun q => Nat.lt_irrefl _ (by cases List.mem_singleton.mp q; exact h)
theorem nin2 {a r : Addr} (h : a < r) : r ∉ [a] := fun q => Nat.lt_irrefl _ (by cases List.mem_singleton.mp q; exact h)
theorem d61_0 : decode prog_35_method_10_code 0 = .ok (.aload_n 0, 1) := by decide +kernel
theorem d61_1 : decode prog_35_method_10_code 1 = .ok (.getfield 27, 3) := by decide +kernel
theorem d61_4 : decode prog_35_method_10_code 4 = .ok (.invokevirtual 162, 3) := by decide +kernel
theorem d61_7 : decode prog_35_method_10_code 7 = .ok (.ifCond .eq 24, 3) := by decide +kernel
theorem d61_10 : decode prog_35_method_10_code 10 = .ok (.aload_n 0, 1) := by decide +kernel
theorem d61_11 : decode prog_35_method_10_code 11 = .ok (.getfield 27, 3) := by decide +kernel
theorem d61_14 : decode prog_35_method_10_code 14 = .ok (.invokevirtual 79, 3) := by decide +kernel
theorem d61_17 : decode prog_35_method_10_code 17 = .ok (.checkcast 83, 3) := by decide +kernel
theorem d61_20 : decode prog_35_method_10_code 20 = .ok (.iload_n 1, 1) := by decide +kernel
theorem d61_21 : decode prog_35_method_10_code 21 = .ok (.invokevirtual 133, 3) := by decide +kernel
theorem d61_24 : decode prog_35_method_10_code 24 = .ok (.ifCond .eq 7, 3) := by decide +kernel
theorem d61_27 : decode prog_35_method_10_code 27 = .ok (.iconst 1, 1) := by decide +kernel
theorem d61_28 : decode prog_35_method_10_code 28 = .ok (.goto 4, 3) := by decide +kernel
theorem d61_31 : decode prog_35_method_10_code 31 = .ok (.iconst 0, 1) := by decide +kernel
theorem d61_32 : decode prog_35_method_10_code 32 = .ok (.istore_n 2, 1) := by decide +kernel
theorem d61_33 : decode prog_35_method_10_code 33 = .ok (.iload_n 2, 1) := by decide +kernel
theorem d61_34 : decode prog_35_method_10_code 34 = .ok (.ifCond .eq 27, 3) := by decide +kernel
theorem d61_37 : decode prog_35_method_10_code 37 = .ok (.aload_n 0, 1) := by decide +kernel
theorem d61_38 : decode prog_35_method_10_code 38 = .ok (.getfield 59, 3) := by decide +kernel
theorem d61_41 : decode prog_35_method_10_code 41 = .ok (.ifCond .ne 20, 3) := by decide +kernel
theorem d61_44 : decode prog_35_method_10_code 44 = .ok (.aload_n 0, 1) := by decide +kernel
theorem d61_45 : decode prog_35_method_10_code 45 = .ok (.getfield 7, 3) := by decide +kernel
theorem d61_48 : decode prog_35_method_10_code 48 = .ok (.ifCond .lt 13, 3) := by decide +kernel
theorem d61_51 : decode prog_35_method_10_code 51 = .ok (.aload_n 0, 1) := by decide +kernel
theorem d61_52 : decode prog_35_method_10_code 52 = .ok (.dup, 1) := by decide +kernel
theorem d61_53 : decode prog_35_method_10_code 53 = .ok (.getfield 165, 3) := by decide +kernel
theorem d61_56 : decode prog_35_method_10_code 56 = .ok (.lconst 1, 1) := by decide +kernel
theorem d61_57 : decode prog_35_method_10_code 57 = .ok (.ladd, 1) := by decide +kernel
theorem d61_58 : decode prog_35_method_10_code 58 = .ok (.putfield 165, 3) := by decide +kernel
theorem d61_61 : decode prog_35_method_10_code 61 = .ok (.aload_n 0, 1) := by decide +kernel
theorem d61_62 : decode prog_35_method_10_code 62 = .ok (.iload_n 2, 1) := by decide +kernel
theorem d61_63 : decode prog_35_method_10_code 63 = .ok (.putfield 59, 3) := by decide +kernel
theorem d61_66 : decode prog_35_method_10_code 66 = .ok (.return_, 1) := by decide +kernel
abbrev RS : Room := { frames := 4, cells := 1, slots := 4, locals := 120 }
set_option maxRecDepth 65536 in
theorem rmStP (l : Launch) (Z : State) (a0 : Array Value) (hw : ∀ d ∈ tables_1, d.before a0 Z = true) (a o b el ea : Addr) (k : ClassId) (dv : Value) (p : Int32) (w2 w3 w5 w7 w8 w9 w10 w11 w12 : Value) (u5 u6 : Value) (h0 : Heap) (A : KWs Z h0 a (.int (-1)) w2 w3 (.ref o) w5 (.int 0) w7 w8 w9 w10 w11 w12) (g : Z.heap.size ≤ a) (O : OPs Z h0 o (.ref b)) (L : KLs Z h0 b (.int 256) (.int 16) (.ref el) (.int 0) u5 u6) (E : Exa Z h0 el LN) (F : Fld Z h0 el LN "elements" OA (.ref ea)) (V : Arv Z h0 ea k (.object "java/lang/Object") 0 [] dv) :
    Con l Z [] [] false (⟨"com/example/stackloom/stackloom/service/KernelWatch", "starting", "(I)V"⟩ : MethodName) prog_35_method_10_code 3 none RS #[.ref a, .int p] h0 (rU fun h => Keep h0 h [a] ∧ KWs Z h a (.int (-1)) w2 w3 (.ref o) w5 (.int (inK p)) w7 w8 w9 w10 w11 w12) := by
  obtain ⟨Ea, F1, F2, F3, F4, F5, F6, F7, F8, F9, F10, F11, F12⟩ := A
  have m : a ∈ [a] := List.mem_singleton.mpr rfl
  refine body (ls := #[.val (.ref a), .val (.int p), .unset]) (plainFor_of_name pn_14) (fun m => by first | (simp [entryFrame, mkF, argsToLocals, Value.category]; done) | rfl) fun K ok => ?_
  have J2 : ∀ (h' : Heap), Keep h0 h' [] → ∀ z : Int32, z = inK p → Run Z K Cln h' 1 4 61 #[.val (.ref a), .val (.int p), .val (.int z)] [] := by
    intro h' K' z ez
    replace F1 := F1.keep K' nin0
    replace F2 := F2.keep K' nin0
    replace F3 := F3.keep K' nin0
    replace F4 := F4.keep K' nin0
    replace F5 := F5.keep K' nin0
    replace F6 := F6.keep K' nin0
    replace F7 := F7.keep K' nin0
    replace F8 := F8.keep K' nin0
    replace F9 := F9.keep K' nin0
    replace F10 := F10.keep K' nin0
    replace F11 := F11.keep K' nin0
    replace F12 := F12.keep K' nin0
    refine r_aloadN (pc' := 62) ok rfl d61_61 rfl rfl ?_
    refine r_iloadN (pc' := 63) ok rfl d61_62 rfl ?_
    refine r_putfieldN (pc' := 66) ok rfl d61_63 (hw _ (List.mem_of_getElem? (i := 395) rfl)) Via.refl (Or.inl (hw _ (List.mem_of_getElem? (i := 396) rfl))) (hw _ (List.mem_of_getElem? (i := 210) rfl)) F6 (Ea.keep K') g (ty := .boolean) (by decide) (inK_nb ez) (inK_fb ez) ?_
    intro h31 W31 F31 E31
    replace F1 := F1.other W31 (Or.inr (slot_ne (Or.inl (hw _ (List.mem_of_getElem? (i := 217) rfl))) (Or.inl (hw _ (List.mem_of_getElem? (i := 396) rfl))) (by decide) (t := .int) (t' := .boolean) (by decide) (by decide)))
    replace F2 := F2.other W31 (Or.inr (slot_ne (Or.inr (hw _ (List.mem_of_getElem? (i := 235) rfl))) (Or.inl (hw _ (List.mem_of_getElem? (i := 396) rfl))) (by decide) (t := (.object "java/util/Map")) (t' := .boolean) (by decide) (by decide)))
    replace F3 := F3.other W31 (Or.inr (slot_ne (Or.inr (hw _ (List.mem_of_getElem? (i := 259) rfl))) (Or.inl (hw _ (List.mem_of_getElem? (i := 396) rfl))) (by decide) (t := (.object "java/util/BitSet")) (t' := .boolean) (by decide) (by decide)))
    replace F4 := F4.other W31 (Or.inr (slot_ne (Or.inr (hw _ (List.mem_of_getElem? (i := 261) rfl))) (Or.inl (hw _ (List.mem_of_getElem? (i := 396) rfl))) (by decide) (t := (.object "java/util/Optional")) (t' := .boolean) (by decide) (by decide)))
    replace F5 := F5.other W31 (Or.inr (slot_ne (Or.inr (hw _ (List.mem_of_getElem? (i := 333) rfl))) (Or.inl (hw _ (List.mem_of_getElem? (i := 396) rfl))) (by decide) (t := .boolean) (t' := .boolean) (by decide) (by decide)))
    replace F7 := F7.other W31 (Or.inr (slot_ne (Or.inl (hw _ (List.mem_of_getElem? (i := 411) rfl))) (Or.inl (hw _ (List.mem_of_getElem? (i := 396) rfl))) (by decide) (t := .long) (t' := .boolean) (by decide) (by decide)))
    replace F8 := F8.other W31 (Or.inr (slot_ne (Or.inl (hw _ (List.mem_of_getElem? (i := 413) rfl))) (Or.inl (hw _ (List.mem_of_getElem? (i := 396) rfl))) (by decide) (t := .long) (t' := .boolean) (by decide) (by decide)))
    replace F9 := F9.other W31 (Or.inr (slot_ne (Or.inl (hw _ (List.mem_of_getElem? (i := 415) rfl))) (Or.inl (hw _ (List.mem_of_getElem? (i := 396) rfl))) (by decide) (t := .long) (t' := .boolean) (by decide) (by decide)))
    replace F10 := F10.other W31 (Or.inr (slot_ne (Or.inl (hw _ (List.mem_of_getElem? (i := 417) rfl))) (Or.inl (hw _ (List.mem_of_getElem? (i := 396) rfl))) (by decide) (t := .long) (t' := .boolean) (by decide) (by decide)))
    replace F11 := F11.other W31 (Or.inr (slot_ne (Or.inl (hw _ (List.mem_of_getElem? (i := 525) rfl))) (Or.inl (hw _ (List.mem_of_getElem? (i := 396) rfl))) (by decide) (t := .boolean) (t' := .boolean) (by decide) (by decide)))
    replace F12 := F12.other W31 (Or.inr (slot_ne (Or.inl (hw _ (List.mem_of_getElem? (i := 419) rfl))) (Or.inl (hw _ (List.mem_of_getElem? (i := 396) rfl))) (by decide) (t := .long) (t' := .boolean) (by decide) (by decide)))
    refine r_return ok d61_66 ?_ (by decide) (by decide)
    exact ⟨((Keep.refl h0 [a]).trans K' (fun x hx => nomatch hx)).wr W31 (Or.inl m), by rw [← ez]; exact ⟨E31, F1, F2, F3, F4, F5, F31, F7, F8, F9, F10, F11, F12⟩⟩
  have J1 : ∀ (h' : Heap), Keep h0 h' [] → ∀ z : Int32, z = inK p → Run Z K Cln h' 1 4 32 #[.val (.ref a), .val (.int p), .unset] [.int z] := by
    intro h' K' z ez
    refine r_istoreN (pc' := 33) (ls' := fun z => #[.val (.ref a), .val (.int p), .val (.int z)]) ok rfl d61_32 (fun _ => rfl) ?_
    intro v32 ev32
    refine r_iloadN (pc' := 34) ok rfl d61_33 rfl ?_
    refine r_if_eq (pc' := 37) (pcY := 61) ok rfl d61_34 (by decide) (by decide) ?_ ?_
    · intro hc
      exact J2 h' K' v32 (ev32.trans ez)
    intro hc
    refine r_aloadN (pc' := 38) ok rfl d61_37 rfl rfl ?_
    refine r_getfield (pc' := 41) (host := "") ok rfl d61_38 (Or.inl (hw _ (List.mem_of_getElem? (i := 395) rfl))) Via.refl (F6.keep K' nin0) ?_
    refine r_if_ne (pc' := 44) (pcY := 61) ok rfl d61_41 (by decide) (by decide) ?_ ?_
    · intro hb
      exact absurd rfl hb
    intro _
    refine r_aloadN (pc' := 45) ok rfl d61_44 rfl rfl ?_
    refine r_getfield (pc' := 48) (host := "") ok rfl d61_45 (Or.inl (hw _ (List.mem_of_getElem? (i := 216) rfl))) Via.refl (F1.keep K' nin0) ?_
    refine r_if_lt (pc' := 51) (pcY := 61) ok rfl d61_48 (by decide) (by decide) ?_ ?_
    rotate_left
    · intro hb
      exact absurd (by decide) hb
    intro _
    exact J2 h' K' v32 (ev32.trans ez)
  refine r_aloadN (pc' := 1) ok rfl d61_0 rfl rfl ?_
  refine r_getfield (pc' := 4) (host := "") ok rfl d61_1 (Or.inl (hw _ (List.mem_of_getElem? (i := 260) rfl))) Via.refl F4 ?_
  refine r_virtual (pc' := 7) ok rfl d61_4 (hw _ (List.mem_of_getElem? (i := 340) rfl)) (hw _ (List.mem_of_getElem? (i := 341) rfl)) (hw _ (List.mem_of_getElem? (i := 343) rfl)) (hw _ (List.mem_of_getElem? (i := 342) rfl)) (nf_sel (C := "java/util/Optional") (z := (⟨"java/util/Optional", "isPresent", "()Z"⟩ : MethodName)) (hw _ (List.mem_of_getElem? (i := 343) rfl))) O.1 (by decide) pd_11 (Con.pay (W := 0) (rmOpIP l Z a0 hw o b h0 O) EW.nil (hw _ (List.mem_of_getElem? (i := 344) rfl)) (hw _ (List.mem_of_getElem? (i := 197) rfl)) (by decide) (by decide)) (fun q => nomatch q) (Or.inl rfl) rfl (argsL := []) (rest := []) rfl rfl rfl (Nat.le_of_ble_eq_true rfl) (by decide) (by decide) (cV fun x1 h1 q1 le1 => ?_)
  obtain ⟨rfl, rfl⟩ := q1
  refine r_if_eq (pc' := 10) (pcY := 31) ok rfl d61_7 (by decide) (by decide) ?_ ?_
  · intro hc
    exact absurd hc (by decide)
  intro _
  refine r_aloadN (pc' := 11) ok rfl d61_10 rfl rfl ?_
  refine r_getfield (pc' := 14) (host := "") ok rfl d61_11 (Or.inl (hw _ (List.mem_of_getElem? (i := 260) rfl))) Via.refl F4 ?_
  refine r_virtual (pc' := 17) ok rfl d61_14 (hw _ (List.mem_of_getElem? (i := 345) rfl)) (hw _ (List.mem_of_getElem? (i := 346) rfl)) (hw _ (List.mem_of_getElem? (i := 348) rfl)) (hw _ (List.mem_of_getElem? (i := 347) rfl)) (nf_sel (C := "java/util/Optional") (z := (⟨"java/util/Optional", "orElseThrow", "()Ljava/lang/Object;"⟩ : MethodName)) (hw _ (List.mem_of_getElem? (i := 348) rfl))) O.1 (by decide) pd_27 (Con.pay (W := 0) (rmOpT l Z a0 hw o b h0 O) EW.nil (hw _ (List.mem_of_getElem? (i := 349) rfl)) (hw _ (List.mem_of_getElem? (i := 197) rfl)) (by decide) (by decide)) (fun q => nomatch q) (Or.inl rfl) rfl (argsL := []) (rest := []) rfl rfl rfl (Nat.le_of_ble_eq_true rfl) (by decide) (by decide) (cV fun x2 h2 q2 le2 => ?_)
  obtain ⟨rfl, rfl⟩ := q2
  refine r_checkcast (pc' := 20) ok rfl d61_17 (hw _ (List.mem_of_getElem? (i := 350) rfl)) (Ins.of_exa L.1 (hw _ (List.mem_of_getElem? (i := 264) rfl))) ?_
  refine r_iloadN (pc' := 21) ok rfl d61_20 rfl ?_
  refine r_virtual (pc' := 24) ok rfl d61_21 (hw _ (List.mem_of_getElem? (i := 351) rfl)) (hw _ (List.mem_of_getElem? (i := 352) rfl)) (hw _ (List.mem_of_getElem? (i := 354) rfl)) (hw _ (List.mem_of_getElem? (i := 353) rfl)) (nf_sel (C := "com/example/stackloom/stackloom/model/KernelLayout") (z := (⟨"com/example/stackloom/stackloom/model/KernelLayout", "holds", "(I)Z"⟩ : MethodName)) (hw _ (List.mem_of_getElem? (i := 354) rfl))) L.1 (by decide) pd_28 (Con.pay (W := 0) (rmHo l Z a0 hw b el ea k dv p u5 u6 h0 L E F V) EW.nil (hw _ (List.mem_of_getElem? (i := 355) rfl)) (hw _ (List.mem_of_getElem? (i := 77) rfl)) (by decide) (by decide)) (fun q => nomatch q) (Or.inl rfl) rfl (argsL := [(.int p)]) (rest := []) rfl rfl rfl (Nat.le_of_ble_eq_true rfl) (by decide) (by decide) (cV fun x3 h3 q3 le3 => ?_)
  obtain ⟨rfl, K3⟩ := q3
  refine r_if_eq (pc' := 27) (pcY := 31) ok rfl d61_24 (by decide) (by decide) ?_ ?_
  · intro hc
    refine r_iconstV (pc' := 32) ok rfl (0 : Int32) d61_31 rfl ?_
    exact J1 h3 K3 0 hc.symm
  intro hc
  refine r_iconstV (pc' := 28) ok rfl (1 : Int32) d61_27 rfl ?_
  refine r_goto (pc' := 32) ok d61_28 (by decide) (by decide) ?_
  exact J1 h3 K3 1 (inK_one hc)
set_option maxRecDepth 65536 in
theorem rmStE (l : Launch) (Z : State) (a0 : Array Value) (hw : ∀ d ∈ tables_1, d.before a0 Z = true) (a o : Addr) (p : Int32) (w2 w3 w5 w7 w8 w9 w10 w11 w12 : Value) (h0 : Heap) (A : KWs Z h0 a (.int (-1)) w2 w3 (.ref o) w5 (.int 0) w7 w8 w9 w10 w11 w12) (g : Z.heap.size ≤ a) (O : OPs Z h0 o .null) :
    Con l Z [] [] false (⟨"com/example/stackloom/stackloom/service/KernelWatch", "starting", "(I)V"⟩ : MethodName) prog_35_method_10_code 3 none RS #[.ref a, .int p] h0 (rU fun h => Keep h0 h [a] ∧ KWs Z h a (.int (-1)) w2 w3 (.ref o) w5 (.int 0) w7 w8 w9 w10 w11 w12) := by
  obtain ⟨Ea, F1, F2, F3, F4, F5, F6, F7, F8, F9, F10, F11, F12⟩ := A
  have m : a ∈ [a] := List.mem_singleton.mpr rfl
  refine body (ls := #[.val (.ref a), .val (.int p), .unset]) (plainFor_of_name pn_14) (fun m => by first | (simp [entryFrame, mkF, argsToLocals, Value.category]; done) | rfl) fun K ok => ?_
  refine r_aloadN (pc' := 1) ok rfl d61_0 rfl rfl ?_
  refine r_getfield (pc' := 4) (host := "") ok rfl d61_1 (Or.inl (hw _ (List.mem_of_getElem? (i := 260) rfl))) Via.refl F4 ?_
  refine r_virtual (pc' := 7) ok rfl d61_4 (hw _ (List.mem_of_getElem? (i := 340) rfl)) (hw _ (List.mem_of_getElem? (i := 341) rfl)) (hw _ (List.mem_of_getElem? (i := 343) rfl)) (hw _ (List.mem_of_getElem? (i := 342) rfl)) (nf_sel (C := "java/util/Optional") (z := (⟨"java/util/Optional", "isPresent", "()Z"⟩ : MethodName)) (hw _ (List.mem_of_getElem? (i := 343) rfl))) O.1 (by decide) pd_11 (Con.pay (W := 0) (rmOpIPn l Z a0 hw o h0 O) EW.nil (hw _ (List.mem_of_getElem? (i := 344) rfl)) (hw _ (List.mem_of_getElem? (i := 197) rfl)) (by decide) (by decide)) (fun q => nomatch q) (Or.inl rfl) rfl (argsL := []) (rest := []) rfl rfl rfl (Nat.le_of_ble_eq_true rfl) (by decide) (by decide) (cV fun x1 h1 q1 le1 => ?_)
  obtain ⟨rfl, rfl⟩ := q1
  refine r_if_eq (pc' := 10) (pcY := 31) ok rfl d61_7 (by decide) (by decide) ?_ ?_
  rotate_left
  · intro hc
    exact absurd rfl hc
  intro _
  refine r_iconstV (pc' := 32) ok rfl (0 : Int32) d61_31 rfl ?_
  refine r_istoreN (pc' := 33) (ls' := fun z => #[.val (.ref a), .val (.int p), .val (.int z)]) ok rfl d61_32 (fun _ => rfl) ?_
  intro v32 ev32
  subst ev32
  refine r_iloadN (pc' := 34) ok rfl d61_33 rfl ?_
  refine r_if_eq (pc' := 37) (pcY := 61) ok rfl d61_34 (by decide) (by decide) ?_ ?_
  rotate_left
  · intro hc
    exact absurd rfl hc
  intro _
  refine r_aloadN (pc' := 62) ok rfl d61_61 rfl rfl ?_
  refine r_iloadN (pc' := 63) ok rfl d61_62 rfl ?_
  refine r_putfieldN (pc' := 66) ok rfl d61_63 (hw _ (List.mem_of_getElem? (i := 395) rfl)) Via.refl (Or.inl (hw _ (List.mem_of_getElem? (i := 396) rfl))) (hw _ (List.mem_of_getElem? (i := 210) rfl)) F6 Ea g (ty := .boolean) (by decide) rfl (by decide) ?_
  intro h31 W31 F31 E31
  replace F1 := F1.other W31 (Or.inr (slot_ne (Or.inl (hw _ (List.mem_of_getElem? (i := 217) rfl))) (Or.inl (hw _ (List.mem_of_getElem? (i := 396) rfl))) (by decide) (t := .int) (t' := .boolean) (by decide) (by decide)))
  replace F2 := F2.other W31 (Or.inr (slot_ne (Or.inr (hw _ (List.mem_of_getElem? (i := 235) rfl))) (Or.inl (hw _ (List.mem_of_getElem? (i := 396) rfl))) (by decide) (t := (.object "java/util/Map")) (t' := .boolean) (by decide) (by decide)))
  replace F3 := F3.other W31 (Or.inr (slot_ne (Or.inr (hw _ (List.mem_of_getElem? (i := 259) rfl))) (Or.inl (hw _ (List.mem_of_getElem? (i := 396) rfl))) (by decide) (t := (.object "java/util/BitSet")) (t' := .boolean) (by decide) (by decide)))
  replace F4 := F4.other W31 (Or.inr (slot_ne (Or.inr (hw _ (List.mem_of_getElem? (i := 261) rfl))) (Or.inl (hw _ (List.mem_of_getElem? (i := 396) rfl))) (by decide) (t := (.object "java/util/Optional")) (t' := .boolean) (by decide) (by decide)))
  replace F5 := F5.other W31 (Or.inr (slot_ne (Or.inr (hw _ (List.mem_of_getElem? (i := 333) rfl))) (Or.inl (hw _ (List.mem_of_getElem? (i := 396) rfl))) (by decide) (t := .boolean) (t' := .boolean) (by decide) (by decide)))
  replace F7 := F7.other W31 (Or.inr (slot_ne (Or.inl (hw _ (List.mem_of_getElem? (i := 411) rfl))) (Or.inl (hw _ (List.mem_of_getElem? (i := 396) rfl))) (by decide) (t := .long) (t' := .boolean) (by decide) (by decide)))
  replace F8 := F8.other W31 (Or.inr (slot_ne (Or.inl (hw _ (List.mem_of_getElem? (i := 413) rfl))) (Or.inl (hw _ (List.mem_of_getElem? (i := 396) rfl))) (by decide) (t := .long) (t' := .boolean) (by decide) (by decide)))
  replace F9 := F9.other W31 (Or.inr (slot_ne (Or.inl (hw _ (List.mem_of_getElem? (i := 415) rfl))) (Or.inl (hw _ (List.mem_of_getElem? (i := 396) rfl))) (by decide) (t := .long) (t' := .boolean) (by decide) (by decide)))
  replace F10 := F10.other W31 (Or.inr (slot_ne (Or.inl (hw _ (List.mem_of_getElem? (i := 417) rfl))) (Or.inl (hw _ (List.mem_of_getElem? (i := 396) rfl))) (by decide) (t := .long) (t' := .boolean) (by decide) (by decide)))
  replace F11 := F11.other W31 (Or.inr (slot_ne (Or.inl (hw _ (List.mem_of_getElem? (i := 525) rfl))) (Or.inl (hw _ (List.mem_of_getElem? (i := 396) rfl))) (by decide) (t := .boolean) (t' := .boolean) (by decide) (by decide)))
  replace F12 := F12.other W31 (Or.inr (slot_ne (Or.inl (hw _ (List.mem_of_getElem? (i := 419) rfl))) (Or.inl (hw _ (List.mem_of_getElem? (i := 396) rfl))) (by decide) (t := .long) (t' := .boolean) (by decide) (by decide)))
  refine r_return ok d61_66 ?_ (by decide) (by decide)
  exact ⟨(Keep.refl h0 [a]).wr W31 (Or.inl m), E31, F1, F2, F3, F4, F5, F31, F7, F8, F9, F10, F11, F12⟩
theorem rmSt (l : Launch) (Z : State) (a0 : Array Value) (hw : ∀ d ∈ tables_1, d.before a0 Z = true) (a o b el ea : Addr) (k : ClassId) (dv : Value) (c4 p : Int32) (w2 w3 w5 w7 w8 w9 w10 w11 w12 : Value) (u5 u6 : Value) (h0 : Heap) (A : KWs Z h0 a (.int (-1)) w2 w3 (.ref o) w5 (.int 0) w7 w8 w9 w10 w11 w12) (g : Z.heap.size ≤ a) (O : KO Z h0 c4 o b) (L : KLs Z h0 b (.int 256) (.int 16) (.ref el) (.int 0) u5 u6) (E : Exa Z h0 el LN) (F : Fld Z h0 el LN "elements" OA (.ref ea)) (V : Arv Z h0 ea k (.object "java/lang/Object") 0 [] dv) :
    Con l Z [] [] false (⟨"com/example/stackloom/stackloom/service/KernelWatch", "starting", "(I)V"⟩ : MethodName) prog_35_method_10_code 3 none RS #[.ref a, .int p] h0 (rU fun h => Keep h0 h [a] ∧ KWs Z h a (.int (-1)) w2 w3 (.ref o) w5 (.int (if c4 = 0 then 0 else inK p)) w7 w8 w9 w10 w11 w12) := by
  rcases O with ⟨hc, O⟩ | ⟨hc, O⟩
  · rw [if_neg hc]; exact rmStP l Z a0 hw a o b el ea k dv p w2 w3 w5 w7 w8 w9 w10 w11 w12 u5 u6 h0 A g O L E F V
  · rw [if_pos hc]; exact rmStE l Z a0 hw a o p w2 w3 w5 w7 w8 w9 w10 w11 w12 h0 A g O
theorem d62_0 : decode prog_35_method_11_code 0 = .ok (.aload_n 0, 1) := by decide +kernel
theorem d62_1 : decode prog_35_method_11_code 1 = .ok (.getfield 59, 3) := by decide +kernel
theorem d62_4 : decode prog_35_method_11_code 4 = .ok (.ifCond .eq 32, 3) := by decide +kernel
theorem d62_7 : decode prog_35_method_11_code 7 = .ok (.aload_n 0, 1) := by decide +kernel
theorem d62_8 : decode prog_35_method_11_code 8 = .ok (.dup, 1) := by decide +kernel
theorem d62_9 : decode prog_35_method_11_code 9 = .ok (.getfield 168, 3) := by decide +kernel
theorem d62_12 : decode prog_35_method_11_code 12 = .ok (.iload_n 1, 1) := by decide +kernel
theorem d62_13 : decode prog_35_method_11_code 13 = .ok (.i2l, 1) := by decide +kernel
theorem d62_14 : decode prog_35_method_11_code 14 = .ok (.ladd, 1) := by decide +kernel
theorem d62_15 : decode prog_35_method_11_code 15 = .ok (.putfield 168, 3) := by decide +kernel
theorem d62_18 : decode prog_35_method_11_code 18 = .ok (.aload_n 0, 1) := by decide +kernel
theorem d62_19 : decode prog_35_method_11_code 19 = .ok (.getfield 141, 3) := by decide +kernel
theorem d62_22 : decode prog_35_method_11_code 22 = .ok (.ifCond .ne 14, 3) := by decide +kernel
theorem d62_25 : decode prog_35_method_11_code 25 = .ok (.aload_n 0, 1) := by decide +kernel
theorem d62_26 : decode prog_35_method_11_code 26 = .ok (.dup, 1) := by decide +kernel
theorem d62_27 : decode prog_35_method_11_code 27 = .ok (.getfield 171, 3) := by decide +kernel
theorem d62_30 : decode prog_35_method_11_code 30 = .ok (.iload_n 1, 1) := by decide +kernel
theorem d62_31 : decode prog_35_method_11_code 31 = .ok (.i2l, 1) := by decide +kernel
theorem d62_32 : decode prog_35_method_11_code 32 = .ok (.ladd, 1) := by decide +kernel
theorem d62_33 : decode prog_35_method_11_code 33 = .ok (.putfield 171, 3) := by decide +kernel
theorem d62_36 : decode prog_35_method_11_code 36 = .ok (.return_, 1) := by decide +kernel
set_option maxRecDepth 65536 in
theorem rmEx (l : Launch) (Z : State) (a0 : Array Value) (hw : ∀ d ∈ tables_1, d.before a0 Z = true) (a : Addr) (n u d : Int32) (c i : Int64) (w1 w2 w3 w4 w5 w9 w10 w12 : Value) (h0 : Heap) (A : KWs Z h0 a w1 w2 w3 w4 w5 (.int u) (.long c) (.long i) w9 w10 (.int d) w12) (g : Z.heap.size ≤ a) :
    Con l Z [] [] false (⟨"com/example/stackloom/stackloom/service/KernelWatch", "executed", "(I)V"⟩ : MethodName) prog_35_method_11_code 2 none RZ #[.ref a, .int n] h0 (rU fun h => Keep h0 h [a] ∧ KWs Z h a w1 w2 w3 w4 w5 (.int u) (.long (if u = 0 then c else c + n.toInt64)) (.long (if u = 0 then i else if d = 0 then i + n.toInt64 else i)) w9 w10 (.int d) w12) := by
  obtain ⟨Ea, F1, F2, F3, F4, F5, F6, F7, F8, F9, F10, F11, F12⟩ := A
  have m : a ∈ [a] := List.mem_singleton.mpr rfl
  refine body (ls := #[.val (.ref a), .val (.int n)]) (plainFor_of_name pn_14) (fun m => by first | (simp [entryFrame, mkF, argsToLocals, Value.category]; done) | rfl) fun K ok => ?_
  refine r_aloadN (pc' := 1) ok rfl d62_0 rfl rfl ?_
  refine r_getfield (pc' := 4) (host := "") ok rfl d62_1 (Or.inl (hw _ (List.mem_of_getElem? (i := 395) rfl))) Via.refl F6 ?_
  refine r_if_eq (pc' := 7) (pcY := 36) ok rfl d62_4 (by decide) (by decide) ?_ ?_
  · intro hc
    refine r_return ok d62_36 ?_ (by decide) (by decide)
    exact ⟨Keep.refl h0 [a], by rw [if_pos hc, if_pos hc]; exact ⟨Ea, F1, F2, F3, F4, F5, F6, F7, F8, F9, F10, F11, F12⟩⟩
  intro hc
  refine r_aloadN (pc' := 8) ok rfl d62_7 rfl rfl ?_
  refine r_dup (pc' := 9) ok rfl d62_8 rfl ?_
  refine r_getfield (pc' := 12) (host := "") ok rfl d62_9 (Or.inl (hw _ (List.mem_of_getElem? (i := 410) rfl))) Via.refl F7 ?_
  refine r_iloadN (pc' := 13) ok rfl d62_12 rfl ?_
  refine r_i2l (pc' := 14) ok rfl d62_13 ?_
  refine r_ladd (pc' := 15) ok rfl d62_14 ?_
  refine r_putfield (pc' := 18) (host := "") ok rfl d62_15 (Or.inl (hw _ (List.mem_of_getElem? (i := 410) rfl))) Via.refl (Or.inl (hw _ (List.mem_of_getElem? (i := 411) rfl))) (hw _ (List.mem_of_getElem? (i := 210) rfl)) F7 Ea g (ty := .long) (by decide) rfl rfl ?_
  intro h31 W31 F31 E31
  replace F1 := F1.other W31 (Or.inr (slot_ne (Or.inl (hw _ (List.mem_of_getElem? (i := 217) rfl))) (Or.inl (hw _ (List.mem_of_getElem? (i := 411) rfl))) (by decide) (t := .int) (t' := .long) (by decide) (by decide)))
  replace F2 := F2.other W31 (Or.inr (slot_ne (Or.inr (hw _ (List.mem_of_getElem? (i := 235) rfl))) (Or.inl (hw _ (List.mem_of_getElem? (i := 411) rfl))) (by decide) (t := (.object "java/util/Map")) (t' := .long) (by decide) (by decide)))
  replace F3 := F3.other W31 (Or.inr (slot_ne (Or.inr (hw _ (List.mem_of_getElem? (i := 259) rfl))) (Or.inl (hw _ (List.mem_of_getElem? (i := 411) rfl))) (by decide) (t := (.object "java/util/BitSet")) (t' := .long) (by decide) (by decide)))
  replace F4 := F4.other W31 (Or.inr (slot_ne (Or.inr (hw _ (List.mem_of_getElem? (i := 261) rfl))) (Or.inl (hw _ (List.mem_of_getElem? (i := 411) rfl))) (by decide) (t := (.object "java/util/Optional")) (t' := .long) (by decide) (by decide)))
  replace F5 := F5.other W31 (Or.inr (slot_ne (Or.inr (hw _ (List.mem_of_getElem? (i := 333) rfl))) (Or.inl (hw _ (List.mem_of_getElem? (i := 411) rfl))) (by decide) (t := .boolean) (t' := .long) (by decide) (by decide)))
  replace F6 := F6.other W31 (Or.inr (slot_ne (Or.inl (hw _ (List.mem_of_getElem? (i := 396) rfl))) (Or.inl (hw _ (List.mem_of_getElem? (i := 411) rfl))) (by decide) (t := .boolean) (t' := .long) (by decide) (by decide)))
  replace F8 := F8.other W31 (Or.inr (slot_ne (Or.inl (hw _ (List.mem_of_getElem? (i := 413) rfl))) (Or.inl (hw _ (List.mem_of_getElem? (i := 411) rfl))) (by decide) (t := .long) (t' := .long) (by decide) (by decide)))
  replace F9 := F9.other W31 (Or.inr (slot_ne (Or.inl (hw _ (List.mem_of_getElem? (i := 415) rfl))) (Or.inl (hw _ (List.mem_of_getElem? (i := 411) rfl))) (by decide) (t := .long) (t' := .long) (by decide) (by decide)))
  replace F10 := F10.other W31 (Or.inr (slot_ne (Or.inl (hw _ (List.mem_of_getElem? (i := 417) rfl))) (Or.inl (hw _ (List.mem_of_getElem? (i := 411) rfl))) (by decide) (t := .long) (t' := .long) (by decide) (by decide)))
  replace F11 := F11.other W31 (Or.inr (slot_ne (Or.inl (hw _ (List.mem_of_getElem? (i := 525) rfl))) (Or.inl (hw _ (List.mem_of_getElem? (i := 411) rfl))) (by decide) (t := .boolean) (t' := .long) (by decide) (by decide)))
  replace F12 := F12.other W31 (Or.inr (slot_ne (Or.inl (hw _ (List.mem_of_getElem? (i := 419) rfl))) (Or.inl (hw _ (List.mem_of_getElem? (i := 411) rfl))) (by decide) (t := .long) (t' := .long) (by decide) (by decide)))
  refine r_aloadN (pc' := 19) ok rfl d62_18 rfl rfl ?_
  refine r_getfield (pc' := 22) (host := "") ok rfl d62_19 (Or.inl (hw _ (List.mem_of_getElem? (i := 524) rfl))) Via.refl F11 ?_
  refine r_if_ne (pc' := 25) (pcY := 36) ok rfl d62_22 (by decide) (by decide) ?_ ?_
  · intro hd
    refine r_return ok d62_36 ?_ (by decide) (by decide)
    exact ⟨(Keep.refl h0 [a]).wr W31 (Or.inl m), by rw [if_neg hc, if_neg hc, if_neg hd]; exact ⟨E31, F1, F2, F3, F4, F5, F6, F31, F8, F9, F10, F11, F12⟩⟩
  intro hd
  refine r_aloadN (pc' := 26) ok rfl d62_25 rfl rfl ?_
  refine r_dup (pc' := 27) ok rfl d62_26 rfl ?_
  refine r_getfield (pc' := 30) (host := "") ok rfl d62_27 (Or.inl (hw _ (List.mem_of_getElem? (i := 412) rfl))) Via.refl F8 ?_
  refine r_iloadN (pc' := 31) ok rfl d62_30 rfl ?_
  refine r_i2l (pc' := 32) ok rfl d62_31 ?_
  refine r_ladd (pc' := 33) ok rfl d62_32 ?_
  refine r_putfield (pc' := 36) (host := "") ok rfl d62_33 (Or.inl (hw _ (List.mem_of_getElem? (i := 412) rfl))) Via.refl (Or.inl (hw _ (List.mem_of_getElem? (i := 413) rfl))) (hw _ (List.mem_of_getElem? (i := 210) rfl)) F8 E31 g (ty := .long) (by decide) rfl rfl ?_
  intro h32 W32 F32 E32
  replace F1 := F1.other W32 (Or.inr (slot_ne (Or.inl (hw _ (List.mem_of_getElem? (i := 217) rfl))) (Or.inl (hw _ (List.mem_of_getElem? (i := 413) rfl))) (by decide) (t := .int) (t' := .long) (by decide) (by decide)))
  replace F2 := F2.other W32 (Or.inr (slot_ne (Or.inr (hw _ (List.mem_of_getElem? (i := 235) rfl))) (Or.inl (hw _ (List.mem_of_getElem? (i := 413) rfl))) (by decide) (t := (.object "java/util/Map")) (t' := .long) (by decide) (by decide)))
  replace F3 := F3.other W32 (Or.inr (slot_ne (Or.inr (hw _ (List.mem_of_getElem? (i := 259) rfl))) (Or.inl (hw _ (List.mem_of_getElem? (i := 413) rfl))) (by decide) (t := (.object "java/util/BitSet")) (t' := .long) (by decide) (by decide)))
  replace F4 := F4.other W32 (Or.inr (slot_ne (Or.inr (hw _ (List.mem_of_getElem? (i := 261) rfl))) (Or.inl (hw _ (List.mem_of_getElem? (i := 413) rfl))) (by decide) (t := (.object "java/util/Optional")) (t' := .long) (by decide) (by decide)))
  replace F5 := F5.other W32 (Or.inr (slot_ne (Or.inr (hw _ (List.mem_of_getElem? (i := 333) rfl))) (Or.inl (hw _ (List.mem_of_getElem? (i := 413) rfl))) (by decide) (t := .boolean) (t' := .long) (by decide) (by decide)))
  replace F6 := F6.other W32 (Or.inr (slot_ne (Or.inl (hw _ (List.mem_of_getElem? (i := 396) rfl))) (Or.inl (hw _ (List.mem_of_getElem? (i := 413) rfl))) (by decide) (t := .boolean) (t' := .long) (by decide) (by decide)))
  replace F31 := F31.other W32 (Or.inr (slot_ne (Or.inl (hw _ (List.mem_of_getElem? (i := 411) rfl))) (Or.inl (hw _ (List.mem_of_getElem? (i := 413) rfl))) (by decide) (t := .long) (t' := .long) (by decide) (by decide)))
  replace F9 := F9.other W32 (Or.inr (slot_ne (Or.inl (hw _ (List.mem_of_getElem? (i := 415) rfl))) (Or.inl (hw _ (List.mem_of_getElem? (i := 413) rfl))) (by decide) (t := .long) (t' := .long) (by decide) (by decide)))
  replace F10 := F10.other W32 (Or.inr (slot_ne (Or.inl (hw _ (List.mem_of_getElem? (i := 417) rfl))) (Or.inl (hw _ (List.mem_of_getElem? (i := 413) rfl))) (by decide) (t := .long) (t' := .long) (by decide) (by decide)))
  replace F11 := F11.other W32 (Or.inr (slot_ne (Or.inl (hw _ (List.mem_of_getElem? (i := 525) rfl))) (Or.inl (hw _ (List.mem_of_getElem? (i := 413) rfl))) (by decide) (t := .boolean) (t' := .long) (by decide) (by decide)))
  replace F12 := F12.other W32 (Or.inr (slot_ne (Or.inl (hw _ (List.mem_of_getElem? (i := 419) rfl))) (Or.inl (hw _ (List.mem_of_getElem? (i := 413) rfl))) (by decide) (t := .long) (t' := .long) (by decide) (by decide)))
  refine r_return ok d62_36 ?_ (by decide) (by decide)
  exact ⟨((Keep.refl h0 [a]).wr W31 (Or.inl m)).wr W32 (Or.inl m), by rw [if_neg hc, if_neg hc, if_pos (by simpa using hd)]; exact ⟨E32, F1, F2, F3, F4, F5, F6, F31, F32, F9, F10, F11, F12⟩⟩
theorem d63_0 : decode prog_35_method_13_code 0 = .ok (.new 184, 3) := by decide +kernel
theorem d63_3 : decode prog_35_method_13_code 3 = .ok (.dup, 1) := by decide +kernel
theorem d63_4 : decode prog_35_method_13_code 4 = .ok (.aload_n 0, 1) := by decide +kernel
theorem d63_5 : decode prog_35_method_13_code 5 = .ok (.getfield 168, 3) := by decide +kernel
theorem d63_8 : decode prog_35_method_13_code 8 = .ok (.aload_n 0, 1) := by decide +kernel
theorem d63_9 : decode prog_35_method_13_code 9 = .ok (.getfield 171, 3) := by decide +kernel
theorem d63_12 : decode prog_35_method_13_code 12 = .ok (.aload_n 0, 1) := by decide +kernel
theorem d63_13 : decode prog_35_method_13_code 13 = .ok (.getfield 165, 3) := by decide +kernel
theorem d63_16 : decode prog_35_method_13_code 16 = .ok (.aload_n 0, 1) := by decide +kernel
theorem d63_17 : decode prog_35_method_13_code 17 = .ok (.getfield 137, 3) := by decide +kernel
theorem d63_20 : decode prog_35_method_13_code 20 = .ok (.aload_n 0, 1) := by decide +kernel
theorem d63_21 : decode prog_35_method_13_code 21 = .ok (.getfield 159, 3) := by decide +kernel
theorem d63_24 : decode prog_35_method_13_code 24 = .ok (.invokespecial 186, 3) := by decide +kernel
theorem d63_27 : decode prog_35_method_13_code 27 = .ok (.areturn, 1) := by decide +kernel
abbrev RKc : Room := { frames := 3, cells := 1, slots := 5, locals := 80 }
set_option maxRecDepth 65536 in
theorem rmCo (l : Launch) (Z : State) (a0 : Array Value) (hw : ∀ d ∈ tables_1, d.before a0 Z = true) (a : Addr) (c i e d t : Int64) (w1 w2 w3 w4 w5 w6 w11 : Value) (h0 : Heap) (A : KWs Z h0 a w1 w2 w3 w4 w5 w6 (.long c) (.long i) (.long e) (.long d) w11 (.long t)) :
    Con l Z [] [] false (⟨"com/example/stackloom/stackloom/service/KernelWatch", "counts", "()Lcom/example/stackloom/stackloom/service/Core$KernelCounts;"⟩ : MethodName) prog_35_method_13_code 1 (some (.object "com/example/stackloom/stackloom/service/Core$KernelCounts")) RKc #[.ref a] h0 (rV fun x h => ∃ b, x = .ref b ∧ KCs Z h b (.long c) (.long i) (.long e) (.long d) (.long t)) := by
  obtain ⟨Ea, F1, F2, F3, F4, F5, F6, F7, F8, F9, F10, F11, F12⟩ := A
  refine body (ls := #[.val (.ref a)]) (plainFor_of_name pn_14) (fun m => by first | (simp [entryFrame, mkF, argsToLocals, Value.category]; done) | rfl) fun K ok => ?_
  refine r_new (pc' := 3) ok rfl d63_0 (hw _ (List.mem_of_getElem? (i := 407) rfl)) (hw _ (List.mem_of_getElem? (i := 408) rfl)) (hw _ (List.mem_of_getElem? (i := 409) rfl)) (by decide) (by decide) ?_
  intro h1 b1 g1 z1 E1 A1 D1
  have G1 := D1 (Or.inr (hw _ (List.mem_of_getElem? (i := 425) rfl))) (ty := .long) (by decide)
  have G2 := D1 (Or.inr (hw _ (List.mem_of_getElem? (i := 427) rfl))) (ty := .long) (by decide)
  have G3 := D1 (Or.inr (hw _ (List.mem_of_getElem? (i := 429) rfl))) (ty := .long) (by decide)
  have G4 := D1 (Or.inr (hw _ (List.mem_of_getElem? (i := 431) rfl))) (ty := .long) (by decide)
  have G5 := D1 (Or.inr (hw _ (List.mem_of_getElem? (i := 433) rfl))) (ty := .long) (by decide)
  refine r_dup (pc' := 4) ok rfl d63_3 rfl ?_
  refine r_aloadN (pc' := 5) ok rfl d63_4 rfl rfl ?_
  refine r_getfield (pc' := 8) (host := "") ok rfl d63_5 (Or.inl (hw _ (List.mem_of_getElem? (i := 410) rfl))) Via.refl (F7.ext E1) ?_
  refine r_aloadN (pc' := 9) ok rfl d63_8 rfl rfl ?_
  refine r_getfield (pc' := 12) (host := "") ok rfl d63_9 (Or.inl (hw _ (List.mem_of_getElem? (i := 412) rfl))) Via.refl (F8.ext E1) ?_
  refine r_aloadN (pc' := 13) ok rfl d63_12 rfl rfl ?_
  refine r_getfield (pc' := 16) (host := "") ok rfl d63_13 (Or.inl (hw _ (List.mem_of_getElem? (i := 414) rfl))) Via.refl (F9.ext E1) ?_
  refine r_aloadN (pc' := 17) ok rfl d63_16 rfl rfl ?_
  refine r_getfield (pc' := 20) (host := "") ok rfl d63_17 (Or.inl (hw _ (List.mem_of_getElem? (i := 416) rfl))) Via.refl (F10.ext E1) ?_
  refine r_aloadN (pc' := 21) ok rfl d63_20 rfl rfl ?_
  refine r_getfield (pc' := 24) (host := "") ok rfl d63_21 (Or.inl (hw _ (List.mem_of_getElem? (i := 418) rfl))) Via.refl (F12.ext E1) ?_
  refine r_special (pc' := 27) ok rfl d63_24 rfl (hw _ (List.mem_of_getElem? (i := 420) rfl)) (hw _ (List.mem_of_getElem? (i := 421) rfl)) (hw _ (List.mem_of_getElem? (i := 422) rfl)) (by decide) pd_33 (Con.pay (W := 1) (rmKC l Z a0 hw b1 c i e d t _ _ _ _ _ h1 ⟨A1, G1, G2, G3, G4, G5⟩ z1) EW.nil (hw _ (List.mem_of_getElem? (i := 422) rfl)) (hw _ (List.mem_of_getElem? (i := 409) rfl)) (by decide) (by decide)) (fun q => nomatch q) (Or.inl rfl) rfl (argsL := [(.long c), (.long i), (.long e), (.long d), (.long t)]) (rest := [(.ref b1)]) rfl rfl rfl (Nat.le_of_ble_eq_true rfl) (by decide) (by decide) (cU fun h2 q2 le2 => ?_)
  refine r_areturn ok d63_27 rfl rfl rfl (by decide) (by decide) ?_
  exact ⟨b1, rfl, q2.2⟩
/-! whose stack is it? -/
theorem d64_0 : decode prog_26_method_6_code 0 = .ok (.iconst (-1), 1) := by decide +kernel
theorem d64_1 : decode prog_26_method_6_code 1 = .ok (.istore_n 2, 1) := by decide +kernel
theorem d64_2 : decode prog_26_method_6_code 2 = .ok (.iconst 0, 1) := by decide +kernel
theorem d64_3 : decode prog_26_method_6_code 3 = .ok (.istore_n 3, 1) := by decide +kernel
theorem d64_4 : decode prog_26_method_6_code 4 = .ok (.iload_n 3, 1) := by decide +kernel
theorem d64_5 : decode prog_26_method_6_code 5 = .ok (.aload_n 0, 1) := by decide +kernel
theorem d64_6 : decode prog_26_method_6_code 6 = .ok (.getfield 32, 3) := by decide +kernel
theorem d64_9 : decode prog_26_method_6_code 9 = .ok (.invokeinterface 75 1, 5) := by decide +kernel
theorem d64_14 : decode prog_26_method_6_code 14 = .ok (.if_icmp .ge 55, 3) := by decide +kernel
theorem d64_17 : decode prog_26_method_6_code 17 = .ok (.aload_n 0, 1) := by decide +kernel
theorem d64_18 : decode prog_26_method_6_code 18 = .ok (.getfield 32, 3) := by decide +kernel
theorem d64_21 : decode prog_26_method_6_code 21 = .ok (.iload_n 3, 1) := by decide +kernel
theorem d64_22 : decode prog_26_method_6_code 22 = .ok (.invokeinterface 78 2, 5) := by decide +kernel
theorem d64_27 : decode prog_26_method_6_code 27 = .ok (.checkcast 82, 3) := by decide +kernel
theorem d64_30 : decode prog_26_method_6_code 30 = .ok (.iload_n 1, 1) := by decide +kernel
theorem d64_31 : decode prog_26_method_6_code 31 = .ok (.invokevirtual 84, 3) := by decide +kernel
theorem d64_34 : decode prog_26_method_6_code 34 = .ok (.ifCond .eq 29, 3) := by decide +kernel
theorem d64_37 : decode prog_26_method_6_code 37 = .ok (.iload_n 2, 1) := by decide +kernel
theorem d64_38 : decode prog_26_method_6_code 38 = .ok (.ifCond .lt 23, 3) := by decide +kernel
theorem d64_41 : decode prog_26_method_6_code 41 = .ok (.iload_n 1, 1) := by decide +kernel
theorem d64_42 : decode prog_26_method_6_code 42 = .ok (.aload_n 0, 1) := by decide +kernel
theorem d64_43 : decode prog_26_method_6_code 43 = .ok (.getfield 32, 3) := by decide +kernel
theorem d64_46 : decode prog_26_method_6_code 46 = .ok (.iload_n 3, 1) := by decide +kernel
theorem d64_47 : decode prog_26_method_6_code 47 = .ok (.invokeinterface 78 2, 5) := by decide +kernel
theorem d64_52 : decode prog_26_method_6_code 52 = .ok (.checkcast 82, 3) := by decide +kernel
theorem d64_55 : decode prog_26_method_6_code 55 = .ok (.invokevirtual 88, 3) := by decide +kernel
theorem d64_58 : decode prog_26_method_6_code 58 = .ok (.if_icmp .ne 5, 3) := by decide +kernel
theorem d64_61 : decode prog_26_method_6_code 61 = .ok (.iload_n 3, 1) := by decide +kernel
theorem d64_62 : decode prog_26_method_6_code 62 = .ok (.istore_n 2, 1) := by decide +kernel
theorem d64_63 : decode prog_26_method_6_code 63 = .ok (.iinc 3 1, 3) := by decide +kernel
theorem d64_66 : decode prog_26_method_6_code 66 = .ok (.goto (-62), 3) := by decide +kernel
theorem d64_69 : decode prog_26_method_6_code 69 = .ok (.iload_n 2, 1) := by decide +kernel
theorem d64_70 : decode prog_26_method_6_code 70 = .ok (.ireturn, 1) := by decide +kernel
set_option maxRecDepth 65536 in
theorem rmTO (l : Launch) (Z : State) (a0 : Array Value) (hw : ∀ d ∈ tables_1, d.before a0 Z = true) (a t e em : Addr) (w1 w2 w3 w4 w5 u1 : Value) (h0 : Heap) (A : KLs Z h0 a w1 w2 w3 w4 w5 (.ref t)) (L : L12s Z h0 t (.ref e) (.ref em)) (T : TKs Z h0 e u1 (.int 4096) (.int 4351)) (SM : Sta Z Z.heap "java/util/ImmutableCollections" "EMPTY" LO (.ref em)) :
    Con l Z [] [] false (⟨"com/example/stackloom/stackloom/model/KernelLayout", "taskOwning", "(I)I"⟩ : MethodName) prog_26_method_6_code 4 (some .int) R3 #[.ref a, .int 4224] h0 (rV fun x h => x = .int 0 ∧ h0 = h) := by
  refine body (ls := #[.val (.ref a), .val (.int 4224), .unset, .unset]) (plainFor_of_name pn_5) (fun m => by first | (simp [entryFrame, mkF, argsToLocals, Value.category]; done) | rfl) fun K ok => ?_
  refine r_iconstV (pc' := 1) ok rfl (-1 : Int32) d64_0 rfl ?_
  refine r_istoreN (pc' := 2) (ls' := fun z => #[.val (.ref a), .val (.int 4224), .val (.int z), .unset]) ok rfl d64_1 (fun _ => rfl) ?_
  intro v1 ev1
  refine r_iconstV (pc' := 3) ok rfl (0 : Int32) d64_2 rfl ?_
  refine r_istoreN (pc' := 4) (ls' := fun z => #[.val (.ref a), .val (.int 4224), .val (.int v1), .val (.int z)]) ok rfl d64_3 (fun _ => rfl) ?_
  intro v3 ev3
  subst ev1 ev3
  refine r_iloadN (pc' := 5) ok rfl d64_4 rfl ?_
  refine r_aloadN (pc' := 6) ok rfl d64_5 rfl rfl ?_
  refine r_getfield (pc' := 9) (host := "") ok rfl d64_6 (Or.inl (hw _ (List.mem_of_getElem? (i := 193) rfl))) Via.refl A.2.2.2.2.2.2 ?_
  refine r_iface (pc' := 14) ok rfl d64_9 (hw _ (List.mem_of_getElem? (i := 495) rfl)) (hw _ (List.mem_of_getElem? (i := 496) rfl)) (hw _ (List.mem_of_getElem? (i := 497) rfl)) (hw _ (List.mem_of_getElem? (i := 498) rfl)) (hw _ (List.mem_of_getElem? (i := 499) rfl)) (hw _ (List.mem_of_getElem? (i := 500) rfl)) (hw _ (List.mem_of_getElem? (i := 501) rfl)) (hw _ (List.mem_of_getElem? (i := 502) rfl)) L.1 (by decide) pd_30 (Con.pay (W := 1) (rmLs l Z a0 hw t em (.ref e) h0 L SM) EW.nil (hw _ (List.mem_of_getElem? (i := 503) rfl)) (hw _ (List.mem_of_getElem? (i := 155) rfl)) (by decide) (by decide)) (fun q => nomatch q) (Or.inl rfl) rfl (argsL := []) (rest := [(.int 0)]) rfl rfl rfl (Nat.le_of_ble_eq_true rfl) (by decide) (by decide) (cV fun x1 h1 q1 le1 => ?_)
  obtain ⟨rfl, rfl⟩ := q1
  refine r_icmp_ge (pc' := 17) (pcY := 69) ok rfl d64_14 (by decide) (by decide) ?_ ?_
  · intro hc
    exact absurd (by decide) hc
  intro _
  refine r_aloadN (pc' := 18) ok rfl d64_17 rfl rfl ?_
  refine r_getfield (pc' := 21) (host := "") ok rfl d64_18 (Or.inl (hw _ (List.mem_of_getElem? (i := 193) rfl))) Via.refl A.2.2.2.2.2.2 ?_
  refine r_iloadN (pc' := 22) ok rfl d64_21 rfl ?_
  refine r_iface (pc' := 27) ok rfl d64_22 (hw _ (List.mem_of_getElem? (i := 504) rfl)) (hw _ (List.mem_of_getElem? (i := 505) rfl)) (hw _ (List.mem_of_getElem? (i := 506) rfl)) (hw _ (List.mem_of_getElem? (i := 507) rfl)) (hw _ (List.mem_of_getElem? (i := 508) rfl)) (hw _ (List.mem_of_getElem? (i := 509) rfl)) (hw _ (List.mem_of_getElem? (i := 510) rfl)) (hw _ (List.mem_of_getElem? (i := 502) rfl)) L.1 (by decide) pd_38 (Con.pay (W := 0) (rmLg l Z a0 hw t e (.ref em) h0 L) EW.nil (hw _ (List.mem_of_getElem? (i := 511) rfl)) (hw _ (List.mem_of_getElem? (i := 155) rfl)) (by decide) (by decide)) (fun q => nomatch q) (Or.inl rfl) rfl (argsL := [(.int 0)]) (rest := []) rfl rfl rfl (Nat.le_of_ble_eq_true rfl) (by decide) (by decide) (cV fun x2 h2 q2 le2 => ?_)
  obtain ⟨rfl, rfl⟩ := q2
  refine r_checkcast (pc' := 30) ok rfl d64_27 (hw _ (List.mem_of_getElem? (i := 512) rfl)) (Ins.of_exa T.1 (hw _ (List.mem_of_getElem? (i := 513) rfl))) ?_
  refine r_iloadN (pc' := 31) ok rfl d64_30 rfl ?_
  refine r_virtual (pc' := 34) ok rfl d64_31 (hw _ (List.mem_of_getElem? (i := 514) rfl)) (hw _ (List.mem_of_getElem? (i := 515) rfl)) (hw _ (List.mem_of_getElem? (i := 517) rfl)) (hw _ (List.mem_of_getElem? (i := 516) rfl)) (nf_sel (C := "com/example/stackloom/stackloom/model/KernelLayout$Task") (z := (⟨"com/example/stackloom/stackloom/model/KernelLayout$Task", "spans", "(I)Z"⟩ : MethodName)) (hw _ (List.mem_of_getElem? (i := 517) rfl))) T.1 (by decide) pd_28 (Con.pay (W := 0) (rmSp l Z a0 hw e u1 4096 4351 4224 h0 T (by decide) (by decide)) EW.nil (hw _ (List.mem_of_getElem? (i := 518) rfl)) (hw _ (List.mem_of_getElem? (i := 28) rfl)) (by decide) (by decide)) (fun q => nomatch q) (Or.inl rfl) rfl (argsL := [(.int 4224)]) (rest := []) rfl rfl rfl (Nat.le_of_ble_eq_true rfl) (by decide) (by decide) (cV fun x3 h3 q3 le3 => ?_)
  obtain ⟨rfl, rfl⟩ := q3
  refine r_if_eq (pc' := 37) (pcY := 63) ok rfl d64_34 (by decide) (by decide) ?_ ?_
  · intro hc
    exact absurd hc (by decide)
  intro _
  refine r_iloadN (pc' := 38) ok rfl d64_37 rfl ?_
  refine r_if_lt (pc' := 41) (pcY := 61) ok rfl d64_38 (by decide) (by decide) ?_ ?_
  rotate_left
  · intro hc
    exact absurd (by decide) hc
  intro _
  refine r_iloadN (pc' := 62) ok rfl d64_61 rfl ?_
  refine r_istoreN (pc' := 63) (ls' := fun z => #[.val (.ref a), .val (.int 4224), .val (.int z), .val (.int 0)]) ok rfl d64_62 (fun _ => rfl) ?_
  intro v62 ev62
  subst ev62
  refine r_iinc (pc' := 66) (ls' := fun z => #[.val (.ref a), .val (.int 4224), .val (.int 0), .val (.int z)]) ok rfl d64_63 rfl (fun _ => rfl) ?_
  intro v63 ev63
  obtain rfl : v63 = 1 := ev63.trans (by decide)
  refine r_goto (pc' := 4) ok d64_66 (by decide) (by decide) ?_
  refine r_iloadN (pc' := 5) ok rfl d64_4 rfl ?_
  refine r_aloadN (pc' := 6) ok rfl d64_5 rfl rfl ?_
  refine r_getfield (pc' := 9) (host := "") ok rfl d64_6 (Or.inl (hw _ (List.mem_of_getElem? (i := 193) rfl))) Via.refl A.2.2.2.2.2.2 ?_
  refine r_iface (pc' := 14) ok rfl d64_9 (hw _ (List.mem_of_getElem? (i := 495) rfl)) (hw _ (List.mem_of_getElem? (i := 496) rfl)) (hw _ (List.mem_of_getElem? (i := 497) rfl)) (hw _ (List.mem_of_getElem? (i := 498) rfl)) (hw _ (List.mem_of_getElem? (i := 499) rfl)) (hw _ (List.mem_of_getElem? (i := 500) rfl)) (hw _ (List.mem_of_getElem? (i := 501) rfl)) (hw _ (List.mem_of_getElem? (i := 502) rfl)) L.1 (by decide) pd_30 (Con.pay (W := 1) (rmLs l Z a0 hw t em (.ref e) h0 L SM) EW.nil (hw _ (List.mem_of_getElem? (i := 503) rfl)) (hw _ (List.mem_of_getElem? (i := 155) rfl)) (by decide) (by decide)) (fun q => nomatch q) (Or.inl rfl) rfl (argsL := []) (rest := [(.int 1)]) rfl rfl rfl (Nat.le_of_ble_eq_true rfl) (by decide) (by decide) (cV fun x4 h4 q4 le4 => ?_)
  obtain ⟨rfl, rfl⟩ := q4
  refine r_icmp_ge (pc' := 17) (pcY := 69) ok rfl d64_14 (by decide) (by decide) ?_ ?_
  rotate_left
  · intro hc
    exact absurd hc (by decide)
  intro _
  refine r_iloadN (pc' := 70) ok rfl d64_69 rfl ?_
  refine r_ireturn ok d64_70 rfl (by simp) (by decide) (by decide) ?_
  exact ⟨rfl, rfl⟩
theorem d65_0 : decode prog_35_method_14_code 0 = .ok (.aload_n 1, 1) := by decide +kernel
theorem d65_1 : decode prog_35_method_14_code 1 = .ok (.iload_n 0, 1) := by decide +kernel
theorem d65_2 : decode prog_35_method_14_code 2 = .ok (.invokevirtual 189, 3) := by decide +kernel
theorem d65_5 : decode prog_35_method_14_code 5 = .ok (.invokestatic 68, 3) := by decide +kernel
theorem d65_8 : decode prog_35_method_14_code 8 = .ok (.areturn, 1) := by decide +kernel
abbrev RL0 : Room := { frames := 4, cells := 0, slots := 0, locals := 90 }
set_option maxRecDepth 65536 in
theorem rmL0 (l : Launch) (Z : State) (a0 : Array Value) (hw : ∀ d ∈ tables_1, d.before a0 Z = true) (b t e em ca : Addr) (cc : Cell) (w1 w2 w3 w4 w5 u1 : Value) (h0 : Heap) (A : KLs Z h0 b w1 w2 w3 w4 w5 (.ref t)) (L : L12s Z h0 t (.ref e) (.ref em)) (T : TKs Z h0 e u1 (.int 4096) (.int 4351)) (SM : Sta Z Z.heap "java/util/ImmutableCollections" "EMPTY" LO (.ref em)) (SH : Sta Z Z.heap IC "high" "I" (.int 127)) (SC : Sta Z Z.heap IC "cache" "[Ljava/lang/Integer;" (.ref ca)) (B : Bxs Z ca cc IN "I" 256 (fun j => .int (j - 128))) :
    Con l Z [] [] false (⟨"com/example/stackloom/stackloom/service/KernelWatch", "lambda$stackRestored$0", "(ILcom/example/stackloom/stackloom/model/KernelLayout;)Ljava/lang/Integer;"⟩ : MethodName) prog_35_method_14_code 2 (some (.object "java/lang/Integer")) RL0 #[.int 4224, .ref b] h0 (rV fun x h => ∃ c, x = .ref c ∧ (Exa Z Z.heap c IN ∧ Fld Z Z.heap c IN "value" "I" (.int 0)) ∧ h0 = h) := by
  refine body (ls := #[.val (.int 4224), .val (.ref b)]) (plainFor_of_name pn_14) (fun m => by first | (simp [entryFrame, mkF, argsToLocals, Value.category]; done) | rfl) fun K ok => ?_
  refine r_aloadN (pc' := 1) ok rfl d65_0 rfl rfl ?_
  refine r_iloadN (pc' := 2) ok rfl d65_1 rfl ?_
  refine r_virtual (pc' := 5) ok rfl d65_2 (hw _ (List.mem_of_getElem? (i := 490) rfl)) (hw _ (List.mem_of_getElem? (i := 491) rfl)) (hw _ (List.mem_of_getElem? (i := 493) rfl)) (hw _ (List.mem_of_getElem? (i := 492) rfl)) (nf_sel (C := "com/example/stackloom/stackloom/model/KernelLayout") (z := (⟨"com/example/stackloom/stackloom/model/KernelLayout", "taskOwning", "(I)I"⟩ : MethodName)) (hw _ (List.mem_of_getElem? (i := 493) rfl))) A.1 (by decide) pd_22 (Con.pay (W := 0) (rmTO l Z a0 hw b t e em w1 w2 w3 w4 w5 u1 h0 A L T SM) EW.nil (hw _ (List.mem_of_getElem? (i := 494) rfl)) (hw _ (List.mem_of_getElem? (i := 77) rfl)) (by decide) (by decide)) (fun q => nomatch q) (Or.inl rfl) rfl (argsL := [(.int 4224)]) (rest := []) rfl rfl rfl (Nat.le_of_ble_eq_true rfl) (by decide) (by decide) (cV fun x1 h1 q1 le1 => ?_)
  obtain ⟨rfl, rfl⟩ := q1
  refine r_static (pc' := 8) ok rfl d65_5 (hw _ (List.mem_of_getElem? (i := 459) rfl)) (hw _ (List.mem_of_getElem? (i := 286) rfl)) (hw _ (List.mem_of_getElem? (i := 287) rfl)) (hw _ (List.mem_of_getElem? (i := 288) rfl)) (by decide) pd_24 (Con.pay (W := 0) (rmIVo l Z a0 hw ca cc 0 h0 SH SC B (by decide) (by decide) (by decide) (by decide)) EW.nil (hw _ (List.mem_of_getElem? (i := 288) rfl)) (hw _ (List.mem_of_getElem? (i := 287) rfl)) (by decide) (by decide)) (fun q => nomatch q) (Or.inl rfl) rfl (argsL := [(.int 0)]) (rest := []) rfl rfl rfl (Nat.le_of_ble_eq_true rfl) (by decide) (by decide) (cV fun x2 h2 q2 le2 => ?_)
  obtain ⟨c, rfl, Ec, Fc, rfl⟩ := q2
  refine r_areturn ok d65_8 rfl rfl rfl (by decide) (by decide) ?_
  exact ⟨c, rfl, ⟨Ec, Fc⟩, rfl⟩
/-! the two function objects -/
abbrev sg1 : Lambda.Shape := (Lambda.Shape.mk "java/util/function/Function" "apply" (MethodDescriptor.mk ([(FieldType.object "java/lang/Object")] : List FieldType) (Option.some (FieldType.object "java/lang/Object"))) ([] : List FieldType) 5 "com/example/stackloom/stackloom/model/KernelLayout" "keepsTimer0" (MethodDescriptor.mk ([] : List FieldType) (Option.some FieldType.boolean)) false (MethodDescriptor.mk ([(FieldType.object "com/example/stackloom/stackloom/model/KernelLayout")] : List FieldType) (Option.some (FieldType.object "java/lang/Boolean"))))
abbrev sg2 : Lambda.Shape := (Lambda.Shape.mk "java/util/function/Function" "apply" (MethodDescriptor.mk ([(FieldType.object "java/lang/Object")] : List FieldType) (Option.some (FieldType.object "java/lang/Object"))) ([FieldType.int] : List FieldType) 6 "com/example/stackloom/stackloom/service/KernelWatch" "lambda$stackRestored$0" (MethodDescriptor.mk ([FieldType.int, (FieldType.object "com/example/stackloom/stackloom/model/KernelLayout")] : List FieldType) (Option.some (FieldType.object "java/lang/Integer"))) false (MethodDescriptor.mk ([(FieldType.object "com/example/stackloom/stackloom/model/KernelLayout")] : List FieldType) (Option.some (FieldType.object "java/lang/Integer"))))
abbrev apX : MethodName := ⟨"java/util/function/Function", "apply", "(Ljava/lang/Object;)Ljava/lang/Object;"⟩
abbrev ktM : MethodName := ⟨"com/example/stackloom/stackloom/model/KernelLayout", "keepsTimer0", "()Z"⟩
abbrev bvM : MethodName := ⟨"java/lang/Boolean", "valueOf", "(Z)Ljava/lang/Boolean;"⟩
abbrev lsM : MethodName := ⟨"com/example/stackloom/stackloom/service/KernelWatch", "lambda$stackRestored$0", "(ILcom/example/stackloom/stackloom/model/KernelLayout;)Ljava/lang/Integer;"⟩
def fc1 : ByteArray := ⟨#[0x2b, 0xc0, 0x00, 0x0e, 0xb6, 0x00, 0x12, 0xb8, 0x00, 0x18, 0xb0]⟩
def fc2 : ByteArray := ⟨#[0x2a, 0xb4, 0x00, 0x0f, 0x2b, 0xc0, 0x00, 0x13, 0xb8, 0x00, 0x19, 0xb0]⟩
theorem fc1_ok : Jvm.LamKit.fwdOK sg1 KW fc1 2 (some (.object "java/lang/Object")) 18 14 = true := by decide +kernel
theorem fc2_ok : Jvm.LamKit.fwdOK sg2 KW fc2 2 (some (.object "java/lang/Object")) 25 21 = true := by decide +kernel
theorem fc2_cap : Jvm.LamKit.capOK sg2 KW 15 0 = true := by decide +kernel
theorem fc1_14 : clsOK sg1 KW 14 "com/example/stackloom/stackloom/model/KernelLayout" = true := by decide +kernel
theorem fc2_19 : clsOK sg2 KW 19 "com/example/stackloom/stackloom/model/KernelLayout" = true := by decide +kernel
theorem fc1_18 : entOK sg1 KW 18 14 ktM = true := by decide +kernel
theorem fc1_24 : entOK sg1 KW 24 20 bvM = true := by decide +kernel
theorem fc2_25 : entOK sg2 KW 25 21 lsM = true := by decide +kernel
theorem f1_0 : decode fc1 0 = .ok (.aload_n 1, 1) := by decide +kernel
theorem f1_1 : decode fc1 1 = .ok (.checkcast 14, 3) := by decide +kernel
theorem f1_4 : decode fc1 4 = .ok (.invokevirtual 18, 3) := by decide +kernel
theorem f1_7 : decode fc1 7 = .ok (.invokestatic 24, 3) := by decide +kernel
theorem f1_10 : decode fc1 10 = .ok (.areturn, 1) := by decide +kernel
theorem f2_0 : decode fc2 0 = .ok (.aload_n 0, 1) := by decide +kernel
theorem f2_1 : decode fc2 1 = .ok (.getfield 15, 3) := by decide +kernel
theorem f2_4 : decode fc2 4 = .ok (.aload_n 1, 1) := by decide +kernel
theorem f2_5 : decode fc2 5 = .ok (.checkcast 19, 3) := by decide +kernel
theorem f2_8 : decode fc2 8 = .ok (.invokestatic 25, 3) := by decide +kernel
theorem f2_11 : decode fc2 11 = .ok (.areturn, 1) := by decide +kernel
theorem own_fn1 {Z : State} {a0 : Array Value} (hw : ∀ d ∈ tables_1, d.before a0 Z = true) {cK : ClassId} (hM : Jvm.LamKit.Made Z KW sg1 cK) : Jvm.Free.HMW.FnX apX cK ⟨cK, 1⟩ Z := Jvm.LamKit.madeSelects (xi := apX) hM fc1_ok (hw _ (List.mem_of_getElem? (i := 277) rfl)) ⟨rfl, rfl, by decide +kernel⟩
theorem own_fn2 {Z : State} {a0 : Array Value} (hw : ∀ d ∈ tables_1, d.before a0 Z = true) {cK : ClassId} (hM : Jvm.LamKit.Made Z KW sg2 cK) : Jvm.Free.HMW.FnX apX cK ⟨cK, 1⟩ Z := Jvm.LamKit.madeSelects (xi := apX) hM fc2_ok (hw _ (List.mem_of_getElem? (i := 277) rfl)) ⟨rfl, rfl, by decide +kernel⟩
abbrev RMap : Room := { frames := 6, cells := 1, slots := 1, locals := 120 }
abbrev RF1 : Room := { frames := 3, cells := 0, slots := 0, locals := 64 }
abbrev RF2 : Room := { frames := 5, cells := 0, slots := 0, locals := 104 }
set_option maxRecDepth 65536 in
theorem pay1 (l : Launch) (Z : State) (a0 : Array Value) (hw : ∀ d ∈ tables_1, d.before a0 Z = true) (b el ea ca bf f : Addr) (cc : Cell) (k cK : ClassId) (dv w1 w2 w4 w5 w6 : Value) (h0 : Heap) (hM : Jvm.LamKit.Made Z KW sg1 cK) (A : KLs Z h0 b w1 w2 (.ref el) w4 w5 w6) (E : Exa Z h0 el LN) (Fn : Fld Z h0 el LN "allowNulls" "Z" (.int 0)) (F : Fld Z h0 el LN "elements" OA (.ref ea)) (V : Arv Z h0 ea k (.object "java/lang/Object") 0 [] dv) (ST : Sta Z Z.heap CLy "TIMER0_SLOT" "I" (.int 11)) (SH : Sta Z Z.heap IC "high" "I" (.int 127)) (SC : Sta Z Z.heap IC "cache" "[Ljava/lang/Integer;" (.ref ca)) (B : Bxs Z ca cc IN "I" 256 (fun j => .int (j - 128))) (SF : Sta Z Z.heap "java/lang/Boolean" "FALSE" "Ljava/lang/Boolean;" (.ref bf)) :
    FPay Z l RMap cK 5 0 #[.ref f, .ref b] h0 0 0 (rV fun x h => ∃ c, x = .ref c ∧ c = bf ∧ h0 = h) := by
  refine fpay_of (R' := RF1) (L0 := #[.val (.ref f), .val (.ref b)]) hM fc1_ok (fun m => by first | (simp [entryFrame, mkF, argsToLocals, Value.category]; done) | rfl) (by decide) (by decide) fun K ok => ?_
  refine f_aloadN (pc' := 1) ok rfl f1_0 rfl rfl ?_
  refine f_cast (pc' := 4) ok rfl f1_1 hM fc1_14 (Ins.of_exa A.1 (hw _ (List.mem_of_getElem? (i := 264) rfl))) ?_
  refine f_virtual (pc' := 7) (y := ktM) ok rfl f1_4 hM fc1_18 (hw _ (List.mem_of_getElem? (i := 278) rfl)) (hw _ (List.mem_of_getElem? (i := 279) rfl)) (hw _ (List.mem_of_getElem? (i := 280) rfl)) A.1 (by decide) pd_11 (Con.pay (W := 0) (rmKT l Z a0 hw b el ea ca cc k dv w1 w2 w4 w5 w6 h0 A E Fn F V ST SH SC B) EW.nil (hw _ (List.mem_of_getElem? (i := 281) rfl)) (hw _ (List.mem_of_getElem? (i := 77) rfl)) (by decide) (by decide)) rfl (argsL := []) (rest := []) rfl rfl rfl (Nat.le_of_ble_eq_true rfl) (by decide) (by decide) (cV fun x1 h1 q1 le1 => ?_)
  obtain ⟨rfl, rfl⟩ := q1
  refine f_static (pc' := 10) (y := bvM) ok rfl f1_7 hM fc1_24 (hw _ (List.mem_of_getElem? (i := 310) rfl)) (hw _ (List.mem_of_getElem? (i := 311) rfl)) (hw _ (List.mem_of_getElem? (i := 312) rfl)) (by decide) pd_26 (Con.pay (W := 0) (rmBv l Z a0 hw bf h0 SF) EW.nil (hw _ (List.mem_of_getElem? (i := 312) rfl)) (hw _ (List.mem_of_getElem? (i := 311) rfl)) (by decide) (by decide)) rfl (argsL := [.int 0]) (rest := []) rfl rfl rfl (Nat.le_of_ble_eq_true rfl) (by decide) (by decide) (cV fun x2 h2 q2 le2 => ?_)
  obtain ⟨rfl, rfl⟩ := q2
  exact f_areturn ok f1_10 rfl rfl rfl (by decide) (by decide) ⟨bf, rfl, rfl, rfl⟩ (fun _ _ q => q)
set_option maxRecDepth 65536 in
theorem pay2 (l : Launch) (Z : State) (a0 : Array Value) (hw : ∀ d ∈ tables_1, d.before a0 Z = true) (b t e em ca f : Addr) (cc cell : Cell) (cK : ClassId) (w1 w2 w3 w4 w5 u1 : Value) (h0 : Heap) (hM : Jvm.LamKit.Made Z KW sg2 cK) (hcell : h0[f]? = some cell) (hvm : cell.vm = .none) (hsl : cell.slots = #[.int 4224]) (A : KLs Z h0 b w1 w2 w3 w4 w5 (.ref t)) (L : L12s Z h0 t (.ref e) (.ref em)) (T : TKs Z h0 e u1 (.int 4096) (.int 4351)) (SM : Sta Z Z.heap "java/util/ImmutableCollections" "EMPTY" LO (.ref em)) (SH : Sta Z Z.heap IC "high" "I" (.int 127)) (SC : Sta Z Z.heap IC "cache" "[Ljava/lang/Integer;" (.ref ca)) (B : Bxs Z ca cc IN "I" 256 (fun j => .int (j - 128))) :
    FPay Z l RMap cK 5 0 #[.ref f, .ref b] h0 0 0 (rV fun x h => ∃ c, x = .ref c ∧ (Exa Z Z.heap c IN ∧ Fld Z Z.heap c IN "value" "I" (.int 0)) ∧ h0 = h) := by
  refine fpay_of (R' := RF2) (L0 := #[.val (.ref f), .val (.ref b)]) hM fc2_ok (fun m => by first | (simp [entryFrame, mkF, argsToLocals, Value.category]; done) | rfl) (by decide) (by decide) fun K ok => ?_
  refine f_aloadN (pc' := 1) ok rfl f2_0 rfl rfl ?_
  refine f_getcap (pc' := 4) (v := .int 4224) ok rfl f2_1 hM fc2_cap (hw _ (List.mem_of_getElem? (i := 478) rfl)) hcell hvm (by rw [hsl]; rfl) ?_
  refine f_aloadN (pc' := 5) ok rfl f2_4 rfl rfl ?_
  refine f_cast (pc' := 8) ok rfl f2_5 hM fc2_19 (Ins.of_exa A.1 (hw _ (List.mem_of_getElem? (i := 264) rfl))) ?_
  refine f_static (pc' := 11) (y := lsM) ok rfl f2_8 hM fc2_25 (hw _ (List.mem_of_getElem? (i := 488) rfl)) (hw _ (List.mem_of_getElem? (i := 211) rfl)) (hw _ (List.mem_of_getElem? (i := 489) rfl)) (by decide) pd_37 (Con.pay (W := 0) (rmL0 l Z a0 hw b t e em ca cc w1 w2 w3 w4 w5 u1 h0 A L T SM SH SC B) EW.nil (hw _ (List.mem_of_getElem? (i := 489) rfl)) (hw _ (List.mem_of_getElem? (i := 211) rfl)) (by decide) (by decide)) rfl (argsL := [.int 4224, .ref b]) (rest := []) rfl rfl rfl (Nat.le_of_ble_eq_true rfl) (by decide) (by decide) (cV fun x1 h1 q1 le1 => ?_)
  obtain ⟨c, rfl, q, rfl⟩ := q1
  exact f_areturn ok f2_11 rfl rfl rfl (by decide) (by decide) ⟨c, rfl, q, rfl⟩ (fun _ _ q => q)
/-! Optional.map, orElse -/
def KM (Z : State) (h : Heap) (c : Int32) (om : Addr) (Pc : Addr → Prop) : Prop := (c ≠ 0 ∧ ∃ r, Pc r ∧ OPs Z h om (.ref r)) ∨ (c = 0 ∧ OPs Z h om .null)
theorem KM.exa {Z : State} {h : Heap} {c : Int32} {om : Addr} {Pc : Addr → Prop} (A : KM Z h c om Pc) : Exa Z h om OP := A.elim (fun ⟨_, _, _, x⟩ => x.1) (fun x => x.2.1)
theorem d66_0 : decode jdk_32_method_11_code 0 = .ok (.aload_n 1, 1) := by decide +kernel
theorem d66_1 : decode jdk_32_method_11_code 1 = .ok (.invokestatic 17, 3) := by decide +kernel
theorem d66_4 : decode jdk_32_method_11_code 4 = .ok (.pop, 1) := by decide +kernel
theorem d66_5 : decode jdk_32_method_11_code 5 = .ok (.aload_n 0, 1) := by decide +kernel
theorem d66_6 : decode jdk_32_method_11_code 6 = .ok (.invokevirtual 43, 3) := by decide +kernel
theorem d66_9 : decode jdk_32_method_11_code 9 = .ok (.ifCond .eq 7, 3) := by decide +kernel
theorem d66_12 : decode jdk_32_method_11_code 12 = .ok (.invokestatic 53, 3) := by decide +kernel
theorem d66_15 : decode jdk_32_method_11_code 15 = .ok (.areturn, 1) := by decide +kernel
theorem d66_16 : decode jdk_32_method_11_code 16 = .ok (.aload_n 1, 1) := by decide +kernel
theorem d66_17 : decode jdk_32_method_11_code 17 = .ok (.aload_n 0, 1) := by decide +kernel
theorem d66_18 : decode jdk_32_method_11_code 18 = .ok (.getfield 13, 3) := by decide +kernel
theorem d66_21 : decode jdk_32_method_11_code 21 = .ok (.invokeinterface 57 2, 5) := by decide +kernel
theorem d66_26 : decode jdk_32_method_11_code 26 = .ok (.invokestatic 62, 3) := by decide +kernel
theorem d66_29 : decode jdk_32_method_11_code 29 = .ok (.areturn, 1) := by decide +kernel
set_option maxRecDepth 65536 in
theorem rmMapE (l : Launch) (Z : State) (a0 : Array Value) (hw : ∀ d ∈ tables_1, d.before a0 Z = true) (o f oe : Addr) (h0 : Heap) (O : OPs Z h0 o .null) (SO : Sta Z Z.heap OP "EMPTY" "Ljava/util/Optional;" (.ref oe)) : Con l Z [] [] false (⟨"java/util/Optional", "map", "(Ljava/util/function/Function;)Ljava/util/Optional;"⟩ : MethodName) jdk_32_method_11_code 2 (some (.object "java/util/Optional")) RMap #[.ref o, .ref f] h0 (rV fun x h => x = .ref oe ∧ h0 = h) := by
  refine body (ls := #[.val (.ref o), .val (.ref f)]) (plainFor_of_name pn_13) (fun m => by first | (simp [entryFrame, mkF, argsToLocals, Value.category]; done) | rfl) fun K ok => ?_
  refine r_aloadN (pc' := 1) ok rfl d66_0 rfl rfl ?_
  refine r_static (pc' := 4) ok rfl d66_1 (hw _ (List.mem_of_getElem? (i := 201) rfl)) (hw _ (List.mem_of_getElem? (i := 175) rfl)) (hw _ (List.mem_of_getElem? (i := 176) rfl)) (hw _ (List.mem_of_getElem? (i := 177) rfl)) (by decide) pd_18 (Con.pay (W := 0) (rmRnn l Z a0 hw f h0) EW.nil (hw _ (List.mem_of_getElem? (i := 177) rfl)) (hw _ (List.mem_of_getElem? (i := 176) rfl)) (by decide) (by decide)) (fun q => nomatch q) (Or.inl rfl) rfl (argsL := [(.ref f)]) (rest := []) rfl rfl rfl (Nat.le_of_ble_eq_true rfl) (by decide) (by decide) (cV fun x1 h1 q1 le1 => ?_)
  obtain ⟨rfl, rfl⟩ := q1
  refine r_pop (pc' := 5) ok rfl d66_4 rfl ?_
  refine r_aloadN (pc' := 6) ok rfl d66_5 rfl rfl ?_
  refine r_virtual (pc' := 9) ok rfl d66_6 (hw _ (List.mem_of_getElem? (i := 270) rfl)) (hw _ (List.mem_of_getElem? (i := 271) rfl)) (hw _ (List.mem_of_getElem? (i := 273) rfl)) (hw _ (List.mem_of_getElem? (i := 272) rfl)) (nf_sel (C := "java/util/Optional") (z := (⟨"java/util/Optional", "isEmpty", "()Z"⟩ : MethodName)) (hw _ (List.mem_of_getElem? (i := 273) rfl))) O.1 (by decide) pd_11 (Con.pay (W := 0) (rmOpIEn l Z a0 hw o h0 O) EW.nil (hw _ (List.mem_of_getElem? (i := 274) rfl)) (hw _ (List.mem_of_getElem? (i := 197) rfl)) (by decide) (by decide)) (fun q => nomatch q) (Or.inl rfl) rfl (argsL := []) (rest := []) rfl rfl rfl (Nat.le_of_ble_eq_true rfl) (by decide) (by decide) (cV fun x2 h2 q2 le2 => ?_)
  obtain ⟨rfl, rfl⟩ := q2
  refine r_if_eq (pc' := 12) (pcY := 16) ok rfl d66_9 (by decide) (by decide) ?_ ?_
  · intro hc
    exact absurd hc (by decide)
  intro _
  refine r_static (pc' := 15) ok rfl d66_12 (hw _ (List.mem_of_getElem? (i := 453) rfl)) (hw _ (List.mem_of_getElem? (i := 450) rfl)) (hw _ (List.mem_of_getElem? (i := 197) rfl)) (hw _ (List.mem_of_getElem? (i := 451) rfl)) (by decide) pd_35 (Con.pay (W := 0) (rmOpE l Z a0 hw oe h0 SO) EW.nil (hw _ (List.mem_of_getElem? (i := 451) rfl)) (hw _ (List.mem_of_getElem? (i := 197) rfl)) (by decide) (by decide)) (fun q => nomatch q) (Or.inl rfl) rfl (argsL := []) (rest := []) rfl rfl rfl (Nat.le_of_ble_eq_true rfl) (by decide) (by decide) (cV fun x3 h3 q3 le3 => ?_)
  obtain ⟨rfl, rfl⟩ := q3
  refine r_areturn ok d66_15 rfl rfl rfl (by decide) (by decide) ?_
  exact ⟨rfl, rfl⟩
set_option maxRecDepth 65536 in
theorem rmMapP (l : Launch) (Z : State) (a0 : Array Value) (hw : ∀ d ∈ tables_1, d.before a0 Z = true) (o b f : Addr) (cK : ClassId) (Pc : Addr → Prop) (h0 : Heap) (O : OPs Z h0 o (.ref b)) (hX : Jvm.Free.HMW.FnX apX cK ⟨cK, 1⟩ Z) (hA : Jvm.LamKit.FnAt h0 f cK) (pay : FPay Z l RMap cK 5 0 #[.ref f, .ref b] h0 0 0 (rV fun x h => ∃ c, x = .ref c ∧ Pc c ∧ h0 = h)) :
    Con l Z [] [] false (⟨"java/util/Optional", "map", "(Ljava/util/function/Function;)Ljava/util/Optional;"⟩ : MethodName) jdk_32_method_11_code 2 (some (.object "java/util/Optional")) RMap #[.ref o, .ref f] h0 (rV fun x h => ∃ om, x = .ref om ∧ Keep h0 h [] ∧ ∃ r, Pc r ∧ OPs Z h om (.ref r)) := by
  refine body (ls := #[.val (.ref o), .val (.ref f)]) (plainFor_of_name pn_13) (fun m => by first | (simp [entryFrame, mkF, argsToLocals, Value.category]; done) | rfl) fun K ok => ?_
  refine r_aloadN (pc' := 1) ok rfl d66_0 rfl rfl ?_
  refine r_static (pc' := 4) ok rfl d66_1 (hw _ (List.mem_of_getElem? (i := 201) rfl)) (hw _ (List.mem_of_getElem? (i := 175) rfl)) (hw _ (List.mem_of_getElem? (i := 176) rfl)) (hw _ (List.mem_of_getElem? (i := 177) rfl)) (by decide) pd_18 (Con.pay (W := 0) (rmRnn l Z a0 hw f h0) EW.nil (hw _ (List.mem_of_getElem? (i := 177) rfl)) (hw _ (List.mem_of_getElem? (i := 176) rfl)) (by decide) (by decide)) (fun q => nomatch q) (Or.inl rfl) rfl (argsL := [(.ref f)]) (rest := []) rfl rfl rfl (Nat.le_of_ble_eq_true rfl) (by decide) (by decide) (cV fun x1 h1 q1 le1 => ?_)
  obtain ⟨rfl, rfl⟩ := q1
  refine r_pop (pc' := 5) ok rfl d66_4 rfl ?_
  refine r_aloadN (pc' := 6) ok rfl d66_5 rfl rfl ?_
  refine r_virtual (pc' := 9) ok rfl d66_6 (hw _ (List.mem_of_getElem? (i := 270) rfl)) (hw _ (List.mem_of_getElem? (i := 271) rfl)) (hw _ (List.mem_of_getElem? (i := 273) rfl)) (hw _ (List.mem_of_getElem? (i := 272) rfl)) (nf_sel (C := "java/util/Optional") (z := (⟨"java/util/Optional", "isEmpty", "()Z"⟩ : MethodName)) (hw _ (List.mem_of_getElem? (i := 273) rfl))) O.1 (by decide) pd_11 (Con.pay (W := 0) (rmOpIE l Z a0 hw o b h0 O) EW.nil (hw _ (List.mem_of_getElem? (i := 274) rfl)) (hw _ (List.mem_of_getElem? (i := 197) rfl)) (by decide) (by decide)) (fun q => nomatch q) (Or.inl rfl) rfl (argsL := []) (rest := []) rfl rfl rfl (Nat.le_of_ble_eq_true rfl) (by decide) (by decide) (cV fun x2 h2 q2 le2 => ?_)
  obtain ⟨rfl, rfl⟩ := q2
  refine r_if_eq (pc' := 12) (pcY := 16) ok rfl d66_9 (by decide) (by decide) ?_ ?_
  rotate_left
  · intro hc
    exact absurd rfl hc
  intro _
  refine r_aloadN (pc' := 17) ok rfl d66_16 rfl rfl ?_
  refine r_aloadN (pc' := 18) ok rfl d66_17 rfl rfl ?_
  refine r_getfield (pc' := 21) (host := "") ok rfl d66_18 (Or.inl (hw _ (List.mem_of_getElem? (i := 207) rfl))) Via.refl O.2 ?_
  refine r_fn (pc' := 26) (xi := apX) ok rfl d66_21 (hw _ (List.mem_of_getElem? (i := 275) rfl)) (hw _ (List.mem_of_getElem? (i := 276) rfl)) (hw _ (List.mem_of_getElem? (i := 277) rfl)) (by decide) hX hA pd_18 pay rfl (argsL := [.ref b]) (rest := []) rfl rfl rfl (Nat.le_of_ble_eq_true rfl) (by decide) (by decide) (cV fun x3 h3 q3 le3 => ?_)
  obtain ⟨c, rfl, hp, rfl⟩ := q3
  refine r_static (pc' := 29) ok rfl d66_26 (hw _ (List.mem_of_getElem? (i := 314) rfl)) (hw _ (List.mem_of_getElem? (i := 315) rfl)) (hw _ (List.mem_of_getElem? (i := 197) rfl)) (hw _ (List.mem_of_getElem? (i := 316) rfl)) (by decide) pd_19 (Con.pay (W := 0) (rmOpN l Z a0 hw c h0) EW.nil (hw _ (List.mem_of_getElem? (i := 316) rfl)) (hw _ (List.mem_of_getElem? (i := 197) rfl)) (by decide) (by decide)) (fun q => nomatch q) (Or.inl rfl) rfl (argsL := [(.ref c)]) (rest := []) rfl rfl rfl (Nat.le_of_ble_eq_true rfl) (by decide) (by decide) (cV fun x4 h4 q4 le4 => ?_)
  obtain ⟨om, rfl, g4, z4, K4, O4⟩ := q4
  refine r_areturn ok d66_29 rfl rfl rfl (by decide) (by decide) ?_
  exact ⟨om, rfl, K4, c, hp, O4⟩
theorem rmMap (l : Launch) (Z : State) (a0 : Array Value) (hw : ∀ d ∈ tables_1, d.before a0 Z = true) (c4 : Int32) (o b f oe : Addr) (cK : ClassId) (Pc : Addr → Prop) (h0 : Heap) (O : KO Z h0 c4 o b) (hX : Jvm.Free.HMW.FnX apX cK ⟨cK, 1⟩ Z) (hA : Jvm.LamKit.FnAt h0 f cK) (pay : c4 ≠ 0 → FPay Z l RMap cK 5 0 #[.ref f, .ref b] h0 0 0 (rV fun x h => ∃ c, x = .ref c ∧ Pc c ∧ h0 = h)) (SO : Sta Z Z.heap OP "EMPTY" "Ljava/util/Optional;" (.ref oe)) (Oe : OPs Z h0 oe .null) :
    Con l Z [] [] false ⟨"java/util/Optional", "map", "(Ljava/util/function/Function;)Ljava/util/Optional;"⟩ jdk_32_method_11_code 2 (some (.object "java/util/Optional")) RMap #[.ref o, .ref f] h0 (rV fun x h => ∃ om, x = .ref om ∧ Keep h0 h [] ∧ KM Z h c4 om Pc) := by
  rcases O with ⟨hc, O⟩ | ⟨hc, O⟩
  · refine (rmMapP l Z a0 hw o b f cK Pc h0 O hX hA (pay hc)).weak ?_
    rintro _ h ⟨x, rfl, om, rfl, K, r, hr, q⟩
    exact ⟨_, rfl, om, rfl, K, Or.inl ⟨hc, r, hr, q⟩⟩
  · refine (rmMapE l Z a0 hw o f oe h0 O SO).weak ?_
    rintro _ h ⟨x, rfl, rfl, rfl⟩
    exact ⟨_, rfl, oe, rfl, Keep.refl _ [], Or.inr ⟨hc, Oe⟩⟩
theorem rmOr (l : Launch) (Z : State) (a0 : Array Value) (hw : ∀ d ∈ tables_1, d.before a0 Z = true) (c4 : Int32) (om dj : Addr) (Pc : Addr → Prop) (h0 : Heap) (O : KM Z h0 c4 om Pc) (hd : c4 = 0 → Pc dj) : Con l Z [] [] false (⟨"java/util/Optional", "orElse", "(Ljava/lang/Object;)Ljava/lang/Object;"⟩ : MethodName) jdk_32_method_15_code 2 (some (.object "java/lang/Object")) RZ #[.ref om, .ref dj] h0 (rV fun x h => ∃ r, x = .ref r ∧ Pc r ∧ h0 = h) := by
  rcases O with ⟨hc, r, hr, O⟩ | ⟨hc, O⟩
  · refine (rmOpOE l Z a0 hw om r dj h0 O).weak ?_
    rintro _ h ⟨x, rfl, rfl, rfl⟩
    exact ⟨_, rfl, r, rfl, hr, rfl⟩
  · refine (rmOpOEn l Z a0 hw om dj h0 O).weak ?_
    rintro _ h ⟨x, rfl, rfl, rfl⟩
    exact ⟨_, rfl, dj, rfl, hd hc, rfl⟩
theorem d67_0 : decode prog_35_method_6_code 0 = .ok (.aload_n 0, 1) := by decide +kernel
theorem d67_1 : decode prog_35_method_6_code 1 = .ok (.getfield 16, 3) := by decide +kernel
theorem d67_4 : decode prog_35_method_6_code 4 = .ok (.iload_n 2, 1) := by decide +kernel
theorem d67_5 : decode prog_35_method_6_code 5 = .ok (.invokestatic 68, 3) := by decide +kernel
theorem d67_8 : decode prog_35_method_6_code 8 = .ok (.invokeinterface 120 2, 5) := by decide +kernel
theorem d67_13 : decode prog_35_method_6_code 13 = .ok (.checkcast 109, 3) := by decide +kernel
theorem d67_16 : decode prog_35_method_6_code 16 = .ok (.astore 4, 2) := by decide +kernel
theorem d67_18 : decode prog_35_method_6_code 18 = .ok (.aload 4, 2) := by decide +kernel
theorem d67_20 : decode prog_35_method_6_code 20 = .ok (.ifnull 24, 3) := by decide +kernel
theorem d67_44 : decode prog_35_method_6_code 44 = .ok (.aload_n 0, 1) := by decide +kernel
theorem d67_45 : decode prog_35_method_6_code 45 = .ok (.aload_n 0, 1) := by decide +kernel
theorem d67_46 : decode prog_35_method_6_code 46 = .ok (.getfield 27, 3) := by decide +kernel
theorem d67_49 : decode prog_35_method_6_code 49 = .ok (.iload_n 3, 1) := by decide +kernel
theorem d67_50 : decode prog_35_method_6_code 50 = .ok (.invokedynamic 127, 5) := by decide +kernel
theorem d67_55 : decode prog_35_method_6_code 55 = .ok (.invokevirtual 35, 3) := by decide +kernel
theorem d67_58 : decode prog_35_method_6_code 58 = .ok (.iconst (-1), 1) := by decide +kernel
theorem d67_59 : decode prog_35_method_6_code 59 = .ok (.invokestatic 68, 3) := by decide +kernel
theorem d67_62 : decode prog_35_method_6_code 62 = .ok (.invokevirtual 47, 3) := by decide +kernel
theorem d67_65 : decode prog_35_method_6_code 65 = .ok (.checkcast 69, 3) := by decide +kernel
theorem d67_68 : decode prog_35_method_6_code 68 = .ok (.invokevirtual 130, 3) := by decide +kernel
theorem d67_71 : decode prog_35_method_6_code 71 = .ok (.putfield 7, 3) := by decide +kernel
theorem d67_74 : decode prog_35_method_6_code 74 = .ok (.aload_n 0, 1) := by decide +kernel
theorem d67_75 : decode prog_35_method_6_code 75 = .ok (.getfield 7, 3) := by decide +kernel
theorem d67_78 : decode prog_35_method_6_code 78 = .ok (.ifCond .lt 35, 3) := by decide +kernel
theorem d67_81 : decode prog_35_method_6_code 81 = .ok (.aload_n 0, 1) := by decide +kernel
theorem d67_82 : decode prog_35_method_6_code 82 = .ok (.getfield 27, 3) := by decide +kernel
theorem d67_85 : decode prog_35_method_6_code 85 = .ok (.invokevirtual 79, 3) := by decide +kernel
theorem d67_88 : decode prog_35_method_6_code 88 = .ok (.checkcast 83, 3) := by decide +kernel
theorem d67_91 : decode prog_35_method_6_code 91 = .ok (.iload_n 1, 1) := by decide +kernel
theorem d67_92 : decode prog_35_method_6_code 92 = .ok (.invokevirtual 133, 3) := by decide +kernel
theorem d67_95 : decode prog_35_method_6_code 95 = .ok (.ifCond .eq 18, 3) := by decide +kernel
theorem d67_98 : decode prog_35_method_6_code 98 = .ok (.aload_n 0, 1) := by decide +kernel
theorem d67_99 : decode prog_35_method_6_code 99 = .ok (.dup, 1) := by decide +kernel
theorem d67_100 : decode prog_35_method_6_code 100 = .ok (.getfield 137, 3) := by decide +kernel
theorem d67_103 : decode prog_35_method_6_code 103 = .ok (.lconst 1, 1) := by decide +kernel
theorem d67_104 : decode prog_35_method_6_code 104 = .ok (.ladd, 1) := by decide +kernel
theorem d67_105 : decode prog_35_method_6_code 105 = .ok (.putfield 137, 3) := by decide +kernel
theorem d67_108 : decode prog_35_method_6_code 108 = .ok (.aload_n 0, 1) := by decide +kernel
theorem d67_109 : decode prog_35_method_6_code 109 = .ok (.iconst 1, 1) := by decide +kernel
theorem d67_110 : decode prog_35_method_6_code 110 = .ok (.putfield 141, 3) := by decide +kernel
theorem d67_113 : decode prog_35_method_6_code 113 = .ok (.return_, 1) := by decide +kernel
abbrev RSR : Room := { frames := 7, cells := 3, slots := 6, locals := 3100 }
abbrev tkv (c : Int32) : Int32 := if c = 0 then -1 else 0
set_option maxRecDepth 65536 in
theorem rmSR (l : Launch) (Z : State) (a0 : Array Value) (hw : ∀ d ∈ tables_1, d.before a0 Z = true) (a s o b el ea t e em ca oe : Addr) (cc : Cell) (k : ClassId) (c4 : Int32) (dv v : Value) (w3 w5 w6 w7 w8 w9 w12 : Value) (h0 : Heap) (A : KWs Z h0 a (.int (-1)) (.ref s) w3 (.ref o) w5 w6 w7 w8 w9 (.long 0) (.int 0) w12) (g : Z.heap.size ≤ a) (M : HMs Z h0 s .null v) (O : KO Z h0 c4 o b) (Y : LY Z h0 b el t e em) (lo : o < a) (lb : b < a)
    (E : Exa Z Z.heap el LN) (F : Fld Z Z.heap el LN "elements" OA (.ref ea)) (V : Arv Z Z.heap ea k (.object "java/lang/Object") 0 [] dv) (SM : Sta Z Z.heap "java/util/ImmutableCollections" "EMPTY" LO (.ref em)) (SH : Sta Z Z.heap IC "high" "I" (.int 127)) (SC : Sta Z Z.heap IC "cache" "[Ljava/lang/Integer;" (.ref ca)) (B : Bxs Z ca cc IN "I" 256 (fun j => .int (j - 128))) (SO : Sta Z Z.heap OP "EMPTY" "Ljava/util/Optional;" (.ref oe)) (Oe : OPs Z Z.heap oe .null) :
    Con l Z [] [] false (⟨"com/example/stackloom/stackloom/service/KernelWatch", "stackRestored", "(III)V"⟩ : MethodName) prog_35_method_6_code 5 none RSR #[.ref a, .int 256, .int 5, .int 4224] h0 (rU fun h => Keep h0 h [a] ∧ ∃ vt, KWs Z h a vt (.ref s) w3 (.ref o) w5 w6 w7 w8 w9 (.long (if c4 = 0 then 0 else 1)) (.int (if c4 = 0 then 0 else 1)) w12) := by
  obtain ⟨Ea, F1, F2, F3, F4, F5, F6, F7, F8, F9, F10, F11, F12⟩ := A
  have m : a ∈ [a] := List.mem_singleton.mpr rfl
  refine bodyN (ls := #[.val (.ref a), .val (.int 256), .val (.int 5), .val (.int 4224), .unset]) (plainFor_of_name pn_14) (fun m => by first | (simp [entryFrame, mkF, argsToLocals, Value.category]; done) | rfl) fun K ok hN => ?_
  refine r_aloadN (pc' := 1) ok rfl d67_0 rfl rfl ?_
  refine r_getfield (pc' := 4) (host := "") ok rfl d67_1 (Or.inl (hw _ (List.mem_of_getElem? (i := 234) rfl))) Via.refl F2 ?_
  refine r_iloadN (pc' := 5) ok rfl d67_4 rfl ?_
  refine r_static (pc' := 8) ok rfl d67_5 (hw _ (List.mem_of_getElem? (i := 459) rfl)) (hw _ (List.mem_of_getElem? (i := 286) rfl)) (hw _ (List.mem_of_getElem? (i := 287) rfl)) (hw _ (List.mem_of_getElem? (i := 288) rfl)) (by decide) pd_24 (Con.pay (W := 1) (rmIVo l Z a0 hw ca cc 5 h0 SH SC B (by decide) (by decide) (by decide) (by decide)) EW.nil (hw _ (List.mem_of_getElem? (i := 288) rfl)) (hw _ (List.mem_of_getElem? (i := 287) rfl)) (by decide) (by decide)) (fun q => nomatch q) (Or.inl rfl) rfl (argsL := [(.int 5)]) (rest := [(.ref s)]) rfl rfl rfl (Nat.le_of_ble_eq_true rfl) (by decide) (by decide) (cV fun x1 h1 q1 le1 => ?_)
  obtain ⟨i, rfl, Ei, Fi, rfl⟩ := q1
  refine r_iface (pc' := 13) ok rfl d67_8 (hw _ (List.mem_of_getElem? (i := 460) rfl)) (hw _ (List.mem_of_getElem? (i := 461) rfl)) (hw _ (List.mem_of_getElem? (i := 462) rfl)) (hw _ (List.mem_of_getElem? (i := 463) rfl)) (hw _ (List.mem_of_getElem? (i := 464) rfl)) (hw _ (List.mem_of_getElem? (i := 465) rfl)) (hw _ (List.mem_of_getElem? (i := 466) rfl)) (hw _ (List.mem_of_getElem? (i := 467) rfl)) M.1 (by decide) pd_18 (Con.pay (W := 0) (rmGet l Z a0 hw s i v h0 M) EW.nil (hw _ (List.mem_of_getElem? (i := 468) rfl)) (hw _ (List.mem_of_getElem? (i := 220) rfl)) (by decide) (by decide)) (fun q => nomatch q) (Or.inl rfl) rfl (argsL := [(.ref i)]) (rest := []) rfl rfl rfl (Nat.le_of_ble_eq_true rfl) (by decide) (by decide) (cV fun x2 h2 q2 le2 => ?_)
  obtain ⟨rfl, rfl⟩ := q2
  refine r_checkcastNull (pc' := 16) ok rfl d67_13 ?_
  refine r_astore (pc' := 18) (ls' := #[.val (.ref a), .val (.int 256), .val (.int 5), .val (.int 4224), .val .null]) ok rfl d67_16 rfl rfl ?_
  refine r_aload (pc' := 20) ok rfl d67_18 rfl rfl ?_
  refine r_ifnull_null (pc' := 44) ok d67_20 (by decide) (by decide) ?_
  refine r_aloadN (pc' := 45) ok rfl d67_44 rfl rfl ?_
  refine r_aloadN (pc' := 46) ok rfl d67_45 rfl rfl ?_
  refine r_getfield (pc' := 49) (host := "") ok rfl d67_46 (Or.inl (hw _ (List.mem_of_getElem? (i := 260) rfl))) Via.refl F4 ?_
  refine r_iloadN (pc' := 50) ok rfl d67_49 rfl ?_
  refine r_indyM (pc' := 55) (fi := 15) (t0 := .int) (σ := sg2) ok hN rfl d67_50 (hw _ (List.mem_of_getElem? (i := 476) rfl)) (hw _ (List.mem_of_getElem? (i := 478) rfl)) rfl fc2_cap ⟨rfl, rfl⟩ rfl (Nat.le_of_ble_eq_true rfl) (by decide) (by decide) ?_
  intro h3 f cK ef gf E3 hM hC
  obtain ⟨cell, hcell, hcls, hvm, hsl⟩ := hC
  have K3 : Keep h0 h3 [] := (Keep.refl h0 []).ext E3
  have O3 := O.keep K3 nin0
  have Y3 := Y.keep K3 nin0 nin0 nin0
  refine r_old fun X3 => ?_
  refine r_virtual (pc' := 58) ok rfl d67_55 (hw _ (List.mem_of_getElem? (i := 265) rfl)) (hw _ (List.mem_of_getElem? (i := 266) rfl)) (hw _ (List.mem_of_getElem? (i := 268) rfl)) (hw _ (List.mem_of_getElem? (i := 267) rfl)) (nf_sel (C := "java/util/Optional") (z := (⟨"java/util/Optional", "map", "(Ljava/util/function/Function;)Ljava/util/Optional;"⟩ : MethodName)) (hw _ (List.mem_of_getElem? (i := 268) rfl))) O3.exa (by decide) pd_23 (Con.pay (W := 1) (rmMap l Z a0 hw c4 o b f oe cK (fun r => Exa Z Z.heap r IN ∧ Fld Z Z.heap r IN "value" "I" (.int (tkv c4))) h3 O3 (own_fn2 hw hM) ⟨cell, hcell, hcls, hvm⟩ (fun hc => by rw [show tkv c4 = 0 from if_neg hc]; exact pay2 l Z a0 hw b t e em ca f cc cell cK _ _ _ _ _ _ h3 hM hcell hvm hsl Y3.1 Y3.2.1 Y3.2.2 SM SH SC B) SO (Oe.ext X3)) EW.nil (hw _ (List.mem_of_getElem? (i := 269) rfl)) (hw _ (List.mem_of_getElem? (i := 197) rfl)) (by decide) (by decide)) (fun q => nomatch q) (Or.inl rfl) rfl (argsL := [(.ref f)]) (rest := [(.ref a)]) rfl rfl rfl (Nat.le_of_ble_eq_true rfl) (by decide) (by decide) (cV fun x4 h4 q4 le4 => ?_)
  obtain ⟨om, rfl, K4, O4⟩ := q4
  refine r_iconstV (pc' := 59) ok rfl (-1 : Int32) d67_58 rfl ?_
  refine r_static (pc' := 62) ok rfl d67_59 (hw _ (List.mem_of_getElem? (i := 459) rfl)) (hw _ (List.mem_of_getElem? (i := 286) rfl)) (hw _ (List.mem_of_getElem? (i := 287) rfl)) (hw _ (List.mem_of_getElem? (i := 288) rfl)) (by decide) pd_24 (Con.pay (W := 2) (rmIVo l Z a0 hw ca cc (-1) h4 SH SC B (by decide) (by decide) (by decide) (by decide)) EW.nil (hw _ (List.mem_of_getElem? (i := 288) rfl)) (hw _ (List.mem_of_getElem? (i := 287) rfl)) (by decide) (by decide)) (fun q => nomatch q) (Or.inl rfl) rfl (argsL := [.int _]) (rest := [(.ref om), (.ref a)]) rfl rfl rfl (Nat.le_of_ble_eq_true rfl) (by decide) (by decide) (cV fun x5 h5 q5 le5 => ?_)
  obtain ⟨j, rfl, Ej, Fj, rfl⟩ := q5
  refine r_virtual (pc' := 65) ok rfl d67_62 (hw _ (List.mem_of_getElem? (i := 318) rfl)) (hw _ (List.mem_of_getElem? (i := 319) rfl)) (hw _ (List.mem_of_getElem? (i := 321) rfl)) (hw _ (List.mem_of_getElem? (i := 320) rfl)) (nf_sel (C := "java/util/Optional") (z := (⟨"java/util/Optional", "orElse", "(Ljava/lang/Object;)Ljava/lang/Object;"⟩ : MethodName)) (hw _ (List.mem_of_getElem? (i := 321) rfl))) O4.exa (by decide) pd_18 (Con.pay (W := 1) (rmOr l Z a0 hw c4 om j _ h4 O4 (fun hc => ⟨Ej, by rw [show tkv c4 = -1 from if_pos hc]; exact Fj⟩)) EW.nil (hw _ (List.mem_of_getElem? (i := 322) rfl)) (hw _ (List.mem_of_getElem? (i := 197) rfl)) (by decide) (by decide)) (fun q => nomatch q) (Or.inl rfl) rfl (argsL := [(.ref j)]) (rest := [(.ref a)]) rfl rfl rfl (Nat.le_of_ble_eq_true rfl) (by decide) (by decide) (cV fun x6 h6 q6 le6 => ?_)
  obtain ⟨r, rfl, ⟨Er, Fr⟩, rfl⟩ := q6
  refine r_old fun X6 => ?_
  refine r_checkcast (pc' := 68) ok rfl d67_65 (hw _ (List.mem_of_getElem? (i := 479) rfl)) (Ins.of_exa (Er.ext X6) (hw _ (List.mem_of_getElem? (i := 480) rfl))) ?_
  refine r_virtual (pc' := 71) ok rfl d67_68 (hw _ (List.mem_of_getElem? (i := 481) rfl)) (hw _ (List.mem_of_getElem? (i := 482) rfl)) (hw _ (List.mem_of_getElem? (i := 484) rfl)) (hw _ (List.mem_of_getElem? (i := 483) rfl)) (nf_sel (C := "java/lang/Integer") (z := (⟨"java/lang/Integer", "intValue", "()I"⟩ : MethodName)) (hw _ (List.mem_of_getElem? (i := 484) rfl))) (Er.ext X6) (by decide) pd_30 (Con.pay (W := 1) (rmIv l Z a0 hw r (tkv c4) h4 (Fr.ext X6)) EW.nil (hw _ (List.mem_of_getElem? (i := 485) rfl)) (hw _ (List.mem_of_getElem? (i := 287) rfl)) (by decide) (by decide)) (fun q => nomatch q) (Or.inl rfl) rfl (argsL := []) (rest := [(.ref a)]) rfl rfl rfl (Nat.le_of_ble_eq_true rfl) (by decide) (by decide) (cV fun x7 h7 q7 le7 => ?_)
  obtain ⟨rfl, rfl⟩ := q7
  have K0 : Keep h0 h4 [] := K3.trans K4 (fun x hx => nomatch hx)
  replace F1 := F1.keep K0 nin0
  replace F2 := F2.keep K0 nin0
  replace F3 := F3.keep K0 nin0
  replace F4 := F4.keep K0 nin0
  replace F5 := F5.keep K0 nin0
  replace F6 := F6.keep K0 nin0
  replace F7 := F7.keep K0 nin0
  replace F8 := F8.keep K0 nin0
  replace F9 := F9.keep K0 nin0
  replace F10 := F10.keep K0 nin0
  replace F11 := F11.keep K0 nin0
  replace F12 := F12.keep K0 nin0
  refine r_putfield (pc' := 74) (host := "") ok rfl d67_71 (Or.inl (hw _ (List.mem_of_getElem? (i := 216) rfl))) Via.refl (Or.inl (hw _ (List.mem_of_getElem? (i := 217) rfl))) (hw _ (List.mem_of_getElem? (i := 210) rfl)) F1 (Ea.keep K0) g (ty := .int) (by decide) rfl rfl ?_
  intro h31 W31 F31 E31
  replace F2 := F2.other W31 (Or.inr (slot_ne (Or.inr (hw _ (List.mem_of_getElem? (i := 235) rfl))) (Or.inl (hw _ (List.mem_of_getElem? (i := 217) rfl))) (by decide) (t := (.object "java/util/Map")) (t' := .int) (by decide) (by decide)))
  replace F3 := F3.other W31 (Or.inr (slot_ne (Or.inr (hw _ (List.mem_of_getElem? (i := 259) rfl))) (Or.inl (hw _ (List.mem_of_getElem? (i := 217) rfl))) (by decide) (t := (.object "java/util/BitSet")) (t' := .int) (by decide) (by decide)))
  replace F4 := F4.other W31 (Or.inr (slot_ne (Or.inr (hw _ (List.mem_of_getElem? (i := 261) rfl))) (Or.inl (hw _ (List.mem_of_getElem? (i := 217) rfl))) (by decide) (t := (.object "java/util/Optional")) (t' := .int) (by decide) (by decide)))
  replace F5 := F5.other W31 (Or.inr (slot_ne (Or.inr (hw _ (List.mem_of_getElem? (i := 333) rfl))) (Or.inl (hw _ (List.mem_of_getElem? (i := 217) rfl))) (by decide) (t := .boolean) (t' := .int) (by decide) (by decide)))
  replace F6 := F6.other W31 (Or.inr (slot_ne (Or.inl (hw _ (List.mem_of_getElem? (i := 396) rfl))) (Or.inl (hw _ (List.mem_of_getElem? (i := 217) rfl))) (by decide) (t := .boolean) (t' := .int) (by decide) (by decide)))
  replace F7 := F7.other W31 (Or.inr (slot_ne (Or.inl (hw _ (List.mem_of_getElem? (i := 411) rfl))) (Or.inl (hw _ (List.mem_of_getElem? (i := 217) rfl))) (by decide) (t := .long) (t' := .int) (by decide) (by decide)))
  replace F8 := F8.other W31 (Or.inr (slot_ne (Or.inl (hw _ (List.mem_of_getElem? (i := 413) rfl))) (Or.inl (hw _ (List.mem_of_getElem? (i := 217) rfl))) (by decide) (t := .long) (t' := .int) (by decide) (by decide)))
  replace F9 := F9.other W31 (Or.inr (slot_ne (Or.inl (hw _ (List.mem_of_getElem? (i := 415) rfl))) (Or.inl (hw _ (List.mem_of_getElem? (i := 217) rfl))) (by decide) (t := .long) (t' := .int) (by decide) (by decide)))
  replace F10 := F10.other W31 (Or.inr (slot_ne (Or.inl (hw _ (List.mem_of_getElem? (i := 417) rfl))) (Or.inl (hw _ (List.mem_of_getElem? (i := 217) rfl))) (by decide) (t := .long) (t' := .int) (by decide) (by decide)))
  replace F11 := F11.other W31 (Or.inr (slot_ne (Or.inl (hw _ (List.mem_of_getElem? (i := 525) rfl))) (Or.inl (hw _ (List.mem_of_getElem? (i := 217) rfl))) (by decide) (t := .boolean) (t' := .int) (by decide) (by decide)))
  replace F12 := F12.other W31 (Or.inr (slot_ne (Or.inl (hw _ (List.mem_of_getElem? (i := 419) rfl))) (Or.inl (hw _ (List.mem_of_getElem? (i := 217) rfl))) (by decide) (t := .long) (t' := .int) (by decide) (by decide)))
  have K31 : Keep h0 h31 [a] := ((Keep.refl h0 [a]).trans K0 (fun x hx => nomatch hx)).wr W31 (Or.inl m)
  refine r_aloadN (pc' := 75) ok rfl d67_74 rfl rfl ?_
  refine r_getfield (pc' := 78) (host := "") ok rfl d67_75 (Or.inl (hw _ (List.mem_of_getElem? (i := 216) rfl))) Via.refl F31 ?_
  refine r_if_lt (pc' := 81) (pcY := 113) ok rfl d67_78 (by decide) (by decide) ?_ ?_
  · intro hc
    refine r_return ok d67_113 ?_ (by decide) (by decide)
    have h4 : c4 = 0 := Decidable.byContradiction fun q => by rw [show tkv c4 = 0 from if_neg q] at hc; exact absurd hc (by decide)
    exact ⟨K31, _, by rw [if_pos h4, if_pos h4]; exact ⟨E31, F31, F2, F3, F4, F5, F6, F7, F8, F9, F10, F11, F12⟩⟩
  intro hc
  have n4 : c4 ≠ 0 := fun q => by rw [show tkv c4 = -1 from if_pos q] at hc; exact absurd (by decide) hc
  obtain ⟨-, O9⟩ := (O.keep K31 (nin1 lo)).resolve_right (fun q => n4 q.1)
  have L9 := Y.1.keep K31 (nin1 lb)
  refine r_old fun X9 => ?_
  refine r_aloadN (pc' := 82) ok rfl d67_81 rfl rfl ?_
  refine r_getfield (pc' := 85) (host := "") ok rfl d67_82 (Or.inl (hw _ (List.mem_of_getElem? (i := 260) rfl))) Via.refl F4 ?_
  refine r_virtual (pc' := 88) ok rfl d67_85 (hw _ (List.mem_of_getElem? (i := 345) rfl)) (hw _ (List.mem_of_getElem? (i := 346) rfl)) (hw _ (List.mem_of_getElem? (i := 348) rfl)) (hw _ (List.mem_of_getElem? (i := 347) rfl)) (nf_sel (C := "java/util/Optional") (z := (⟨"java/util/Optional", "orElseThrow", "()Ljava/lang/Object;"⟩ : MethodName)) (hw _ (List.mem_of_getElem? (i := 348) rfl))) O9.1 (by decide) pd_27 (Con.pay (W := 0) (rmOpT l Z a0 hw o b h31 O9) EW.nil (hw _ (List.mem_of_getElem? (i := 349) rfl)) (hw _ (List.mem_of_getElem? (i := 197) rfl)) (by decide) (by decide)) (fun q => nomatch q) (Or.inl rfl) rfl (argsL := []) (rest := []) rfl rfl rfl (Nat.le_of_ble_eq_true rfl) (by decide) (by decide) (cV fun x9 h9 q9 le9 => ?_)
  obtain ⟨rfl, rfl⟩ := q9
  refine r_checkcast (pc' := 91) ok rfl d67_88 (hw _ (List.mem_of_getElem? (i := 350) rfl)) (Ins.of_exa L9.1 (hw _ (List.mem_of_getElem? (i := 264) rfl))) ?_
  refine r_iloadN (pc' := 92) ok rfl d67_91 rfl ?_
  refine r_virtual (pc' := 95) ok rfl d67_92 (hw _ (List.mem_of_getElem? (i := 351) rfl)) (hw _ (List.mem_of_getElem? (i := 352) rfl)) (hw _ (List.mem_of_getElem? (i := 354) rfl)) (hw _ (List.mem_of_getElem? (i := 353) rfl)) (nf_sel (C := "com/example/stackloom/stackloom/model/KernelLayout") (z := (⟨"com/example/stackloom/stackloom/model/KernelLayout", "holds", "(I)Z"⟩ : MethodName)) (hw _ (List.mem_of_getElem? (i := 354) rfl))) L9.1 (by decide) pd_28 (Con.pay (W := 0) (rmHo l Z a0 hw b el ea k dv 256 _ _ h31 L9 (E.ext X9) (F.ext X9) (V.ext X9)) EW.nil (hw _ (List.mem_of_getElem? (i := 355) rfl)) (hw _ (List.mem_of_getElem? (i := 77) rfl)) (by decide) (by decide)) (fun q => nomatch q) (Or.inl rfl) rfl (argsL := [(.int 256)]) (rest := []) rfl rfl rfl (Nat.le_of_ble_eq_true rfl) (by decide) (by decide) (cV fun x10 h10 q10 le10 => ?_)
  obtain ⟨rfl, K10⟩ := q10
  refine r_if_eq (pc' := 98) (pcY := 113) ok rfl d67_95 (by decide) (by decide) ?_ ?_
  · intro hc
    exact absurd hc (by decide)
  intro _
  replace F31 := F31.keep K10 nin0
  replace F2 := F2.keep K10 nin0
  replace F3 := F3.keep K10 nin0
  replace F4 := F4.keep K10 nin0
  replace F5 := F5.keep K10 nin0
  replace F6 := F6.keep K10 nin0
  replace F7 := F7.keep K10 nin0
  replace F8 := F8.keep K10 nin0
  replace F9 := F9.keep K10 nin0
  replace F10 := F10.keep K10 nin0
  replace F11 := F11.keep K10 nin0
  replace F12 := F12.keep K10 nin0
  refine r_aloadN (pc' := 99) ok rfl d67_98 rfl rfl ?_
  refine r_dup (pc' := 100) ok rfl d67_99 rfl ?_
  refine r_getfield (pc' := 103) (host := "") ok rfl d67_100 (Or.inl (hw _ (List.mem_of_getElem? (i := 416) rfl))) Via.refl F10 ?_
  refine r_lconst (pc' := 104) ok rfl (1 : Int64) d67_103 rfl ?_
  refine r_ladd (pc' := 105) ok rfl d67_104 ?_
  rw [show (0 : Int64) + 1 = 1 from by decide]
  refine r_putfield (pc' := 108) (host := "") ok rfl d67_105 (Or.inl (hw _ (List.mem_of_getElem? (i := 416) rfl))) Via.refl (Or.inl (hw _ (List.mem_of_getElem? (i := 417) rfl))) (hw _ (List.mem_of_getElem? (i := 210) rfl)) F10 (E31.keep K10) g (ty := .long) (by decide) rfl rfl ?_
  intro h32 W32 F32 E32
  replace F31 := F31.other W32 (Or.inr (slot_ne (Or.inl (hw _ (List.mem_of_getElem? (i := 217) rfl))) (Or.inl (hw _ (List.mem_of_getElem? (i := 417) rfl))) (by decide) (t := .int) (t' := .long) (by decide) (by decide)))
  replace F2 := F2.other W32 (Or.inr (slot_ne (Or.inr (hw _ (List.mem_of_getElem? (i := 235) rfl))) (Or.inl (hw _ (List.mem_of_getElem? (i := 417) rfl))) (by decide) (t := (.object "java/util/Map")) (t' := .long) (by decide) (by decide)))
  replace F3 := F3.other W32 (Or.inr (slot_ne (Or.inr (hw _ (List.mem_of_getElem? (i := 259) rfl))) (Or.inl (hw _ (List.mem_of_getElem? (i := 417) rfl))) (by decide) (t := (.object "java/util/BitSet")) (t' := .long) (by decide) (by decide)))
  replace F4 := F4.other W32 (Or.inr (slot_ne (Or.inr (hw _ (List.mem_of_getElem? (i := 261) rfl))) (Or.inl (hw _ (List.mem_of_getElem? (i := 417) rfl))) (by decide) (t := (.object "java/util/Optional")) (t' := .long) (by decide) (by decide)))
  replace F5 := F5.other W32 (Or.inr (slot_ne (Or.inr (hw _ (List.mem_of_getElem? (i := 333) rfl))) (Or.inl (hw _ (List.mem_of_getElem? (i := 417) rfl))) (by decide) (t := .boolean) (t' := .long) (by decide) (by decide)))
  replace F6 := F6.other W32 (Or.inr (slot_ne (Or.inl (hw _ (List.mem_of_getElem? (i := 396) rfl))) (Or.inl (hw _ (List.mem_of_getElem? (i := 417) rfl))) (by decide) (t := .boolean) (t' := .long) (by decide) (by decide)))
  replace F7 := F7.other W32 (Or.inr (slot_ne (Or.inl (hw _ (List.mem_of_getElem? (i := 411) rfl))) (Or.inl (hw _ (List.mem_of_getElem? (i := 417) rfl))) (by decide) (t := .long) (t' := .long) (by decide) (by decide)))
  replace F8 := F8.other W32 (Or.inr (slot_ne (Or.inl (hw _ (List.mem_of_getElem? (i := 413) rfl))) (Or.inl (hw _ (List.mem_of_getElem? (i := 417) rfl))) (by decide) (t := .long) (t' := .long) (by decide) (by decide)))
  replace F9 := F9.other W32 (Or.inr (slot_ne (Or.inl (hw _ (List.mem_of_getElem? (i := 415) rfl))) (Or.inl (hw _ (List.mem_of_getElem? (i := 417) rfl))) (by decide) (t := .long) (t' := .long) (by decide) (by decide)))
  replace F11 := F11.other W32 (Or.inr (slot_ne (Or.inl (hw _ (List.mem_of_getElem? (i := 525) rfl))) (Or.inl (hw _ (List.mem_of_getElem? (i := 417) rfl))) (by decide) (t := .boolean) (t' := .long) (by decide) (by decide)))
  replace F12 := F12.other W32 (Or.inr (slot_ne (Or.inl (hw _ (List.mem_of_getElem? (i := 419) rfl))) (Or.inl (hw _ (List.mem_of_getElem? (i := 417) rfl))) (by decide) (t := .long) (t' := .long) (by decide) (by decide)))
  refine r_aloadN (pc' := 109) ok rfl d67_108 rfl rfl ?_
  refine r_iconstV (pc' := 110) ok rfl (1 : Int32) d67_109 rfl ?_
  refine r_putfieldN (pc' := 113) ok rfl d67_110 (hw _ (List.mem_of_getElem? (i := 524) rfl)) Via.refl (Or.inl (hw _ (List.mem_of_getElem? (i := 525) rfl))) (hw _ (List.mem_of_getElem? (i := 210) rfl)) F11 E32 g (ty := .boolean) (by decide) rfl (by decide) ?_
  intro h33 W33 F33 E33
  replace F31 := F31.other W33 (Or.inr (slot_ne (Or.inl (hw _ (List.mem_of_getElem? (i := 217) rfl))) (Or.inl (hw _ (List.mem_of_getElem? (i := 525) rfl))) (by decide) (t := .int) (t' := .boolean) (by decide) (by decide)))
  replace F2 := F2.other W33 (Or.inr (slot_ne (Or.inr (hw _ (List.mem_of_getElem? (i := 235) rfl))) (Or.inl (hw _ (List.mem_of_getElem? (i := 525) rfl))) (by decide) (t := (.object "java/util/Map")) (t' := .boolean) (by decide) (by decide)))
  replace F3 := F3.other W33 (Or.inr (slot_ne (Or.inr (hw _ (List.mem_of_getElem? (i := 259) rfl))) (Or.inl (hw _ (List.mem_of_getElem? (i := 525) rfl))) (by decide) (t := (.object "java/util/BitSet")) (t' := .boolean) (by decide) (by decide)))
  replace F4 := F4.other W33 (Or.inr (slot_ne (Or.inr (hw _ (List.mem_of_getElem? (i := 261) rfl))) (Or.inl (hw _ (List.mem_of_getElem? (i := 525) rfl))) (by decide) (t := (.object "java/util/Optional")) (t' := .boolean) (by decide) (by decide)))
  replace F5 := F5.other W33 (Or.inr (slot_ne (Or.inr (hw _ (List.mem_of_getElem? (i := 333) rfl))) (Or.inl (hw _ (List.mem_of_getElem? (i := 525) rfl))) (by decide) (t := .boolean) (t' := .boolean) (by decide) (by decide)))
  replace F6 := F6.other W33 (Or.inr (slot_ne (Or.inl (hw _ (List.mem_of_getElem? (i := 396) rfl))) (Or.inl (hw _ (List.mem_of_getElem? (i := 525) rfl))) (by decide) (t := .boolean) (t' := .boolean) (by decide) (by decide)))
  replace F7 := F7.other W33 (Or.inr (slot_ne (Or.inl (hw _ (List.mem_of_getElem? (i := 411) rfl))) (Or.inl (hw _ (List.mem_of_getElem? (i := 525) rfl))) (by decide) (t := .long) (t' := .boolean) (by decide) (by decide)))
  replace F8 := F8.other W33 (Or.inr (slot_ne (Or.inl (hw _ (List.mem_of_getElem? (i := 413) rfl))) (Or.inl (hw _ (List.mem_of_getElem? (i := 525) rfl))) (by decide) (t := .long) (t' := .boolean) (by decide) (by decide)))
  replace F9 := F9.other W33 (Or.inr (slot_ne (Or.inl (hw _ (List.mem_of_getElem? (i := 415) rfl))) (Or.inl (hw _ (List.mem_of_getElem? (i := 525) rfl))) (by decide) (t := .long) (t' := .boolean) (by decide) (by decide)))
  replace F32 := F32.other W33 (Or.inr (slot_ne (Or.inl (hw _ (List.mem_of_getElem? (i := 417) rfl))) (Or.inl (hw _ (List.mem_of_getElem? (i := 525) rfl))) (by decide) (t := .long) (t' := .boolean) (by decide) (by decide)))
  replace F12 := F12.other W33 (Or.inr (slot_ne (Or.inl (hw _ (List.mem_of_getElem? (i := 419) rfl))) (Or.inl (hw _ (List.mem_of_getElem? (i := 525) rfl))) (by decide) (t := .long) (t' := .boolean) (by decide) (by decide)))
  refine r_return ok d67_113 ?_ (by decide) (by decide)
  exact ⟨((K31.trans K10 (fun x hx => nomatch hx)).wr W32 (Or.inl m)).wr W33 (Or.inl m), _, by rw [if_neg n4, if_neg n4]; exact ⟨E33, F31, F2, F3, F4, F5, F6, F7, F8, F9, F32, F33, F12⟩⟩
theorem d68_0 : decode prog_35_method_1_code 0 = .ok (.aload_n 0, 1) := by decide +kernel
theorem d68_1 : decode prog_35_method_1_code 1 = .ok (.invokespecial 1, 3) := by decide +kernel
theorem d68_4 : decode prog_35_method_1_code 4 = .ok (.aload_n 0, 1) := by decide +kernel
theorem d68_5 : decode prog_35_method_1_code 5 = .ok (.iconst (-1), 1) := by decide +kernel
theorem d68_6 : decode prog_35_method_1_code 6 = .ok (.putfield 7, 3) := by decide +kernel
theorem d68_9 : decode prog_35_method_1_code 9 = .ok (.aload_n 0, 1) := by decide +kernel
theorem d68_10 : decode prog_35_method_1_code 10 = .ok (.new 13, 3) := by decide +kernel
theorem d68_13 : decode prog_35_method_1_code 13 = .ok (.dup, 1) := by decide +kernel
theorem d68_14 : decode prog_35_method_1_code 14 = .ok (.invokespecial 15, 3) := by decide +kernel
theorem d68_17 : decode prog_35_method_1_code 17 = .ok (.putfield 16, 3) := by decide +kernel
theorem d68_20 : decode prog_35_method_1_code 20 = .ok (.aload_n 0, 1) := by decide +kernel
theorem d68_21 : decode prog_35_method_1_code 21 = .ok (.new 20, 3) := by decide +kernel
theorem d68_24 : decode prog_35_method_1_code 24 = .ok (.dup, 1) := by decide +kernel
theorem d68_25 : decode prog_35_method_1_code 25 = .ok (.invokespecial 22, 3) := by decide +kernel
theorem d68_28 : decode prog_35_method_1_code 28 = .ok (.putfield 23, 3) := by decide +kernel
theorem d68_31 : decode prog_35_method_1_code 31 = .ok (.aload_n 0, 1) := by decide +kernel
theorem d68_32 : decode prog_35_method_1_code 32 = .ok (.aload_n 1, 1) := by decide +kernel
theorem d68_33 : decode prog_35_method_1_code 33 = .ok (.putfield 27, 3) := by decide +kernel
theorem d68_36 : decode prog_35_method_1_code 36 = .ok (.aload_n 0, 1) := by decide +kernel
theorem d68_37 : decode prog_35_method_1_code 37 = .ok (.aload_n 1, 1) := by decide +kernel
theorem d68_38 : decode prog_35_method_1_code 38 = .ok (.invokedynamic 31, 5) := by decide +kernel
theorem d68_43 : decode prog_35_method_1_code 43 = .ok (.invokevirtual 35, 3) := by decide +kernel
theorem d68_46 : decode prog_35_method_1_code 46 = .ok (.iconst 0, 1) := by decide +kernel
theorem d68_47 : decode prog_35_method_1_code 47 = .ok (.invokestatic 41, 3) := by decide +kernel
theorem d68_50 : decode prog_35_method_1_code 50 = .ok (.invokevirtual 47, 3) := by decide +kernel
theorem d68_53 : decode prog_35_method_1_code 53 = .ok (.checkcast 42, 3) := by decide +kernel
theorem d68_56 : decode prog_35_method_1_code 56 = .ok (.invokevirtual 51, 3) := by decide +kernel
theorem d68_59 : decode prog_35_method_1_code 59 = .ok (.putfield 55, 3) := by decide +kernel
theorem d68_62 : decode prog_35_method_1_code 62 = .ok (.return_, 1) := by decide +kernel
abbrev RKW : Room := { frames := 7, cells := 4, slots := 13, locals := 3100 }
set_option maxRecDepth 65536 in
theorem rmKW (l : Launch) (Z : State) (a0 : Array Value) (hw : ∀ d ∈ tables_1, d.before a0 Z = true) (a o b el ea t e em ca oe bf : Addr) (cc : Cell) (k : ClassId) (c4 : Int32) (dv : Value) (w1 w2 w3 w4 w5 w6 w7 w8 w9 w10 w11 w12 : Value) (h0 : Heap) (A : KWs Z h0 a w1 w2 w3 w4 w5 w6 w7 w8 w9 w10 w11 w12) (g : Z.heap.size ≤ a) (O : KO Z h0 c4 o b) (Y : LY Z h0 b el t e em) (lo : o < a) (lb : b < a)
    (E : Exa Z Z.heap el LN) (Fn : Fld Z Z.heap el LN "allowNulls" "Z" (.int 0)) (F : Fld Z Z.heap el LN "elements" OA (.ref ea)) (V : Arv Z Z.heap ea k (.object "java/lang/Object") 0 [] dv) (ST : Sta Z Z.heap CLy "TIMER0_SLOT" "I" (.int 11)) (SH : Sta Z Z.heap IC "high" "I" (.int 127)) (SC : Sta Z Z.heap IC "cache" "[Ljava/lang/Integer;" (.ref ca)) (B : Bxs Z ca cc IN "I" 256 (fun j => .int (j - 128))) (SO : Sta Z Z.heap OP "EMPTY" "Ljava/util/Optional;" (.ref oe)) (Oe : OPs Z Z.heap oe .null) (SF : Sta Z Z.heap "java/lang/Boolean" "FALSE" "Ljava/lang/Boolean;" (.ref bf)) (EB : Exa Z Z.heap bf BO) (FB : Fld Z Z.heap bf BO "value" "Z" (.int 0)) :
    Con l Z [] [] false (⟨"com/example/stackloom/stackloom/service/KernelWatch", "<init>", "(Ljava/util/Optional;)V"⟩ : MethodName) prog_35_method_1_code 2 none RKW #[.ref a, .ref o] h0 (rU fun h => Keep h0 h [a] ∧ ∃ (s : Addr) (vf v : Value), h0.size ≤ s ∧ HMs Z h s .null v ∧ KWs Z h a (.int (-1)) (.ref s) vf (.ref o) (.int 0) w6 w7 w8 w9 w10 w11 w12) := by
  obtain ⟨Ea, F1, F2, F3, F4, F5, F6, F7, F8, F9, F10, F11, F12⟩ := A
  have m : a ∈ [a] := List.mem_singleton.mpr rfl
  have la := Ea.lt
  refine bodyN (ls := #[.val (.ref a), .val (.ref o)]) (plainFor_of_name pn_14) (fun m => by first | (simp [entryFrame, mkF, argsToLocals, Value.category]; done) | rfl) fun K ok hN => ?_
  refine r_aloadN (pc' := 1) ok rfl d68_0 rfl rfl ?_
  refine r_init (pc' := 4) ok rfl d68_1 (hw _ (List.mem_of_getElem? (i := 215) rfl)) (hw _ (List.mem_of_getElem? (i := 19) rfl)) (hw _ (List.mem_of_getElem? (i := 20) rfl)) rfl (by decide) (Nat.le_of_ble_eq_true rfl) ?_
  refine r_aloadN (pc' := 5) ok rfl d68_4 rfl rfl ?_
  refine r_iconstV (pc' := 6) ok rfl (-1 : Int32) d68_5 rfl ?_
  refine r_putfield (pc' := 9) (host := "") ok rfl d68_6 (Or.inl (hw _ (List.mem_of_getElem? (i := 216) rfl))) Via.refl (Or.inl (hw _ (List.mem_of_getElem? (i := 217) rfl))) (hw _ (List.mem_of_getElem? (i := 210) rfl)) F1 Ea g (ty := .int) (by decide) rfl rfl ?_
  intro h31 W31 F31 E31
  replace F2 := F2.other W31 (Or.inr (slot_ne (Or.inr (hw _ (List.mem_of_getElem? (i := 235) rfl))) (Or.inl (hw _ (List.mem_of_getElem? (i := 217) rfl))) (by decide) (t := (.object "java/util/Map")) (t' := .int) (by decide) (by decide)))
  replace F3 := F3.other W31 (Or.inr (slot_ne (Or.inr (hw _ (List.mem_of_getElem? (i := 259) rfl))) (Or.inl (hw _ (List.mem_of_getElem? (i := 217) rfl))) (by decide) (t := (.object "java/util/BitSet")) (t' := .int) (by decide) (by decide)))
  replace F4 := F4.other W31 (Or.inr (slot_ne (Or.inr (hw _ (List.mem_of_getElem? (i := 261) rfl))) (Or.inl (hw _ (List.mem_of_getElem? (i := 217) rfl))) (by decide) (t := (.object "java/util/Optional")) (t' := .int) (by decide) (by decide)))
  replace F5 := F5.other W31 (Or.inr (slot_ne (Or.inr (hw _ (List.mem_of_getElem? (i := 333) rfl))) (Or.inl (hw _ (List.mem_of_getElem? (i := 217) rfl))) (by decide) (t := .boolean) (t' := .int) (by decide) (by decide)))
  replace F6 := F6.other W31 (Or.inr (slot_ne (Or.inl (hw _ (List.mem_of_getElem? (i := 396) rfl))) (Or.inl (hw _ (List.mem_of_getElem? (i := 217) rfl))) (by decide) (t := .boolean) (t' := .int) (by decide) (by decide)))
  replace F7 := F7.other W31 (Or.inr (slot_ne (Or.inl (hw _ (List.mem_of_getElem? (i := 411) rfl))) (Or.inl (hw _ (List.mem_of_getElem? (i := 217) rfl))) (by decide) (t := .long) (t' := .int) (by decide) (by decide)))
  replace F8 := F8.other W31 (Or.inr (slot_ne (Or.inl (hw _ (List.mem_of_getElem? (i := 413) rfl))) (Or.inl (hw _ (List.mem_of_getElem? (i := 217) rfl))) (by decide) (t := .long) (t' := .int) (by decide) (by decide)))
  replace F9 := F9.other W31 (Or.inr (slot_ne (Or.inl (hw _ (List.mem_of_getElem? (i := 415) rfl))) (Or.inl (hw _ (List.mem_of_getElem? (i := 217) rfl))) (by decide) (t := .long) (t' := .int) (by decide) (by decide)))
  replace F10 := F10.other W31 (Or.inr (slot_ne (Or.inl (hw _ (List.mem_of_getElem? (i := 417) rfl))) (Or.inl (hw _ (List.mem_of_getElem? (i := 217) rfl))) (by decide) (t := .long) (t' := .int) (by decide) (by decide)))
  replace F11 := F11.other W31 (Or.inr (slot_ne (Or.inl (hw _ (List.mem_of_getElem? (i := 525) rfl))) (Or.inl (hw _ (List.mem_of_getElem? (i := 217) rfl))) (by decide) (t := .boolean) (t' := .int) (by decide) (by decide)))
  replace F12 := F12.other W31 (Or.inr (slot_ne (Or.inl (hw _ (List.mem_of_getElem? (i := 419) rfl))) (Or.inl (hw _ (List.mem_of_getElem? (i := 217) rfl))) (by decide) (t := .long) (t' := .int) (by decide) (by decide)))
  have K31 : Keep h0 h31 [a] := (Keep.refl h0 [a]).wr W31 (Or.inl m)
  refine r_aloadN (pc' := 10) ok rfl d68_9 rfl rfl ?_
  refine r_new (pc' := 13) ok rfl d68_10 (hw _ (List.mem_of_getElem? (i := 218) rfl)) (hw _ (List.mem_of_getElem? (i := 219) rfl)) (hw _ (List.mem_of_getElem? (i := 220) rfl)) (by decide) (by decide) ?_
  intro h2 b2 g2 z2 E2 A2 D2
  have G1 := D2 (Or.inl (hw _ (List.mem_of_getElem? (i := 475) rfl))) (ty := (.array (.object "java/util/HashMap$Node"))) (by decide)
  have G2 := D2 (Or.inr (hw _ (List.mem_of_getElem? (i := 233) rfl))) (ty := .float) (by decide)
  refine r_dup (pc' := 14) ok rfl d68_13 rfl ?_
  refine r_special (pc' := 17) ok rfl d68_14 rfl (hw _ (List.mem_of_getElem? (i := 221) rfl)) (hw _ (List.mem_of_getElem? (i := 222) rfl)) (hw _ (List.mem_of_getElem? (i := 223) rfl)) (by decide) pd_0 (Con.pay (W := 2) (rmHM l Z a0 hw b2 _ _ h2 ⟨A2, G1, G2⟩ z2) EW.nil (hw _ (List.mem_of_getElem? (i := 223) rfl)) (hw _ (List.mem_of_getElem? (i := 220) rfl)) (by decide) (by decide)) (fun q => nomatch q) (Or.inl rfl) rfl (argsL := []) (rest := [(.ref b2), (.ref a)]) rfl rfl rfl (Nat.le_of_ble_eq_true rfl) (by decide) (by decide) (cU fun h3 q3 le3 => ?_)
  obtain ⟨K3, v3, M3⟩ := q3
  have Ka : Keep h31 h3 [] := ((Keep.refl h31 []).ext E2).trans K3 (fun x hx => by cases List.mem_singleton.mp hx; exact Or.inr (Nat.le_of_eq g2.symm))
  have s2 : h0.size ≤ b2 := by rw [g2]; exact K31.1
  have n2 : a < b2 := Nat.lt_of_lt_of_le la s2
  replace F31 := F31.keep Ka nin0
  replace F2 := F2.keep Ka nin0
  replace F3 := F3.keep Ka nin0
  replace F4 := F4.keep Ka nin0
  replace F5 := F5.keep Ka nin0
  replace F6 := F6.keep Ka nin0
  replace F7 := F7.keep Ka nin0
  replace F8 := F8.keep Ka nin0
  replace F9 := F9.keep Ka nin0
  replace F10 := F10.keep Ka nin0
  replace F11 := F11.keep Ka nin0
  replace F12 := F12.keep Ka nin0
  refine r_putfield (pc' := 20) (host := "") ok rfl d68_17 (Or.inl (hw _ (List.mem_of_getElem? (i := 234) rfl))) Via.refl (Or.inr ⟨(hw _ (List.mem_of_getElem? (i := 235) rfl)), rfl, rfl⟩) (hw _ (List.mem_of_getElem? (i := 210) rfl)) F2 (E31.keep Ka) g (ty := (.object "java/util/Map")) (by decide) rfl rfl ?_
  intro h32 W32 F32 E32
  replace F31 := F31.other W32 (Or.inr (slot_ne (Or.inl (hw _ (List.mem_of_getElem? (i := 217) rfl))) (Or.inr (hw _ (List.mem_of_getElem? (i := 235) rfl))) (by decide) (t := .int) (t' := (.object "java/util/Map")) (by decide) (by decide)))
  replace F3 := F3.other W32 (Or.inr (slot_ne (Or.inr (hw _ (List.mem_of_getElem? (i := 259) rfl))) (Or.inr (hw _ (List.mem_of_getElem? (i := 235) rfl))) (by decide) (t := (.object "java/util/BitSet")) (t' := (.object "java/util/Map")) (by decide) (by decide)))
  replace F4 := F4.other W32 (Or.inr (slot_ne (Or.inr (hw _ (List.mem_of_getElem? (i := 261) rfl))) (Or.inr (hw _ (List.mem_of_getElem? (i := 235) rfl))) (by decide) (t := (.object "java/util/Optional")) (t' := (.object "java/util/Map")) (by decide) (by decide)))
  replace F5 := F5.other W32 (Or.inr (slot_ne (Or.inr (hw _ (List.mem_of_getElem? (i := 333) rfl))) (Or.inr (hw _ (List.mem_of_getElem? (i := 235) rfl))) (by decide) (t := .boolean) (t' := (.object "java/util/Map")) (by decide) (by decide)))
  replace F6 := F6.other W32 (Or.inr (slot_ne (Or.inl (hw _ (List.mem_of_getElem? (i := 396) rfl))) (Or.inr (hw _ (List.mem_of_getElem? (i := 235) rfl))) (by decide) (t := .boolean) (t' := (.object "java/util/Map")) (by decide) (by decide)))
  replace F7 := F7.other W32 (Or.inr (slot_ne (Or.inl (hw _ (List.mem_of_getElem? (i := 411) rfl))) (Or.inr (hw _ (List.mem_of_getElem? (i := 235) rfl))) (by decide) (t := .long) (t' := (.object "java/util/Map")) (by decide) (by decide)))
  replace F8 := F8.other W32 (Or.inr (slot_ne (Or.inl (hw _ (List.mem_of_getElem? (i := 413) rfl))) (Or.inr (hw _ (List.mem_of_getElem? (i := 235) rfl))) (by decide) (t := .long) (t' := (.object "java/util/Map")) (by decide) (by decide)))
  replace F9 := F9.other W32 (Or.inr (slot_ne (Or.inl (hw _ (List.mem_of_getElem? (i := 415) rfl))) (Or.inr (hw _ (List.mem_of_getElem? (i := 235) rfl))) (by decide) (t := .long) (t' := (.object "java/util/Map")) (by decide) (by decide)))
  replace F10 := F10.other W32 (Or.inr (slot_ne (Or.inl (hw _ (List.mem_of_getElem? (i := 417) rfl))) (Or.inr (hw _ (List.mem_of_getElem? (i := 235) rfl))) (by decide) (t := .long) (t' := (.object "java/util/Map")) (by decide) (by decide)))
  replace F11 := F11.other W32 (Or.inr (slot_ne (Or.inl (hw _ (List.mem_of_getElem? (i := 525) rfl))) (Or.inr (hw _ (List.mem_of_getElem? (i := 235) rfl))) (by decide) (t := .boolean) (t' := (.object "java/util/Map")) (by decide) (by decide)))
  replace F12 := F12.other W32 (Or.inr (slot_ne (Or.inl (hw _ (List.mem_of_getElem? (i := 419) rfl))) (Or.inr (hw _ (List.mem_of_getElem? (i := 235) rfl))) (by decide) (t := .long) (t' := (.object "java/util/Map")) (by decide) (by decide)))
  have K32 : Keep h0 h32 [a] := (K31.trans Ka (fun x hx => nomatch hx)).wr W32 (Or.inl m)
  have M32 := M3.keep (Keep.of_wr W32) (nin2 n2)
  refine r_aloadN (pc' := 21) ok rfl d68_20 rfl rfl ?_
  refine r_new (pc' := 24) ok rfl d68_21 (hw _ (List.mem_of_getElem? (i := 236) rfl)) (hw _ (List.mem_of_getElem? (i := 237) rfl)) (hw _ (List.mem_of_getElem? (i := 238) rfl)) (by decide) (by decide) ?_
  intro h4 b4 g4 z4 E4 A4 D4
  have G3 := D4 (Or.inl (hw _ (List.mem_of_getElem? (i := 244) rfl))) (ty := .int) (by decide)
  have G4 := D4 (Or.inl (hw _ (List.mem_of_getElem? (i := 246) rfl))) (ty := .boolean) (by decide)
  have G5 := D4 (Or.inl (hw _ (List.mem_of_getElem? (i := 257) rfl))) (ty := (.array .long)) (by decide)
  refine r_dup (pc' := 25) ok rfl d68_24 rfl ?_
  refine r_special (pc' := 28) ok rfl d68_25 rfl (hw _ (List.mem_of_getElem? (i := 239) rfl)) (hw _ (List.mem_of_getElem? (i := 240) rfl)) (hw _ (List.mem_of_getElem? (i := 241) rfl)) (by decide) pd_0 (Con.pay (W := 2) (rmBS l Z a0 hw b4 _ _ _ h4 ⟨A4, G3, G4, G5⟩ z4) EW.nil (hw _ (List.mem_of_getElem? (i := 241) rfl)) (hw _ (List.mem_of_getElem? (i := 238) rfl)) (by decide) (by decide)) (fun q => nomatch q) (Or.inl rfl) rfl (argsL := []) (rest := [(.ref b4), (.ref a)]) rfl rfl rfl (Nat.le_of_ble_eq_true rfl) (by decide) (by decide) (cU fun h5 q5 le5 => ?_)
  have Kb : Keep h32 h5 [] := ((Keep.refl h32 []).ext E4).trans q5 (fun x hx => by cases List.mem_singleton.mp hx; exact Or.inr (Nat.le_of_eq g4.symm))
  replace F31 := F31.keep Kb nin0
  replace F32 := F32.keep Kb nin0
  replace F3 := F3.keep Kb nin0
  replace F4 := F4.keep Kb nin0
  replace F5 := F5.keep Kb nin0
  replace F6 := F6.keep Kb nin0
  replace F7 := F7.keep Kb nin0
  replace F8 := F8.keep Kb nin0
  replace F9 := F9.keep Kb nin0
  replace F10 := F10.keep Kb nin0
  replace F11 := F11.keep Kb nin0
  replace F12 := F12.keep Kb nin0
  refine r_putfield (pc' := 31) (host := "") ok rfl d68_28 (Or.inl (hw _ (List.mem_of_getElem? (i := 258) rfl))) Via.refl (Or.inr ⟨(hw _ (List.mem_of_getElem? (i := 259) rfl)), rfl, rfl⟩) (hw _ (List.mem_of_getElem? (i := 210) rfl)) F3 (E32.keep Kb) g (ty := (.object "java/util/BitSet")) (by decide) rfl rfl ?_
  intro h33 W33 F33 E33
  replace F31 := F31.other W33 (Or.inr (slot_ne (Or.inl (hw _ (List.mem_of_getElem? (i := 217) rfl))) (Or.inr (hw _ (List.mem_of_getElem? (i := 259) rfl))) (by decide) (t := .int) (t' := (.object "java/util/BitSet")) (by decide) (by decide)))
  replace F32 := F32.other W33 (Or.inr (slot_ne (Or.inr (hw _ (List.mem_of_getElem? (i := 235) rfl))) (Or.inr (hw _ (List.mem_of_getElem? (i := 259) rfl))) (by decide) (t := (.object "java/util/Map")) (t' := (.object "java/util/BitSet")) (by decide) (by decide)))
  replace F4 := F4.other W33 (Or.inr (slot_ne (Or.inr (hw _ (List.mem_of_getElem? (i := 261) rfl))) (Or.inr (hw _ (List.mem_of_getElem? (i := 259) rfl))) (by decide) (t := (.object "java/util/Optional")) (t' := (.object "java/util/BitSet")) (by decide) (by decide)))
  replace F5 := F5.other W33 (Or.inr (slot_ne (Or.inr (hw _ (List.mem_of_getElem? (i := 333) rfl))) (Or.inr (hw _ (List.mem_of_getElem? (i := 259) rfl))) (by decide) (t := .boolean) (t' := (.object "java/util/BitSet")) (by decide) (by decide)))
  replace F6 := F6.other W33 (Or.inr (slot_ne (Or.inl (hw _ (List.mem_of_getElem? (i := 396) rfl))) (Or.inr (hw _ (List.mem_of_getElem? (i := 259) rfl))) (by decide) (t := .boolean) (t' := (.object "java/util/BitSet")) (by decide) (by decide)))
  replace F7 := F7.other W33 (Or.inr (slot_ne (Or.inl (hw _ (List.mem_of_getElem? (i := 411) rfl))) (Or.inr (hw _ (List.mem_of_getElem? (i := 259) rfl))) (by decide) (t := .long) (t' := (.object "java/util/BitSet")) (by decide) (by decide)))
  replace F8 := F8.other W33 (Or.inr (slot_ne (Or.inl (hw _ (List.mem_of_getElem? (i := 413) rfl))) (Or.inr (hw _ (List.mem_of_getElem? (i := 259) rfl))) (by decide) (t := .long) (t' := (.object "java/util/BitSet")) (by decide) (by decide)))
  replace F9 := F9.other W33 (Or.inr (slot_ne (Or.inl (hw _ (List.mem_of_getElem? (i := 415) rfl))) (Or.inr (hw _ (List.mem_of_getElem? (i := 259) rfl))) (by decide) (t := .long) (t' := (.object "java/util/BitSet")) (by decide) (by decide)))
  replace F10 := F10.other W33 (Or.inr (slot_ne (Or.inl (hw _ (List.mem_of_getElem? (i := 417) rfl))) (Or.inr (hw _ (List.mem_of_getElem? (i := 259) rfl))) (by decide) (t := .long) (t' := (.object "java/util/BitSet")) (by decide) (by decide)))
  replace F11 := F11.other W33 (Or.inr (slot_ne (Or.inl (hw _ (List.mem_of_getElem? (i := 525) rfl))) (Or.inr (hw _ (List.mem_of_getElem? (i := 259) rfl))) (by decide) (t := .boolean) (t' := (.object "java/util/BitSet")) (by decide) (by decide)))
  replace F12 := F12.other W33 (Or.inr (slot_ne (Or.inl (hw _ (List.mem_of_getElem? (i := 419) rfl))) (Or.inr (hw _ (List.mem_of_getElem? (i := 259) rfl))) (by decide) (t := .long) (t' := (.object "java/util/BitSet")) (by decide) (by decide)))
  refine r_aloadN (pc' := 32) ok rfl d68_31 rfl rfl ?_
  refine r_aloadN (pc' := 33) ok rfl d68_32 rfl rfl ?_
  refine r_putfield (pc' := 36) (host := "") ok rfl d68_33 (Or.inl (hw _ (List.mem_of_getElem? (i := 260) rfl))) Via.refl (Or.inr ⟨(hw _ (List.mem_of_getElem? (i := 261) rfl)), rfl, rfl⟩) (hw _ (List.mem_of_getElem? (i := 210) rfl)) F4 E33 g (ty := (.object "java/util/Optional")) (by decide) rfl rfl ?_
  intro h34 W34 F34 E34
  replace F31 := F31.other W34 (Or.inr (slot_ne (Or.inl (hw _ (List.mem_of_getElem? (i := 217) rfl))) (Or.inr (hw _ (List.mem_of_getElem? (i := 261) rfl))) (by decide) (t := .int) (t' := (.object "java/util/Optional")) (by decide) (by decide)))
  replace F32 := F32.other W34 (Or.inr (slot_ne (Or.inr (hw _ (List.mem_of_getElem? (i := 235) rfl))) (Or.inr (hw _ (List.mem_of_getElem? (i := 261) rfl))) (by decide) (t := (.object "java/util/Map")) (t' := (.object "java/util/Optional")) (by decide) (by decide)))
  replace F33 := F33.other W34 (Or.inr (slot_ne (Or.inr (hw _ (List.mem_of_getElem? (i := 259) rfl))) (Or.inr (hw _ (List.mem_of_getElem? (i := 261) rfl))) (by decide) (t := (.object "java/util/BitSet")) (t' := (.object "java/util/Optional")) (by decide) (by decide)))
  replace F5 := F5.other W34 (Or.inr (slot_ne (Or.inr (hw _ (List.mem_of_getElem? (i := 333) rfl))) (Or.inr (hw _ (List.mem_of_getElem? (i := 261) rfl))) (by decide) (t := .boolean) (t' := (.object "java/util/Optional")) (by decide) (by decide)))
  replace F6 := F6.other W34 (Or.inr (slot_ne (Or.inl (hw _ (List.mem_of_getElem? (i := 396) rfl))) (Or.inr (hw _ (List.mem_of_getElem? (i := 261) rfl))) (by decide) (t := .boolean) (t' := (.object "java/util/Optional")) (by decide) (by decide)))
  replace F7 := F7.other W34 (Or.inr (slot_ne (Or.inl (hw _ (List.mem_of_getElem? (i := 411) rfl))) (Or.inr (hw _ (List.mem_of_getElem? (i := 261) rfl))) (by decide) (t := .long) (t' := (.object "java/util/Optional")) (by decide) (by decide)))
  replace F8 := F8.other W34 (Or.inr (slot_ne (Or.inl (hw _ (List.mem_of_getElem? (i := 413) rfl))) (Or.inr (hw _ (List.mem_of_getElem? (i := 261) rfl))) (by decide) (t := .long) (t' := (.object "java/util/Optional")) (by decide) (by decide)))
  replace F9 := F9.other W34 (Or.inr (slot_ne (Or.inl (hw _ (List.mem_of_getElem? (i := 415) rfl))) (Or.inr (hw _ (List.mem_of_getElem? (i := 261) rfl))) (by decide) (t := .long) (t' := (.object "java/util/Optional")) (by decide) (by decide)))
  replace F10 := F10.other W34 (Or.inr (slot_ne (Or.inl (hw _ (List.mem_of_getElem? (i := 417) rfl))) (Or.inr (hw _ (List.mem_of_getElem? (i := 261) rfl))) (by decide) (t := .long) (t' := (.object "java/util/Optional")) (by decide) (by decide)))
  replace F11 := F11.other W34 (Or.inr (slot_ne (Or.inl (hw _ (List.mem_of_getElem? (i := 525) rfl))) (Or.inr (hw _ (List.mem_of_getElem? (i := 261) rfl))) (by decide) (t := .boolean) (t' := (.object "java/util/Optional")) (by decide) (by decide)))
  replace F12 := F12.other W34 (Or.inr (slot_ne (Or.inl (hw _ (List.mem_of_getElem? (i := 419) rfl))) (Or.inr (hw _ (List.mem_of_getElem? (i := 261) rfl))) (by decide) (t := .long) (t' := (.object "java/util/Optional")) (by decide) (by decide)))
  have K34 : Keep h0 h34 [a] := ((K32.trans Kb (fun x hx => nomatch hx)).wr W33 (Or.inl m)).wr W34 (Or.inl m)
  have M34 := ((M32.keep Kb nin0).keep (Keep.of_wr W33) (nin2 n2)).keep (Keep.of_wr W34) (nin2 n2)
  have O34 := O.keep K34 (nin1 lo)
  have L34 := Y.1.keep K34 (nin1 lb)
  refine r_old fun X34 => ?_
  refine r_aloadN (pc' := 37) ok rfl d68_36 rfl rfl ?_
  refine r_aloadN (pc' := 38) ok rfl d68_37 rfl rfl ?_
  refine r_indyC (pc' := 43) (σ := sg1) ok hN rfl d68_38 (hw _ (List.mem_of_getElem? (i := 262) rfl)) rfl rfl (Nat.le_of_ble_eq_true rfl) ?_
  intro f cK hM hA
  refine r_virtual (pc' := 46) ok rfl d68_43 (hw _ (List.mem_of_getElem? (i := 265) rfl)) (hw _ (List.mem_of_getElem? (i := 266) rfl)) (hw _ (List.mem_of_getElem? (i := 268) rfl)) (hw _ (List.mem_of_getElem? (i := 267) rfl)) (nf_sel (C := "java/util/Optional") (z := (⟨"java/util/Optional", "map", "(Ljava/util/function/Function;)Ljava/util/Optional;"⟩ : MethodName)) (hw _ (List.mem_of_getElem? (i := 268) rfl))) O34.exa (by decide) pd_23 (Con.pay (W := 1) (rmMap l Z a0 hw c4 o b f oe cK (fun r => r = bf) h34 O34 (own_fn1 hw hM) hA (fun _ => pay1 l Z a0 hw b el ea ca bf f cc k cK dv _ _ _ _ _ h34 hM L34 (E.ext X34) (Fn.ext X34) (F.ext X34) (V.ext X34) ST SH SC B SF) SO (Oe.ext X34)) EW.nil (hw _ (List.mem_of_getElem? (i := 269) rfl)) (hw _ (List.mem_of_getElem? (i := 197) rfl)) (by decide) (by decide)) (fun q => nomatch q) (Or.inl rfl) rfl (argsL := [(.ref f)]) (rest := [(.ref a)]) rfl rfl rfl (Nat.le_of_ble_eq_true rfl) (by decide) (by decide) (cV fun x6 h6 q6 le6 => ?_)
  obtain ⟨om, rfl, K6, O6⟩ := q6
  refine r_iconstV (pc' := 47) ok rfl (0 : Int32) d68_46 rfl ?_
  refine r_static (pc' := 50) ok rfl d68_47 (hw _ (List.mem_of_getElem? (i := 317) rfl)) (hw _ (List.mem_of_getElem? (i := 310) rfl)) (hw _ (List.mem_of_getElem? (i := 311) rfl)) (hw _ (List.mem_of_getElem? (i := 312) rfl)) (by decide) pd_26 (Con.pay (W := 2) (rmBv l Z a0 hw bf h6 SF) EW.nil (hw _ (List.mem_of_getElem? (i := 312) rfl)) (hw _ (List.mem_of_getElem? (i := 311) rfl)) (by decide) (by decide)) (fun q => nomatch q) (Or.inl rfl) rfl (argsL := [.int _]) (rest := [(.ref om), (.ref a)]) rfl rfl rfl (Nat.le_of_ble_eq_true rfl) (by decide) (by decide) (cV fun x7 h7 q7 le7 => ?_)
  obtain ⟨rfl, rfl⟩ := q7
  refine r_virtual (pc' := 53) ok rfl d68_50 (hw _ (List.mem_of_getElem? (i := 318) rfl)) (hw _ (List.mem_of_getElem? (i := 319) rfl)) (hw _ (List.mem_of_getElem? (i := 321) rfl)) (hw _ (List.mem_of_getElem? (i := 320) rfl)) (nf_sel (C := "java/util/Optional") (z := (⟨"java/util/Optional", "orElse", "(Ljava/lang/Object;)Ljava/lang/Object;"⟩ : MethodName)) (hw _ (List.mem_of_getElem? (i := 321) rfl))) O6.exa (by decide) pd_18 (Con.pay (W := 1) (rmOr l Z a0 hw c4 om bf _ h6 O6 (fun _ => rfl)) EW.nil (hw _ (List.mem_of_getElem? (i := 322) rfl)) (hw _ (List.mem_of_getElem? (i := 197) rfl)) (by decide) (by decide)) (fun q => nomatch q) (Or.inl rfl) rfl (argsL := [(.ref bf)]) (rest := [(.ref a)]) rfl rfl rfl (Nat.le_of_ble_eq_true rfl) (by decide) (by decide) (cV fun x8 h8 q8 le8 => ?_)
  obtain ⟨r, rfl, rfl, rfl⟩ := q8
  refine r_old fun X8 => ?_
  refine r_checkcast (pc' := 56) ok rfl d68_53 (hw _ (List.mem_of_getElem? (i := 323) rfl)) (Ins.of_exa (EB.ext X8) (hw _ (List.mem_of_getElem? (i := 324) rfl))) ?_
  refine r_virtual (pc' := 59) ok rfl d68_56 (hw _ (List.mem_of_getElem? (i := 325) rfl)) (hw _ (List.mem_of_getElem? (i := 326) rfl)) (hw _ (List.mem_of_getElem? (i := 328) rfl)) (hw _ (List.mem_of_getElem? (i := 327) rfl)) (nf_sel (C := "java/lang/Boolean") (z := (⟨"java/lang/Boolean", "booleanValue", "()Z"⟩ : MethodName)) (hw _ (List.mem_of_getElem? (i := 328) rfl))) (EB.ext X8) (by decide) pd_11 (Con.pay (W := 1) (rmBb l Z a0 hw r h6 (FB.ext X8)) EW.nil (hw _ (List.mem_of_getElem? (i := 329) rfl)) (hw _ (List.mem_of_getElem? (i := 311) rfl)) (by decide) (by decide)) (fun q => nomatch q) (Or.inl rfl) rfl (argsL := []) (rest := [(.ref a)]) rfl rfl rfl (Nat.le_of_ble_eq_true rfl) (by decide) (by decide) (cV fun x9 h9 q9 le9 => ?_)
  obtain ⟨rfl, rfl⟩ := q9
  replace F31 := F31.keep K6 nin0
  replace F32 := F32.keep K6 nin0
  replace F33 := F33.keep K6 nin0
  replace F34 := F34.keep K6 nin0
  replace F5 := F5.keep K6 nin0
  replace F6 := F6.keep K6 nin0
  replace F7 := F7.keep K6 nin0
  replace F8 := F8.keep K6 nin0
  replace F9 := F9.keep K6 nin0
  replace F10 := F10.keep K6 nin0
  replace F11 := F11.keep K6 nin0
  replace F12 := F12.keep K6 nin0
  refine r_putfieldN (pc' := 62) ok rfl d68_59 (hw _ (List.mem_of_getElem? (i := 332) rfl)) Via.refl (Or.inr ⟨(hw _ (List.mem_of_getElem? (i := 333) rfl)), rfl, rfl⟩) (hw _ (List.mem_of_getElem? (i := 210) rfl)) F5 (E34.keep K6) g (ty := .boolean) (by decide) rfl (by decide) ?_
  intro h35 W35 F35 E35
  replace F31 := F31.other W35 (Or.inr (slot_ne (Or.inl (hw _ (List.mem_of_getElem? (i := 217) rfl))) (Or.inr (hw _ (List.mem_of_getElem? (i := 333) rfl))) (by decide) (t := .int) (t' := .boolean) (by decide) (by decide)))
  replace F32 := F32.other W35 (Or.inr (slot_ne (Or.inr (hw _ (List.mem_of_getElem? (i := 235) rfl))) (Or.inr (hw _ (List.mem_of_getElem? (i := 333) rfl))) (by decide) (t := (.object "java/util/Map")) (t' := .boolean) (by decide) (by decide)))
  replace F33 := F33.other W35 (Or.inr (slot_ne (Or.inr (hw _ (List.mem_of_getElem? (i := 259) rfl))) (Or.inr (hw _ (List.mem_of_getElem? (i := 333) rfl))) (by decide) (t := (.object "java/util/BitSet")) (t' := .boolean) (by decide) (by decide)))
  replace F34 := F34.other W35 (Or.inr (slot_ne (Or.inr (hw _ (List.mem_of_getElem? (i := 261) rfl))) (Or.inr (hw _ (List.mem_of_getElem? (i := 333) rfl))) (by decide) (t := (.object "java/util/Optional")) (t' := .boolean) (by decide) (by decide)))
  replace F6 := F6.other W35 (Or.inr (slot_ne (Or.inl (hw _ (List.mem_of_getElem? (i := 396) rfl))) (Or.inr (hw _ (List.mem_of_getElem? (i := 333) rfl))) (by decide) (t := .boolean) (t' := .boolean) (by decide) (by decide)))
  replace F7 := F7.other W35 (Or.inr (slot_ne (Or.inl (hw _ (List.mem_of_getElem? (i := 411) rfl))) (Or.inr (hw _ (List.mem_of_getElem? (i := 333) rfl))) (by decide) (t := .long) (t' := .boolean) (by decide) (by decide)))
  replace F8 := F8.other W35 (Or.inr (slot_ne (Or.inl (hw _ (List.mem_of_getElem? (i := 413) rfl))) (Or.inr (hw _ (List.mem_of_getElem? (i := 333) rfl))) (by decide) (t := .long) (t' := .boolean) (by decide) (by decide)))
  replace F9 := F9.other W35 (Or.inr (slot_ne (Or.inl (hw _ (List.mem_of_getElem? (i := 415) rfl))) (Or.inr (hw _ (List.mem_of_getElem? (i := 333) rfl))) (by decide) (t := .long) (t' := .boolean) (by decide) (by decide)))
  replace F10 := F10.other W35 (Or.inr (slot_ne (Or.inl (hw _ (List.mem_of_getElem? (i := 417) rfl))) (Or.inr (hw _ (List.mem_of_getElem? (i := 333) rfl))) (by decide) (t := .long) (t' := .boolean) (by decide) (by decide)))
  replace F11 := F11.other W35 (Or.inr (slot_ne (Or.inl (hw _ (List.mem_of_getElem? (i := 525) rfl))) (Or.inr (hw _ (List.mem_of_getElem? (i := 333) rfl))) (by decide) (t := .boolean) (t' := .boolean) (by decide) (by decide)))
  replace F12 := F12.other W35 (Or.inr (slot_ne (Or.inl (hw _ (List.mem_of_getElem? (i := 419) rfl))) (Or.inr (hw _ (List.mem_of_getElem? (i := 333) rfl))) (by decide) (t := .long) (t' := .boolean) (by decide) (by decide)))
  refine r_return ok d68_62 ?_ (by decide) (by decide)
  exact ⟨(K34.trans K6 (fun x hx => nomatch hx)).wr W35 (Or.inl m), b2, _, v3, s2, (M34.keep K6 nin0).keep (Keep.of_wr W35) (nin2 n2), E35, F31, F32, F33, F34, F35, F6, F7, F8, F9, F10, F11, F12⟩
theorem ALs.keep {Z : State} {h h' : Heap} {r : Addr} {v1 v2 v3 : Value} {ws : List Addr} (A : ALs Z h r v1 v2 v3) (K : Keep h h' ws) (q : r ∉ ws) : ALs Z h' r v1 v2 v3 := ⟨A.1.keep K, A.2.1.keep K q, A.2.2.1.keep K q, A.2.2.2.keep K q⟩
theorem own_lcmp {x y : Int64} (e : y = x) : lcmpW x y = 0 := by
  subst e; simp [lcmpW]
set_option maxRecDepth 65536 in
set_option maxHeartbeats 4000000 in
theorem rm0 (l : Launch) (Z : State) (a0 : Array Value) (hw : ∀ d ∈ tables_1, d.before a0 Z = true) (p1 p2 p3 p4 : Int32) (el ea em ca oe bf de mr : Addr) (cc : Cell) (k kd : ClassId) (dv dd : Value) (SE : Sta Z Z.heap "java/util/ImmutableCollections" "EMPTY_LIST" "Ljava/util/ImmutableCollections$ListN;" (.ref el)) (E : Exa Z Z.heap el LN) (Fn : Fld Z Z.heap el LN "allowNulls" "Z" (.int 0)) (F : Fld Z Z.heap el LN "elements" OA (.ref ea)) (V : Arv Z Z.heap ea k (.object "java/lang/Object") 0 [] dv)
    (SM : Sta Z Z.heap "java/util/ImmutableCollections" "EMPTY" LO (.ref em)) (SH : Sta Z Z.heap IC "high" "I" (.int 127)) (SC : Sta Z Z.heap IC "cache" "[Ljava/lang/Integer;" (.ref ca)) (B : Bxs Z ca cc IN "I" 256 (fun j => .int (j - 128))) (SO : Sta Z Z.heap OP "EMPTY" "Ljava/util/Optional;" (.ref oe)) (Oe : OPs Z Z.heap oe .null) (SF : Sta Z Z.heap "java/lang/Boolean" "FALSE" "Ljava/lang/Boolean;" (.ref bf)) (EB : Exa Z Z.heap bf BO) (FB : Fld Z Z.heap bf BO "value" "Z" (.int 0))
    (SD : Sta Z Z.heap AL "DEFAULTCAPACITY_EMPTY_ELEMENTDATA" OA (.ref de)) (D : Arv Z Z.heap de kd (.object "java/lang/Object") 0 [] dd) (M : Mir Z OA mr) (ST : Sta Z Z.heap CLy "TIMER0_SLOT" "I" (.int 11)) :
    Con l Z [] tables_1 true x code maxLocals ret room_1 #[.int p1, .int p2, .int p3, .int p4] Z.heap (rV fun v _ => v = .int 1) := by
  refine body (ls := #[.val (.int p1), .val (.int p2), .val (.int p3), .val (.int p4), .unset, .unset, .unset, .unset, .unset, .unset, .unset, .unset, .unset, .unset, .unset, .unset, .unset, .unset, .unset, .unset, .unset]) (plainFor_of_name pn_23) (fun m => by first | (simp [entryFrame, mkF, argsToLocals, Value.category, maxLocals]; done) | rfl) fun K ok => ?_
  have J37 : ∀ c4 c5 z : Int32, Run Z K Cln Z.heap 0 0 37 #[.val (.int p1), .val (.int p2), .val (.int p3), .val (.int p4), .val (.int c4), .val (.int c5), .unset, .unset, .unset, .unset, .unset, .unset, .unset, .unset, .unset, .unset, .unset, .unset, .unset, .unset, .unset] [.int z] := by
    intro c4 c5 z
    refine r_istore (pc' := 39) (ls' := fun z => #[.val (.int p1), .val (.int p2), .val (.int p3), .val (.int p4), .val (.int c4), .val (.int c5), .val (.int z), .unset, .unset, .unset, .unset, .unset, .unset, .unset, .unset, .unset, .unset, .unset, .unset, .unset, .unset]) ok rfl at_37 (fun _ => rfl) ?_
    intro v37 ev37
    refine r_new (pc' := 42) ok rfl at_39 (hw _ (List.mem_of_getElem? (i := 0) rfl)) (hw _ (List.mem_of_getElem? (i := 1) rfl)) (hw _ (List.mem_of_getElem? (i := 2) rfl)) (by decide) (by decide) ?_
    intro h1 b1 g1 z1 E1 A1 D1
    have G1 := D1 (Or.inl (hw _ (List.mem_of_getElem? (i := 22) rfl))) (ty := .int) (by decide)
    have G2 := D1 (Or.inl (hw _ (List.mem_of_getElem? (i := 25) rfl))) (ty := (.array (.object "java/lang/Object"))) (by decide)
    have G3 := D1 (Or.inl (hw _ (List.mem_of_getElem? (i := 52) rfl))) (ty := .int) (by decide)
    refine r_dup (pc' := 43) ok rfl at_42 rfl ?_
    refine r_special (pc' := 46) ok rfl at_43 rfl (hw _ (List.mem_of_getElem? (i := 3) rfl)) (hw _ (List.mem_of_getElem? (i := 4) rfl)) (hw _ (List.mem_of_getElem? (i := 5) rfl)) (by decide) pd_0 (Con.pay (W := 1) (rmAL l Z a0 hw b1 de _ _ _ h1 ⟨A1, G1, G2, G3⟩ z1 SD) EW.nil (hw _ (List.mem_of_getElem? (i := 5) rfl)) (hw _ (List.mem_of_getElem? (i := 2) rfl)) (by decide) (by decide)) (fun q => nomatch q) (Or.inl rfl) rfl (argsL := []) (rest := [(.ref b1)]) rfl rfl rfl (Nat.le_of_ble_eq_true rfl) (by decide) (by decide) (cU fun h2 q2 le2 => ?_)
    obtain ⟨K2, AL2⟩ := q2
    refine r_astore (pc' := 48) (ls' := #[.val (.int p1), .val (.int p2), .val (.int p3), .val (.int p4), .val (.int c4), .val (.int c5), .val (.int v37), .val (.ref b1), .unset, .unset, .unset, .unset, .unset, .unset, .unset, .unset, .unset, .unset, .unset, .unset, .unset]) ok rfl at_46 rfl rfl ?_
    refine r_aload (pc' := 50) ok rfl at_48 rfl rfl ?_
    refine r_new (pc' := 53) ok rfl at_50 (hw _ (List.mem_of_getElem? (i := 26) rfl)) (hw _ (List.mem_of_getElem? (i := 27) rfl)) (hw _ (List.mem_of_getElem? (i := 28) rfl)) (by decide) (by decide) ?_
    intro h3 b3 g3 z3 E3 A3 D3
    have G4 := D3 (Or.inr (hw _ (List.mem_of_getElem? (i := 39) rfl))) (ty := .int) (by decide)
    have G5 := D3 (Or.inr (hw _ (List.mem_of_getElem? (i := 41) rfl))) (ty := .int) (by decide)
    have G6 := D3 (Or.inr (hw _ (List.mem_of_getElem? (i := 43) rfl))) (ty := .int) (by decide)
    refine r_dup (pc' := 54) ok rfl at_53 rfl ?_
    refine r_sipushV (pc' := 57) ok rfl (512 : Int32) at_54 rfl ?_
    refine r_sipushV (pc' := 60) ok rfl (4096 : Int32) at_57 rfl ?_
    refine r_sipushV (pc' := 63) ok rfl (4351 : Int32) at_60 rfl ?_
    refine r_special (pc' := 66) ok rfl at_63 rfl (hw _ (List.mem_of_getElem? (i := 29) rfl)) (hw _ (List.mem_of_getElem? (i := 30) rfl)) (hw _ (List.mem_of_getElem? (i := 31) rfl)) (by decide) pd_1 (Con.pay (W := 2) (rmTk l Z a0 hw b3 512 4096 4351 _ _ _ h3 ⟨A3, G4, G5, G6⟩ z3) EW.nil (hw _ (List.mem_of_getElem? (i := 31) rfl)) (hw _ (List.mem_of_getElem? (i := 28) rfl)) (by decide) (by decide)) (fun q => nomatch q) (Or.inl rfl) rfl (argsL := [.int _, .int _, .int _]) (rest := [(.ref b3), (.ref b1)]) rfl rfl rfl (Nat.le_of_ble_eq_true rfl) (by decide) (by decide) (cU fun h4 q4 le4 => ?_)
    obtain ⟨K4, T4⟩ := q4
    have l13 : b1 < b3 := by rw [g3]; exact AL2.1.lt
    have AL4 : ALs Z h4 b1 (.int 0) (.ref de) (.int 0) := (AL2.keep ((Keep.refl h2 []).ext E3) nin0).keep K4 (nin1 l13)
    refine r_virtual (pc' := 69) ok rfl at_66 (hw _ (List.mem_of_getElem? (i := 44) rfl)) (hw _ (List.mem_of_getElem? (i := 45) rfl)) (hw _ (List.mem_of_getElem? (i := 47) rfl)) (hw _ (List.mem_of_getElem? (i := 46) rfl)) (nf_sel (C := "java/util/ArrayList") (z := (⟨"java/util/ArrayList", "add", "(Ljava/lang/Object;)Z"⟩ : MethodName)) (hw _ (List.mem_of_getElem? (i := 47) rfl))) AL4.1 (by decide) pd_2 (Con.pay (W := 0) (rmAdd l Z a0 hw b1 b3 de kd dd h4 AL4 z1 SD D T4.1) EW.nil (hw _ (List.mem_of_getElem? (i := 48) rfl)) (hw _ (List.mem_of_getElem? (i := 2) rfl)) (by decide) (by decide)) (fun q => nomatch q) (Or.inl rfl) rfl (argsL := [(.ref b3)]) (rest := []) rfl rfl rfl (Nat.le_of_ble_eq_true rfl) (by decide) (by decide) (cV fun x5 h5 q5 le5 => ?_)
    obtain ⟨⟨n5, rfl⟩, bb, kb, eb, gb, O5, K5, AL5, V5, X5⟩ := q5
    have T5 := T4.keep K5 (nin2 l13)
    refine r_pop (pc' := 70) ok rfl at_69 rfl ?_
    refine r_new (pc' := 73) ok rfl at_70 (hw _ (List.mem_of_getElem? (i := 75) rfl)) (hw _ (List.mem_of_getElem? (i := 76) rfl)) (hw _ (List.mem_of_getElem? (i := 77) rfl)) (by decide) (by decide) ?_
    intro h6 b6 g6 z6 E6 A6 D6
    have H1 := D6 (Or.inr (hw _ (List.mem_of_getElem? (i := 184) rfl))) (ty := .int) (by decide)
    have H2 := D6 (Or.inr (hw _ (List.mem_of_getElem? (i := 186) rfl))) (ty := .int) (by decide)
    have H3 := D6 (Or.inr (hw _ (List.mem_of_getElem? (i := 188) rfl))) (ty := (.object "java/util/List")) (by decide)
    have H4 := D6 (Or.inr (hw _ (List.mem_of_getElem? (i := 190) rfl))) (ty := .int) (by decide)
    have H5 := D6 (Or.inr (hw _ (List.mem_of_getElem? (i := 192) rfl))) (ty := .int) (by decide)
    have H6 := D6 (Or.inr (hw _ (List.mem_of_getElem? (i := 194) rfl))) (ty := (.object "java/util/List")) (by decide)
    refine r_dup (pc' := 74) ok rfl at_73 rfl ?_
    refine r_sipushV (pc' := 77) ok rfl (256 : Int32) at_74 rfl ?_
    refine r_bipushV (pc' := 79) ok rfl (16 : Int32) at_77 rfl ?_
    refine r_iconstV (pc' := 80) ok rfl (0 : Int32) at_79 rfl ?_
    refine r_aload (pc' := 82) ok rfl at_80 rfl rfl ?_
    have T6 := T5.keep ((Keep.refl h5 []).ext E6) nin0
    have l36 : b3 < b6 := by rw [g6]; exact T5.1.lt
    refine r_old fun Y6 => ?_
    refine r_special (pc' := 85) ok rfl at_82 rfl (hw _ (List.mem_of_getElem? (i := 78) rfl)) (hw _ (List.mem_of_getElem? (i := 79) rfl)) (hw _ (List.mem_of_getElem? (i := 80) rfl)) (by decide) pd_7 (Con.pay (W := 1) (rmKL4 l Z a0 hw b6 el b1 bb b3 em mr 256 16 0 kb _ _ _ _ _ _ _ h6 ⟨A6, H1, H2, H3, H4, H5, H6⟩ z6 SE (E.ext Y6) (Fn.ext Y6) (AL5.keep ((Keep.refl h5 []).ext E6) nin0) (V5.ext E6) (X5.ext E6) T6.1 M SM) EW.nil (hw _ (List.mem_of_getElem? (i := 80) rfl)) (hw _ (List.mem_of_getElem? (i := 77) rfl)) (by decide) (by decide)) (fun q => nomatch q) (Or.inl rfl) rfl (argsL := [.int _, .int _, .int _, (.ref b1)]) (rest := [(.ref b6)]) rfl rfl rfl (Nat.le_of_ble_eq_true rfl) (by decide) (by decide) (cU fun h7 q7 le7 => ?_)
    obtain ⟨K7, t, gt, zt, L7, P7⟩ := q7
    have Y7 : LY Z h7 b6 el t b3 em := ⟨L7, P7, T6.keep K7 (nin1 l36)⟩
    refine r_astore (pc' := 87) (ls' := #[.val (.int p1), .val (.int p2), .val (.int p3), .val (.int p4), .val (.int c4), .val (.int c5), .val (.int v37), .val (.ref b1), .val (.ref b6), .unset, .unset, .unset, .unset, .unset, .unset, .unset, .unset, .unset, .unset, .unset, .unset]) ok rfl at_85 rfl rfl ?_
    have J103 : ∀ (h' : Heap) (o : Addr), KO Z h' c4 o b6 → LY Z h' b6 el t b3 em → Run Z K Cln h' 7 26 103 #[.val (.int p1), .val (.int p2), .val (.int p3), .val (.int p4), .val (.int c4), .val (.int c5), .val (.int v37), .val (.ref b1), .val (.ref b6), .unset, .unset, .unset, .unset, .unset, .unset, .unset, .unset, .unset, .unset, .unset, .unset] [.ref o] := by
      intro h8 o O Y
      refine r_astore (pc' := 105) (ls' := #[.val (.int p1), .val (.int p2), .val (.int p3), .val (.int p4), .val (.int c4), .val (.int c5), .val (.int v37), .val (.ref b1), .val (.ref b6), .val (.ref o), .unset, .unset, .unset, .unset, .unset, .unset, .unset, .unset, .unset, .unset, .unset]) ok rfl at_103 rfl rfl ?_
      refine r_new (pc' := 108) ok rfl at_105 (hw _ (List.mem_of_getElem? (i := 209) rfl)) (hw _ (List.mem_of_getElem? (i := 210) rfl)) (hw _ (List.mem_of_getElem? (i := 211) rfl)) (by decide) (by decide) ?_
      intro h9 b9 g9 z9 E9 A9 D9
      have G11 := D9 (Or.inl (hw _ (List.mem_of_getElem? (i := 217) rfl))) (ty := .int) (by decide)
      have G12 := D9 (Or.inr (hw _ (List.mem_of_getElem? (i := 235) rfl))) (ty := (.object "java/util/Map")) (by decide)
      have G13 := D9 (Or.inr (hw _ (List.mem_of_getElem? (i := 259) rfl))) (ty := (.object "java/util/BitSet")) (by decide)
      have G14 := D9 (Or.inr (hw _ (List.mem_of_getElem? (i := 261) rfl))) (ty := (.object "java/util/Optional")) (by decide)
      have G15 := D9 (Or.inr (hw _ (List.mem_of_getElem? (i := 333) rfl))) (ty := .boolean) (by decide)
      have G16 := D9 (Or.inl (hw _ (List.mem_of_getElem? (i := 396) rfl))) (ty := .boolean) (by decide)
      have G17 := D9 (Or.inl (hw _ (List.mem_of_getElem? (i := 411) rfl))) (ty := .long) (by decide)
      have G18 := D9 (Or.inl (hw _ (List.mem_of_getElem? (i := 413) rfl))) (ty := .long) (by decide)
      have G19 := D9 (Or.inl (hw _ (List.mem_of_getElem? (i := 415) rfl))) (ty := .long) (by decide)
      have G20 := D9 (Or.inl (hw _ (List.mem_of_getElem? (i := 417) rfl))) (ty := .long) (by decide)
      have G21 := D9 (Or.inl (hw _ (List.mem_of_getElem? (i := 525) rfl))) (ty := .boolean) (by decide)
      have G22 := D9 (Or.inl (hw _ (List.mem_of_getElem? (i := 419) rfl))) (ty := .long) (by decide)
      refine r_dup (pc' := 109) ok rfl at_108 rfl ?_
      refine r_aload (pc' := 111) ok rfl at_109 rfl rfl ?_
      have K9 : Keep h8 h9 [] := (Keep.refl h8 []).ext E9
      have O9 := O.keep K9 nin0
      have Y9 := Y.keep K9 nin0 nin0 nin0
      have lo : o < b9 := by rw [g9]; exact O.exa.lt
      have lb : b6 < b9 := by rw [g9]; exact Y.1.1.lt
      have lt : t < b9 := by rw [g9]; exact Y.2.1.1.lt
      have le : b3 < b9 := by rw [g9]; exact Y.2.2.1.lt
      refine r_special (pc' := 114) ok rfl at_111 rfl (hw _ (List.mem_of_getElem? (i := 212) rfl)) (hw _ (List.mem_of_getElem? (i := 213) rfl)) (hw _ (List.mem_of_getElem? (i := 214) rfl)) (by decide) pd_20 (Con.pay (W := 1) (rmKW l Z a0 hw b9 o b6 el ea t b3 em ca oe bf cc k c4 dv _ _ _ _ _ _ _ _ _ _ _ _ h9 ⟨A9, G11, G12, G13, G14, G15, G16, G17, G18, G19, G20, G21, G22⟩ z9 O9 Y9 lo lb E Fn F V ST SH SC B SO Oe SF EB FB) EW.nil (hw _ (List.mem_of_getElem? (i := 214) rfl)) (hw _ (List.mem_of_getElem? (i := 211) rfl)) (by decide) (by decide)) (fun q => nomatch q) (Or.inl rfl) rfl (argsL := [(.ref o)]) (rest := [(.ref b9)]) rfl rfl rfl (Nat.le_of_ble_eq_true rfl) (by decide) (by decide) (cU fun h10 q10 le10 => ?_)
      obtain ⟨K10, s, vf, v, gs, M10, W10'⟩ := q10
      have W10 : KWs Z h10 b9 (.int (-1)) (.ref s) vf (.ref o) (.int 0) (.int 0) (.long 0) (.long 0) (.long 0) (.long 0) (.int 0) (.long 0) := W10'
      have O10 := O9.keep K10 (nin1 lo)
      have Y10 := Y9.keep K10 (nin1 lb) (nin1 lt) (nin1 le)
      have ls : b9 < s := Nat.lt_of_lt_of_le A9.lt gs
      refine r_astore (pc' := 116) (ls' := #[.val (.int p1), .val (.int p2), .val (.int p3), .val (.int p4), .val (.int c4), .val (.int c5), .val (.int v37), .val (.ref b1), .val (.ref b6), .val (.ref o), .val (.ref b9), .unset, .unset, .unset, .unset, .unset, .unset, .unset, .unset, .unset, .unset]) ok rfl at_114 rfl rfl ?_
      have J136 : ∀ z : Int32, Run Z K Cln h10 12 51 136 #[.val (.int p1), .val (.int p2), .val (.int p3), .val (.int p4), .val (.int c4), .val (.int c5), .val (.int v37), .val (.ref b1), .val (.ref b6), .val (.ref o), .val (.ref b9), .unset, .unset, .unset, .unset, .unset, .unset, .unset, .unset, .unset, .unset] [.int z] := by
        intro z
        refine r_istore (pc' := 138) (ls' := fun z => #[.val (.int p1), .val (.int p2), .val (.int p3), .val (.int p4), .val (.int c4), .val (.int c5), .val (.int v37), .val (.ref b1), .val (.ref b6), .val (.ref o), .val (.ref b9), .val (.int z), .unset, .unset, .unset, .unset, .unset, .unset, .unset, .unset, .unset]) ok rfl at_136 (fun _ => rfl) ?_
        intro v136 ev136
        refine r_aload (pc' := 140) ok rfl at_138 rfl rfl ?_
        refine r_iload (pc' := 142) ok rfl at_140 rfl ?_
        refine r_old fun X10 => ?_
        refine r_virtual (pc' := 145) ok rfl at_142 (hw _ (List.mem_of_getElem? (i := 335) rfl)) (hw _ (List.mem_of_getElem? (i := 336) rfl)) (hw _ (List.mem_of_getElem? (i := 338) rfl)) (hw _ (List.mem_of_getElem? (i := 337) rfl)) (nf_sel (C := "com/example/stackloom/stackloom/service/KernelWatch") (z := (⟨"com/example/stackloom/stackloom/service/KernelWatch", "starting", "(I)V"⟩ : MethodName)) (hw _ (List.mem_of_getElem? (i := 338) rfl))) W10.1 (by decide) pd_21 (Con.pay (W := 0) (rmSt l Z a0 hw b9 o b6 el ea k dv c4 v136 _ _ _ _ _ _ _ _ _ _ _ h10 W10 z9 O10 Y10.1 (E.ext X10) (F.ext X10) (V.ext X10)) EW.nil (hw _ (List.mem_of_getElem? (i := 339) rfl)) (hw _ (List.mem_of_getElem? (i := 211) rfl)) (by decide) (by decide)) (fun q => nomatch q) (Or.inl rfl) rfl (argsL := [(.int v136)]) (rest := []) rfl rfl rfl (Nat.le_of_ble_eq_true rfl) (by decide) (by decide) (cU fun h11 q11 le11 => ?_)
        obtain ⟨K11, W11⟩ := q11
        generalize eu : (if c4 = 0 then 0 else inK v136) = u at W11
        refine r_aload (pc' := 147) ok rfl at_145 rfl rfl ?_
        refine r_iloadN (pc' := 148) ok rfl at_147 rfl ?_
        refine r_virtual (pc' := 151) ok rfl at_148 (hw _ (List.mem_of_getElem? (i := 397) rfl)) (hw _ (List.mem_of_getElem? (i := 398) rfl)) (hw _ (List.mem_of_getElem? (i := 400) rfl)) (hw _ (List.mem_of_getElem? (i := 399) rfl)) (nf_sel (C := "com/example/stackloom/stackloom/service/KernelWatch") (z := (⟨"com/example/stackloom/stackloom/service/KernelWatch", "executed", "(I)V"⟩ : MethodName)) (hw _ (List.mem_of_getElem? (i := 400) rfl))) W11.1 (by decide) pd_21 (Con.pay (W := 0) (rmEx l Z a0 hw b9 p1 u 0 0 0 _ _ _ _ _ _ _ _ h11 W11 z9) EW.nil (hw _ (List.mem_of_getElem? (i := 401) rfl)) (hw _ (List.mem_of_getElem? (i := 211) rfl)) (by decide) (by decide)) (fun q => nomatch q) (Or.inl rfl) rfl (argsL := [(.int p1)]) (rest := []) rfl rfl rfl (Nat.le_of_ble_eq_true rfl) (by decide) (by decide) (cU fun h12 q12 le12 => ?_)
        obtain ⟨K12, W12⟩ := q12
        generalize ec1 : (if u = 0 then (0 : Int64) else 0 + p1.toInt64) = c1 at W12
        generalize ei1 : (if u = 0 then (0 : Int64) else if (0 : Int32) = 0 then 0 + p1.toInt64 else 0) = i1 at W12
        have J168 : ∀ (h' : Heap) (vt : Value) (d : Int64) (dp : Int32), KWs Z h' b9 vt (.ref s) vf (.ref o) (.int 0) (.int u) (.long c1) (.long i1) (.long 0) (.long d) (.int dp) (.long 0) → d = (if c4 = 0 ∨ v37 = 0 then 0 else 1) → dp = (if c4 = 0 ∨ v37 = 0 then 0 else 1) → Run Z K Cln h' 16 61 168 #[.val (.int p1), .val (.int p2), .val (.int p3), .val (.int p4), .val (.int c4), .val (.int c5), .val (.int v37), .val (.ref b1), .val (.ref b6), .val (.ref o), .val (.ref b9), .val (.int v136), .unset, .unset, .unset, .unset, .unset, .unset, .unset, .unset, .unset] [] := by
          intro h13 vt d dp W13 ed edp
          refine r_aload (pc' := 170) ok rfl at_168 rfl rfl ?_
          refine r_iloadN (pc' := 171) ok rfl at_170 rfl ?_
          refine r_virtual (pc' := 174) ok rfl at_171 (hw _ (List.mem_of_getElem? (i := 397) rfl)) (hw _ (List.mem_of_getElem? (i := 398) rfl)) (hw _ (List.mem_of_getElem? (i := 400) rfl)) (hw _ (List.mem_of_getElem? (i := 399) rfl)) (nf_sel (C := "com/example/stackloom/stackloom/service/KernelWatch") (z := (⟨"com/example/stackloom/stackloom/service/KernelWatch", "executed", "(I)V"⟩ : MethodName)) (hw _ (List.mem_of_getElem? (i := 400) rfl))) W13.1 (by decide) pd_21 (Con.pay (W := 0) (rmEx l Z a0 hw b9 p2 u dp c1 i1 _ _ _ _ _ _ _ _ h13 W13 z9) EW.nil (hw _ (List.mem_of_getElem? (i := 401) rfl)) (hw _ (List.mem_of_getElem? (i := 211) rfl)) (by decide) (by decide)) (fun q => nomatch q) (Or.inl rfl) rfl (argsL := [(.int p2)]) (rest := []) rfl rfl rfl (Nat.le_of_ble_eq_true rfl) (by decide) (by decide) (cU fun h14 q14 le14 => ?_)
          obtain ⟨K14, W14⟩ := q14
          generalize ec2 : (if u = 0 then c1 else c1 + p2.toInt64) = c2 at W14
          generalize ei2 : (if u = 0 then i1 else if dp = 0 then i1 + p2.toInt64 else i1) = i2 at W14
          have Ec : c2 = if u = 0 then 0 else p1.toInt64 + p2.toInt64 := by
            rw [← ec2, ← ec1]; by_cases hu : u = 0
            · rw [if_pos hu, if_pos hu, if_pos hu]
            · rw [if_neg hu, if_neg hu, if_neg hu, Int64.zero_add]
          have Ei : i2 = if u = 0 then 0 else if dp = 0 then p1.toInt64 + p2.toInt64 else p1.toInt64 := by
            rw [← ei2, ← ei1]; by_cases hu : u = 0
            · rw [if_pos hu, if_pos hu, if_pos hu]
            · rw [if_neg hu, if_neg hu, if_neg hu, if_pos rfl, Int64.zero_add]
          have Ed : d = if dp = 0 then 0 else 1 := by
            rw [ed, edp]; by_cases hu : c4 = 0 ∨ v37 = 0
            · rw [if_pos hu, if_pos hu, if_pos rfl]
            · rw [if_neg hu, if_neg hu, if_neg (by decide)]
          refine r_aload (pc' := 176) ok rfl at_174 rfl rfl ?_
          refine r_virtual (pc' := 179) ok rfl at_176 (hw _ (List.mem_of_getElem? (i := 402) rfl)) (hw _ (List.mem_of_getElem? (i := 403) rfl)) (hw _ (List.mem_of_getElem? (i := 405) rfl)) (hw _ (List.mem_of_getElem? (i := 404) rfl)) (nf_sel (C := "com/example/stackloom/stackloom/service/KernelWatch") (z := (⟨"com/example/stackloom/stackloom/service/KernelWatch", "counts", "()Lcom/example/stackloom/stackloom/service/Core$KernelCounts;"⟩ : MethodName)) (hw _ (List.mem_of_getElem? (i := 405) rfl))) W14.1 (by decide) pd_32 (Con.pay (W := 0) (rmCo l Z a0 hw b9 c2 i2 0 d 0 _ _ _ _ _ _ _ h14 W14) EW.nil (hw _ (List.mem_of_getElem? (i := 406) rfl)) (hw _ (List.mem_of_getElem? (i := 211) rfl)) (by decide) (by decide)) (fun q => nomatch q) (Or.inl rfl) rfl (argsL := []) (rest := []) rfl rfl rfl (Nat.le_of_ble_eq_true rfl) (by decide) (by decide) (cV fun x15 h15 q15 le15 => ?_)
          obtain ⟨kc, rfl, C15⟩ := q15
          refine r_astore (pc' := 181) (ls' := #[.val (.int p1), .val (.int p2), .val (.int p3), .val (.int p4), .val (.int c4), .val (.int c5), .val (.int v37), .val (.ref b1), .val (.ref b6), .val (.ref o), .val (.ref b9), .val (.int v136), .val (.ref kc), .unset, .unset, .unset, .unset, .unset, .unset, .unset, .unset]) ok rfl at_179 rfl rfl ?_
          have J278 : ∀ (z13 z14 : Int32) (e15 e17 z : Int64), e15 = c2 → e17 = i2 → z = d → Run Z K Cln h15 17 66 278 #[.val (.int p1), .val (.int p2), .val (.int p3), .val (.int p4), .val (.int c4), .val (.int c5), .val (.int v37), .val (.ref b1), .val (.ref b6), .val (.ref o), .val (.ref b9), .val (.int v136), .val (.ref kc), .val (.int z13), .val (.int z14), .val (.long e15), .second, .val (.long e17), .second, .unset, .unset] [.long z] := by
            intro z13 z14 e15 e17 z h1 h2 h3
            refine r_lstore (pc' := 280) (ls' := fun z => #[.val (.int p1), .val (.int p2), .val (.int p3), .val (.int p4), .val (.int c4), .val (.int c5), .val (.int v37), .val (.ref b1), .val (.ref b6), .val (.ref o), .val (.ref b9), .val (.int v136), .val (.ref kc), .val (.int z13), .val (.int z14), .val (.long e15), .second, .val (.long e17), .second, .val (.long z), .second]) ok rfl at_278 (fun _ => rfl) ?_
            intro v278 ev278
            refine r_aload (pc' := 282) ok rfl at_280 rfl rfl ?_
            refine r_virtual (pc' := 285) ok rfl at_282 (hw _ (List.mem_of_getElem? (i := 434) rfl)) (hw _ (List.mem_of_getElem? (i := 435) rfl)) (hw _ (List.mem_of_getElem? (i := 437) rfl)) (hw _ (List.mem_of_getElem? (i := 436) rfl)) (nf_sel (C := "com/example/stackloom/stackloom/service/Core$KernelCounts") (z := (⟨"com/example/stackloom/stackloom/service/Core$KernelCounts", "cycles", "()J"⟩ : MethodName)) (hw _ (List.mem_of_getElem? (i := 437) rfl))) C15.1 (by decide) pd_34 (Con.pay (W := 0) (rmC1 l Z a0 hw kc c2 h15 C15.2.1) EW.nil (hw _ (List.mem_of_getElem? (i := 438) rfl)) (hw _ (List.mem_of_getElem? (i := 409) rfl)) (by decide) (by decide)) (fun q => nomatch q) (Or.inl rfl) rfl (argsL := []) (rest := []) rfl rfl rfl (Nat.le_of_ble_eq_true rfl) (by decide) (by decide) (cV fun x16 h16 q16 le16 => ?_)
            obtain ⟨rfl, rfl⟩ := q16
            refine r_lload (pc' := 287) ok rfl at_285 rfl ?_
            refine r_lcmp (pc' := 288) ok rfl at_287 ?_
            refine r_if_ne (pc' := 291) (pcY := 317) ok rfl at_288 (by decide) (by decide) ?_ ?_
            · intro hq
              exact absurd (own_lcmp h1) hq
            intro _
            refine r_aload (pc' := 293) ok rfl at_291 rfl rfl ?_
            refine r_virtual (pc' := 296) ok rfl at_293 (hw _ (List.mem_of_getElem? (i := 439) rfl)) (hw _ (List.mem_of_getElem? (i := 440) rfl)) (hw _ (List.mem_of_getElem? (i := 442) rfl)) (hw _ (List.mem_of_getElem? (i := 441) rfl)) (nf_sel (C := "com/example/stackloom/stackloom/service/Core$KernelCounts") (z := (⟨"com/example/stackloom/stackloom/service/Core$KernelCounts", "initCycles", "()J"⟩ : MethodName)) (hw _ (List.mem_of_getElem? (i := 442) rfl))) C15.1 (by decide) pd_34 (Con.pay (W := 0) (rmC2 l Z a0 hw kc i2 h15 C15.2.2.1) EW.nil (hw _ (List.mem_of_getElem? (i := 443) rfl)) (hw _ (List.mem_of_getElem? (i := 409) rfl)) (by decide) (by decide)) (fun q => nomatch q) (Or.inl rfl) rfl (argsL := []) (rest := []) rfl rfl rfl (Nat.le_of_ble_eq_true rfl) (by decide) (by decide) (cV fun x17 h17 q17 le17 => ?_)
            obtain ⟨rfl, rfl⟩ := q17
            refine r_lload (pc' := 298) ok rfl at_296 rfl ?_
            refine r_lcmp (pc' := 299) ok rfl at_298 ?_
            refine r_if_ne (pc' := 302) (pcY := 317) ok rfl at_299 (by decide) (by decide) ?_ ?_
            · intro hq
              exact absurd (own_lcmp h2) hq
            intro _
            refine r_aload (pc' := 304) ok rfl at_302 rfl rfl ?_
            refine r_virtual (pc' := 307) ok rfl at_304 (hw _ (List.mem_of_getElem? (i := 444) rfl)) (hw _ (List.mem_of_getElem? (i := 445) rfl)) (hw _ (List.mem_of_getElem? (i := 447) rfl)) (hw _ (List.mem_of_getElem? (i := 446) rfl)) (nf_sel (C := "com/example/stackloom/stackloom/service/Core$KernelCounts") (z := (⟨"com/example/stackloom/stackloom/service/Core$KernelCounts", "dispatches", "()J"⟩ : MethodName)) (hw _ (List.mem_of_getElem? (i := 447) rfl))) C15.1 (by decide) pd_34 (Con.pay (W := 0) (rmC3 l Z a0 hw kc d h15 C15.2.2.2.2.1) EW.nil (hw _ (List.mem_of_getElem? (i := 448) rfl)) (hw _ (List.mem_of_getElem? (i := 409) rfl)) (by decide) (by decide)) (fun q => nomatch q) (Or.inl rfl) rfl (argsL := []) (rest := []) rfl rfl rfl (Nat.le_of_ble_eq_true rfl) (by decide) (by decide) (cV fun x18 h18 q18 le18 => ?_)
            obtain ⟨rfl, rfl⟩ := q18
            refine r_lload (pc' := 309) ok rfl at_307 rfl ?_
            refine r_lcmp (pc' := 310) ok rfl at_309 ?_
            refine r_if_ne (pc' := 313) (pcY := 317) ok rfl at_310 (by decide) (by decide) ?_ ?_
            · intro hq
              exact absurd (own_lcmp (ev278.trans h3)) hq
            intro _
            refine r_iconstV (pc' := 314) ok rfl (1 : Int32) at_313 rfl ?_
            refine r_goto (pc' := 318) ok at_314 (by decide) (by decide) ?_
            refine r_ireturn ok at_318 rfl (by simp) (by decide) (by decide) ?_
            rfl
          have J266 : ∀ (z13 z14 : Int32) (e15 z : Int64), z14 = dp → e15 = c2 → z = i2 → Run Z K Cln h15 17 66 266 #[.val (.int p1), .val (.int p2), .val (.int p3), .val (.int p4), .val (.int c4), .val (.int c5), .val (.int v37), .val (.ref b1), .val (.ref b6), .val (.ref o), .val (.ref b9), .val (.int v136), .val (.ref kc), .val (.int z13), .val (.int z14), .val (.long e15), .second, .unset, .unset, .unset, .unset] [.long z] := by
            intro z13 z14 e15 z h0 h1 h2
            refine r_lstore (pc' := 268) (ls' := fun z => #[.val (.int p1), .val (.int p2), .val (.int p3), .val (.int p4), .val (.int c4), .val (.int c5), .val (.int v37), .val (.ref b1), .val (.ref b6), .val (.ref o), .val (.ref b9), .val (.int v136), .val (.ref kc), .val (.int z13), .val (.int z14), .val (.long e15), .second, .val (.long z), .second, .unset, .unset]) ok rfl at_266 (fun _ => rfl) ?_
            intro v266 ev266
            refine r_iload (pc' := 270) ok rfl at_268 rfl ?_
            refine r_if_eq (pc' := 273) (pcY := 277) ok rfl at_270 (by decide) (by decide) ?_ ?_
            · intro hq
              refine r_lconst (pc' := 278) ok rfl (0 : Int64) at_277 rfl ?_
              exact J278 z13 z14 e15 v266 0 h1 (ev266.trans h2) (by rw [Ed, if_pos (h0.symm.trans hq)])
            intro hq
            refine r_lconst (pc' := 274) ok rfl (1 : Int64) at_273 rfl ?_
            refine r_goto (pc' := 278) ok at_274 (by decide) (by decide) ?_
            exact J278 z13 z14 e15 v266 1 h1 (ev266.trans h2) (by rw [Ed, if_neg (fun q => hq (h0.trans q))])
          have J240 : ∀ (z13 z14 : Int32) (z : Int64), z13 = u → z14 = dp → z = c2 → Run Z K Cln h15 17 66 240 #[.val (.int p1), .val (.int p2), .val (.int p3), .val (.int p4), .val (.int c4), .val (.int c5), .val (.int v37), .val (.ref b1), .val (.ref b6), .val (.ref o), .val (.ref b9), .val (.int v136), .val (.ref kc), .val (.int z13), .val (.int z14), .unset, .unset, .unset, .unset, .unset, .unset] [.long z] := by
            intro z13 z14 z h0 h1 h2
            refine r_lstore (pc' := 242) (ls' := fun z => #[.val (.int p1), .val (.int p2), .val (.int p3), .val (.int p4), .val (.int c4), .val (.int c5), .val (.int v37), .val (.ref b1), .val (.ref b6), .val (.ref o), .val (.ref b9), .val (.int v136), .val (.ref kc), .val (.int z13), .val (.int z14), .val (.long z), .second, .unset, .unset, .unset, .unset]) ok rfl at_240 (fun _ => rfl) ?_
            intro v240 ev240
            refine r_iload (pc' := 244) ok rfl at_242 rfl ?_
            refine r_if_eq (pc' := 247) (pcY := 265) ok rfl at_244 (by decide) (by decide) ?_ ?_
            · intro hq
              refine r_lconst (pc' := 266) ok rfl (0 : Int64) at_265 rfl ?_
              exact J266 z13 z14 v240 0 h1 (ev240.trans h2) (by rw [Ei, if_pos (h0.symm.trans hq)])
            intro hq
            refine r_iload (pc' := 249) ok rfl at_247 rfl ?_
            refine r_if_eq (pc' := 252) (pcY := 257) ok rfl at_249 (by decide) (by decide) ?_ ?_
            · intro hr
              refine r_iloadN (pc' := 258) ok rfl at_257 rfl ?_
              refine r_i2l (pc' := 259) ok rfl at_258 ?_
              refine r_iloadN (pc' := 260) ok rfl at_259 rfl ?_
              refine r_i2l (pc' := 261) ok rfl at_260 ?_
              refine r_ladd (pc' := 262) ok rfl at_261 ?_
              refine r_goto (pc' := 266) ok at_262 (by decide) (by decide) ?_
              exact J266 z13 z14 v240 _ h1 (ev240.trans h2) (by rw [Ei, if_neg (fun q => hq (h0.trans q)), if_pos (h1.symm.trans hr)])
            intro hr
            refine r_iloadN (pc' := 253) ok rfl at_252 rfl ?_
            refine r_i2l (pc' := 254) ok rfl at_253 ?_
            refine r_goto (pc' := 266) ok at_254 (by decide) (by decide) ?_
            exact J266 z13 z14 v240 _ h1 (ev240.trans h2) (by rw [Ei, if_neg (fun q => hq (h0.trans q)), if_neg (fun q => hr (h1.trans q))])
          have J224 : ∀ (z13 z : Int32), z13 = u → z = dp → Run Z K Cln h15 17 66 224 #[.val (.int p1), .val (.int p2), .val (.int p3), .val (.int p4), .val (.int c4), .val (.int c5), .val (.int v37), .val (.ref b1), .val (.ref b6), .val (.ref o), .val (.ref b9), .val (.int v136), .val (.ref kc), .val (.int z13), .unset, .unset, .unset, .unset, .unset, .unset, .unset] [.int z] := by
            intro z13 z h0 h1
            refine r_istore (pc' := 226) (ls' := fun z => #[.val (.int p1), .val (.int p2), .val (.int p3), .val (.int p4), .val (.int c4), .val (.int c5), .val (.int v37), .val (.ref b1), .val (.ref b6), .val (.ref o), .val (.ref b9), .val (.int v136), .val (.ref kc), .val (.int z13), .val (.int z), .unset, .unset, .unset, .unset, .unset, .unset]) ok rfl at_224 (fun _ => rfl) ?_
            intro v224 ev224
            refine r_iload (pc' := 228) ok rfl at_226 rfl ?_
            refine r_if_eq (pc' := 231) (pcY := 239) ok rfl at_228 (by decide) (by decide) ?_ ?_
            · intro hq
              refine r_lconst (pc' := 240) ok rfl (0 : Int64) at_239 rfl ?_
              exact J240 z13 v224 0 h0 (ev224.trans h1) (by rw [Ec, if_pos (h0.symm.trans hq)])
            intro hq
            refine r_iloadN (pc' := 232) ok rfl at_231 rfl ?_
            refine r_i2l (pc' := 233) ok rfl at_232 ?_
            refine r_iloadN (pc' := 234) ok rfl at_233 rfl ?_
            refine r_i2l (pc' := 235) ok rfl at_234 ?_
            refine r_ladd (pc' := 236) ok rfl at_235 ?_
            refine r_goto (pc' := 240) ok at_236 (by decide) (by decide) ?_
            exact J240 z13 v224 _ h0 (ev224.trans h1) (by rw [Ec, if_neg (fun q => hq (h0.trans q))])
          have J207 : ∀ z : Int32, z = u → Run Z K Cln h15 17 66 207 #[.val (.int p1), .val (.int p2), .val (.int p3), .val (.int p4), .val (.int c4), .val (.int c5), .val (.int v37), .val (.ref b1), .val (.ref b6), .val (.ref o), .val (.ref b9), .val (.int v136), .val (.ref kc), .unset, .unset, .unset, .unset, .unset, .unset, .unset, .unset] [.int z] := by
            intro z h0
            refine r_istore (pc' := 209) (ls' := fun z => #[.val (.int p1), .val (.int p2), .val (.int p3), .val (.int p4), .val (.int c4), .val (.int c5), .val (.int v37), .val (.ref b1), .val (.ref b6), .val (.ref o), .val (.ref b9), .val (.int v136), .val (.ref kc), .val (.int z), .unset, .unset, .unset, .unset, .unset, .unset, .unset]) ok rfl at_207 (fun _ => rfl) ?_
            intro v207 ev207
            refine r_iload (pc' := 211) ok rfl at_209 rfl ?_
            refine r_if_eq (pc' := 214) (pcY := 223) ok rfl at_211 (by decide) (by decide) ?_ ?_
            · intro hq
              refine r_iconstV (pc' := 224) ok rfl (0 : Int32) at_223 rfl ?_
              exact J224 v207 0 (ev207.trans h0) (by rw [edp, if_pos (Or.inl hq)])
            intro hq
            refine r_iload (pc' := 216) ok rfl at_214 rfl ?_
            refine r_if_eq (pc' := 219) (pcY := 223) ok rfl at_216 (by decide) (by decide) ?_ ?_
            · intro hr
              refine r_iconstV (pc' := 224) ok rfl (0 : Int32) at_223 rfl ?_
              exact J224 v207 0 (ev207.trans h0) (by rw [edp, if_pos (Or.inr hr)])
            intro hr
            refine r_iconstV (pc' := 220) ok rfl (1 : Int32) at_219 rfl ?_
            refine r_goto (pc' := 224) ok at_220 (by decide) (by decide) ?_
            exact J224 v207 1 (ev207.trans h0) (by rw [edp, if_neg (fun q => q.elim hq hr)])
          refine r_iload (pc' := 183) ok rfl at_181 rfl ?_
          refine r_if_eq (pc' := 186) (pcY := 206) ok rfl at_183 (by decide) (by decide) ?_ ?_
          · intro hq
            refine r_iconstV (pc' := 207) ok rfl (0 : Int32) at_206 rfl ?_
            exact J207 0 (by rw [← eu, if_pos hq])
          intro hq
          refine r_iload (pc' := 188) ok rfl at_186 rfl ?_
          refine r_sipushV (pc' := 191) ok rfl (256 : Int32) at_188 rfl ?_
          refine r_icmp_lt (pc' := 194) (pcY := 206) ok rfl at_191 (by decide) (by decide) ?_ ?_
          · intro hr
            refine r_iconstV (pc' := 207) ok rfl (0 : Int32) at_206 rfl ?_
            exact J207 0 (by rw [← eu, if_neg hq]; unfold inK; rw [if_neg (fun q => q.1 hr)])
          intro hr
          refine r_iload (pc' := 196) ok rfl at_194 rfl ?_
          refine r_sipushV (pc' := 199) ok rfl (272 : Int32) at_196 rfl ?_
          refine r_icmp_ge (pc' := 202) (pcY := 206) ok rfl at_199 (by decide) (by decide) ?_ ?_
          · intro hs
            refine r_iconstV (pc' := 207) ok rfl (0 : Int32) at_206 rfl ?_
            exact J207 0 (by rw [← eu, if_neg hq]; unfold inK; rw [if_neg (fun q => hs q.2)])
          intro hs
          refine r_iconstV (pc' := 203) ok rfl (1 : Int32) at_202 rfl ?_
          refine r_goto (pc' := 207) ok at_203 (by decide) (by decide) ?_
          exact J207 1 (by rw [← eu, if_neg hq]; unfold inK; rw [if_pos ⟨hr, hs⟩])
        refine r_iload (pc' := 153) ok rfl at_151 rfl ?_
        refine r_if_eq (pc' := 156) (pcY := 168) ok rfl at_153 (by decide) (by decide) ?_ ?_
        · intro hq
          refine r_more (m1 := 16) (m2 := 61) (by decide) (by decide) ?_
          exact J168 h12 _ 0 0 W12 (by rw [if_pos (Or.inr hq)]) (by rw [if_pos (Or.inr hq)])
        intro hq
        refine r_aload (pc' := 158) ok rfl at_156 rfl rfl ?_
        refine r_sipushV (pc' := 161) ok rfl (256 : Int32) at_158 rfl ?_
        refine r_iconstV (pc' := 162) ok rfl (5 : Int32) at_161 rfl ?_
        refine r_sipushV (pc' := 165) ok rfl (4224 : Int32) at_162 rfl ?_
        have K02 : Keep h10 h12 [b9] := K11.trans K12 (fun x hx => Or.inl hx)
        refine r_virtual (pc' := 168) ok rfl at_165 (hw _ (List.mem_of_getElem? (i := 454) rfl)) (hw _ (List.mem_of_getElem? (i := 455) rfl)) (hw _ (List.mem_of_getElem? (i := 457) rfl)) (hw _ (List.mem_of_getElem? (i := 456) rfl)) (nf_sel (C := "com/example/stackloom/stackloom/service/KernelWatch") (z := (⟨"com/example/stackloom/stackloom/service/KernelWatch", "stackRestored", "(III)V"⟩ : MethodName)) (hw _ (List.mem_of_getElem? (i := 457) rfl))) W12.1 (by decide) pd_1 (Con.pay (W := 0) (rmSR l Z a0 hw b9 s o b6 el ea t b3 em ca oe cc k c4 dv v _ _ _ _ _ _ _ h12 W12 z9 (M10.keep K02 (nin2 ls)) (O10.keep K02 (nin1 lo)) (Y10.keep K02 (nin1 lb) (nin1 lt) (nin1 le)) lo lb E F V SM SH SC B SO Oe) EW.nil (hw _ (List.mem_of_getElem? (i := 458) rfl)) (hw _ (List.mem_of_getElem? (i := 211) rfl)) (by decide) (by decide)) (fun q => nomatch q) (Or.inl rfl) rfl (argsL := [.int _, .int _, .int _]) (rest := []) rfl rfl rfl (Nat.le_of_ble_eq_true rfl) (by decide) (by decide) (cU fun h13 q13 le13 => ?_)
        obtain ⟨K13, vt, W13⟩ := q13
        exact J168 h13 vt _ _ W13 (by by_cases hc : c4 = 0 <;> simp [hc, hq]) (by by_cases hc : c4 = 0 <;> simp [hc, hq])
      refine r_iload (pc' := 118) ok rfl at_116 rfl ?_
      refine r_if_eq (pc' := 121) (pcY := 132) ok rfl at_118 (by decide) (by decide) ?_ ?_
      · intro _
        refine r_iloadN (pc' := 133) ok rfl at_132 rfl ?_
        refine r_ldcI (pc' := 135) ok rfl at_133 (hw _ (List.mem_of_getElem? (i := 334) rfl)) ?_
        refine r_iand (pc' := 136) ok rfl at_135 ?_
        exact J136 _
      intro _
      refine r_sipushV (pc' := 124) ok rfl (248 : Int32) at_121 rfl ?_
      refine r_iloadN (pc' := 125) ok rfl at_124 rfl ?_
      refine r_bipushV (pc' := 127) ok rfl (31 : Int32) at_125 rfl ?_
      refine r_iand (pc' := 128) ok rfl at_127 ?_
      refine r_iadd (pc' := 129) ok rfl at_128 ?_
      refine r_goto (pc' := 136) ok at_129 (by decide) (by decide) ?_
      exact J136 _
    refine r_iload (pc' := 89) ok rfl at_87 rfl ?_
    refine r_if_eq (pc' := 92) (pcY := 100) ok rfl at_89 (by decide) (by decide) ?_ ?_
    · intro hq
      refine r_static (pc' := 103) ok rfl at_100 (hw _ (List.mem_of_getElem? (i := 449) rfl)) (hw _ (List.mem_of_getElem? (i := 450) rfl)) (hw _ (List.mem_of_getElem? (i := 197) rfl)) (hw _ (List.mem_of_getElem? (i := 451) rfl)) (by decide) pd_35 (Con.pay (W := 0) (rmOpE l Z a0 hw oe h7 SO) EW.nil (hw _ (List.mem_of_getElem? (i := 451) rfl)) (hw _ (List.mem_of_getElem? (i := 197) rfl)) (by decide) (by decide)) (fun q => nomatch q) (Or.inl rfl) rfl (argsL := []) (rest := []) rfl rfl rfl (Nat.le_of_ble_eq_true rfl) (by decide) (by decide) (cV fun x8 h8 q8 le8 => ?_)
      obtain ⟨rfl, rfl⟩ := q8
      refine r_old fun Y8 => ?_
      refine r_more (m1 := 7) (m2 := 26) (by decide) (by decide) ?_
      exact J103 h7 oe (Or.inr ⟨hq, Oe.ext Y8⟩) Y7
    intro hq
    refine r_aload (pc' := 94) ok rfl at_92 rfl rfl ?_
    refine r_static (pc' := 97) ok rfl at_94 (hw _ (List.mem_of_getElem? (i := 195) rfl)) (hw _ (List.mem_of_getElem? (i := 196) rfl)) (hw _ (List.mem_of_getElem? (i := 197) rfl)) (hw _ (List.mem_of_getElem? (i := 198) rfl)) (by decide) pd_19 (Con.pay (W := 0) (rmOpOf l Z a0 hw b6 h7) EW.nil (hw _ (List.mem_of_getElem? (i := 198) rfl)) (hw _ (List.mem_of_getElem? (i := 197) rfl)) (by decide) (by decide)) (fun q => nomatch q) (Or.inl rfl) rfl (argsL := [(.ref b6)]) (rest := []) rfl rfl rfl (Nat.le_of_ble_eq_true rfl) (by decide) (by decide) (cV fun x8 h8 q8 le8 => ?_)
    obtain ⟨o, rfl, go, zo, K8, O8⟩ := q8
    refine r_goto (pc' := 103) ok at_97 (by decide) (by decide) ?_
    exact J103 h8 o (Or.inl ⟨hq, O8⟩) (Y7.keep K8 nin0 nin0 nin0)
  have J24 : ∀ c4 z : Int32, Run Z K Cln Z.heap 0 0 24 #[.val (.int p1), .val (.int p2), .val (.int p3), .val (.int p4), .val (.int c4), .unset, .unset, .unset, .unset, .unset, .unset, .unset, .unset, .unset, .unset, .unset, .unset, .unset, .unset, .unset, .unset] [.int z] := by
    intro c4 z
    refine r_istore (pc' := 26) (ls' := fun z => #[.val (.int p1), .val (.int p2), .val (.int p3), .val (.int p4), .val (.int c4), .val (.int z), .unset, .unset, .unset, .unset, .unset, .unset, .unset, .unset, .unset, .unset, .unset, .unset, .unset, .unset, .unset]) ok rfl at_24 (fun _ => rfl) ?_
    intro v24 ev24
    refine r_iloadN (pc' := 27) ok rfl at_26 rfl ?_
    refine r_iconstV (pc' := 28) ok rfl (4 : Int32) at_27 rfl ?_
    refine r_iand (pc' := 29) ok rfl at_28 ?_
    refine r_if_eq (pc' := 32) (pcY := 36) ok rfl at_29 (by decide) (by decide) ?_ ?_
    · intro _
      refine r_iconstV (pc' := 37) ok rfl (0 : Int32) at_36 rfl ?_
      exact J37 c4 v24 0
    intro _
    refine r_iconstV (pc' := 33) ok rfl (1 : Int32) at_32 rfl ?_
    refine r_goto (pc' := 37) ok at_33 (by decide) (by decide) ?_
    exact J37 c4 v24 1
  have J11 : ∀ z : Int32, Run Z K Cln Z.heap 0 0 11 #[.val (.int p1), .val (.int p2), .val (.int p3), .val (.int p4), .unset, .unset, .unset, .unset, .unset, .unset, .unset, .unset, .unset, .unset, .unset, .unset, .unset, .unset, .unset, .unset, .unset] [.int z] := by
    intro z
    refine r_istore (pc' := 13) (ls' := fun z => #[.val (.int p1), .val (.int p2), .val (.int p3), .val (.int p4), .val (.int z), .unset, .unset, .unset, .unset, .unset, .unset, .unset, .unset, .unset, .unset, .unset, .unset, .unset, .unset, .unset, .unset]) ok rfl at_11 (fun _ => rfl) ?_
    intro v11 ev11
    refine r_iloadN (pc' := 14) ok rfl at_13 rfl ?_
    refine r_iconstV (pc' := 15) ok rfl (2 : Int32) at_14 rfl ?_
    refine r_iand (pc' := 16) ok rfl at_15 ?_
    refine r_if_eq (pc' := 19) (pcY := 23) ok rfl at_16 (by decide) (by decide) ?_ ?_
    · intro _
      refine r_iconstV (pc' := 24) ok rfl (0 : Int32) at_23 rfl ?_
      exact J24 v11 0
    intro _
    refine r_iconstV (pc' := 20) ok rfl (1 : Int32) at_19 rfl ?_
    refine r_goto (pc' := 24) ok at_20 (by decide) (by decide) ?_
    exact J24 v11 1
  refine r_iloadN (pc' := 1) ok rfl at_0 rfl ?_
  refine r_iconstV (pc' := 2) ok rfl (1 : Int32) at_1 rfl ?_
  refine r_iand (pc' := 3) ok rfl at_2 ?_
  refine r_if_eq (pc' := 6) (pcY := 10) ok rfl at_3 (by decide) (by decide) ?_ ?_
  · intro _
    refine r_iconstV (pc' := 11) ok rfl (0 : Int32) at_10 rfl ?_
    exact J11 0
  intro _
  refine r_iconstV (pc' := 7) ok rfl (1 : Int32) at_6 rfl ?_
  refine r_goto (pc' := 11) ok at_7 (by decide) (by decide) ?_
  exact J11 1
end Claim

set_option maxRecDepth 65536 in
set_option maxHeartbeats 4000000 in
theorem comes_1 {Post : Tables → Env → Array Value → State → Outcome → State → Prop} (hpost : ∀ tb e args s v u, (limb_1_1.after args s (.returned v) u = true ∧ limb_1_2.after args s (.returned v) u = true ∧ True) → FramedW s (.returned v) u (Jvm.fieldLocs frame_1_writes args s ++ Jvm.arrayLocs frame_1_arrays args s ++ Jvm.staticLocs frame_1_statics s) 48 256 → Post tb e args s (.returned v) u) :
    ArmFor flags0 classFile x code maxLocals ret World_1 tables_1 room_1 Calls_1 rest_1 Pre_1 Post := by
  intro l hfl _ _ p e ha hc hk s m args below hf hA hF happ hP
  obtain ⟨hcalls, hrest, hpre⟩ := hP
  obtain ⟨-, -, -, hnamed, -, -, -, hat⟩ := (Spec.applies_iff hf).mp happ
  obtain ⟨hg, hn⟩ := and_e (Cond.before_iff.mp (show (Jvm.Cond.and given_1 narrow_1).before args s = true from hpre))
  obtain ⟨gc, gr0⟩ := and_e hg
  obtain ⟨ga0, gr1⟩ := and_e gr0
  obtain ⟨ga1, gr2⟩ := and_e gr1
  obtain ⟨ga2, gr3⟩ := and_e gr2
  have ga3 := gr3
  obtain ⟨w0, w1, w2, w3, rfl⟩ : ∃ w0 w1 w2 w3 : Value, args = #[w0, w1, w2, w3] := by
    have hs : args.size = 4 := by simpa [Cond.value, given_1] using gc
    obtain ⟨L⟩ := args
    match L, hs with
    | [w0, w1, w2, w3], _ => exact ⟨w0, w1, w2, w3, rfl⟩
  have hw := fun d (hd : d ∈ tables_1) => atoms_spec (ws := Jvm.Cond.code x code maxLocals ret :: tables_1) hat d (List.mem_cons_of_mem _ hd)
  have hfit : Fit s := fun {y c} hc i hi => by
    obtain ⟨ha, rfl⟩ := Array.getElem?_eq_some_iff.mp hc
    have q := List.all_eq_true.mp ((Array.all_eq_true_iff_forall_mem.mp hF) _ (Array.getElem_mem ha)) i (List.mem_range.mpr hi)
    simpa [Array.getElem?_eq_getElem hi] using q
  obtain ⟨hsets, hown0⟩ := atoms_of _ (rest_1_c_eq ▸ (show rest_1_c.before _ s = true from hrest))
  obtain ⟨i0, ei0⟩ := is_v ga0
  obtain rfl : w0 = (.int i0) := Option.some.inj ei0
  obtain ⟨i1, ei1⟩ := is_v ga1
  obtain rfl : w1 = (.int i1) := Option.some.inj ei1
  obtain ⟨i2, ei2⟩ := is_v ga2
  obtain rfl : w2 = (.int i2) := Option.some.inj ei2
  obtain ⟨i3, ei3⟩ := is_v ga3
  obtain rfl : w3 = (.int i3) := Option.some.inj ei3
  have x6 := (Cond.before_iff.mp (hsets _ (List.mem_of_getElem? (i := 6) rfl)))
  obtain ⟨de, ede⟩ := arr_v x6
  have SD : Sta s s.heap AL "DEFAULTCAPACITY_EMPTY_ELEMENTDATA" OA (.ref de) := Sta.start ede (Or.inr ⟨hw _ (List.mem_of_getElem? (i := 2) rfl), (hsets _ (List.mem_of_getElem? (i := 2) rfl))⟩)
  obtain ⟨kd, D⟩ := own_arv0 ede x6 (Cond.before_iff.mp (hsets _ (List.mem_of_getElem? (i := 8) rfl)))
  have x11 := (Cond.before_iff.mp (hsets _ (List.mem_of_getElem? (i := 11) rfl)))
  obtain ⟨el, eel⟩ := exa_v x11
  have SE : Sta s s.heap "java/util/ImmutableCollections" "EMPTY_LIST" "Ljava/util/ImmutableCollections$ListN;" (.ref el) := Sta.start eel (Or.inl (hsets _ (List.mem_of_getElem? (i := 10) rfl)))
  have E := Exa.start eel x11
  have x12 := (Cond.before_iff.mp (hsets _ (List.mem_of_getElem? (i := 12) rfl)))
  obtain ⟨ea, eea⟩ := arr_v x12
  have F : Fld s s.heap el LN "elements" OA (.ref ea) := Fld.start ((fld_at eel).symm.trans eea)
  obtain ⟨k, V⟩ := own_arv0 eea x12 (Cond.before_iff.mp (hsets _ (List.mem_of_getElem? (i := 14) rfl)))
  have Fn : Fld s s.heap el LN "allowNulls" "Z" (.int 0) := Fld.start ((fld_at eel).symm.trans (eqv_i (Term.int_eval 0) (Cond.before_iff.mp (hsets _ (List.mem_of_getElem? (i := 15) rfl)))))
  obtain ⟨em, eem⟩ := exa_v (Cond.before_iff.mp (hsets _ (List.mem_of_getElem? (i := 18) rfl)))
  have SM : Sta s s.heap "java/util/ImmutableCollections" "EMPTY" LO (.ref em) := Sta.start eem (Or.inl (hsets _ (List.mem_of_getElem? (i := 17) rfl)))
  have SH : Sta s s.heap IC "high" "I" (.int 127) := Sta.start (eqv_i (Term.int_eval 127) (Cond.before_iff.mp (hsets _ (List.mem_of_getElem? (i := 28) rfl)))) (Or.inl (hsets _ (List.mem_of_getElem? (i := 26) rfl)))
  have x29 := (Cond.before_iff.mp (hsets _ (List.mem_of_getElem? (i := 29) rfl)))
  obtain ⟨ca, eca⟩ := arr_v x29
  have SC : Sta s s.heap IC "cache" "[Ljava/lang/Integer;" (.ref ca) := Sta.start eca (Or.inr ⟨hw _ (List.mem_of_getElem? (i := 290) rfl), (hsets _ (List.mem_of_getElem? (i := 27) rfl))⟩)
  obtain ⟨cc, Ac, qc, ec, -⟩ := own_sz eca x29 (Cond.before_iff.mp (hsets _ (List.mem_of_getElem? (i := 31) rfl))) (N := 256) rfl
  have B := own_ints (fun idx => (show _ = _ from eca)) Ac qc ec (Cond.before_iff.mp (hsets _ (List.mem_of_getElem? (i := 32) rfl)))
  have x35 := (Cond.before_iff.mp (hsets _ (List.mem_of_getElem? (i := 35) rfl)))
  obtain ⟨bf, ebf⟩ := exa_v x35
  have SF : Sta s s.heap "java/lang/Boolean" "FALSE" "Ljava/lang/Boolean;" (.ref bf) := Sta.start ebf (Or.inl (hsets _ (List.mem_of_getElem? (i := 34) rfl)))
  have EB := Exa.start ebf x35
  have FB : Fld s s.heap bf BO "value" "Z" (.int 0) := Fld.start ((fld_at ebf).symm.trans (eqv_i (Term.int_eval 0) (Cond.before_iff.mp (hsets _ (List.mem_of_getElem? (i := 36) rfl)))))
  have x39 := (Cond.before_iff.mp (hsets _ (List.mem_of_getElem? (i := 39) rfl)))
  obtain ⟨oe, eoe⟩ := exa_v x39
  have SO : Sta s s.heap OP "EMPTY" "Ljava/util/Optional;" (.ref oe) := Sta.start eoe (Or.inl (hsets _ (List.mem_of_getElem? (i := 38) rfl)))
  have Oe : OPs s s.heap oe .null := ⟨Exa.start eoe x39, Fld.start ((fld_at eoe).symm.trans (null_v (Cond.before_iff.mp (hsets _ (List.mem_of_getElem? (i := 40) rfl)))))⟩
  have ST : Sta s s.heap CLy "TIMER0_SLOT" "I" (.int 11) := Sta.start (eqv_i (Term.int_eval 11) hn) (Or.inr ⟨hw _ (List.mem_of_getElem? (i := 283) rfl), hw _ (List.mem_of_getElem? (i := 284) rfl)⟩)
  obtain ⟨q1, -⟩ := hcalls
  obtain ⟨mc1, mk1, mr, M1⟩ := q1
  obtain ⟨n, o, h1, h2, h3, _, L, rfl, ⟨⟨xr, rfl, rfl⟩, N, -, -⟩, hq⟩ := (rm0 l s _ hw i0 i1 i2 i3 el ea em ca oe bf de mr cc k kd .null .null SE E Fn F V SM SH SC B SO Oe SF EB FB SD D ⟨mc1, mk1, M1⟩ ST) ⟨Nat.le_refl _, fun _ _ q => q⟩ p e ha hc hk s m _ below hf ((Spec.applies_iff_loose hf).mp happ).1 ⟨rfl, State.Warmed39.refl s, rfl, chv_nil⟩ trivial
  exact ⟨n, _, h1, h2, h3, hpost _ _ _ _ _ _ ⟨Cond.after_iff.mpr rfl, Cond.after_iff.mpr (eq_i res_at (Term.int_eval (1)) rfl), trivial⟩ ⟨hq.1, hq.2.1, hq.2.2.1, (hq.2.2.2.sift fun y hy => Or.inr (N y hy)).mono (by decide) (by decide)⟩⟩
theorem main_1_1 : Claimed_1_1 := comes_1 fun _ _ _ _ _ _ h hF => ⟨h.1, hF⟩
theorem main_1_2 : Claimed_1_2 := comes_1 fun _ _ _ _ _ _ h hF => ⟨h.2.1, hF⟩
end Jvm.Pilot.@@N@@
namespace Jvm.Pilot.@@N@@
open Jvm Jvm.ClassFile Sem Op Lib Jvm.Free Jvm.Stand Jvm.Pilot.@@N@@.Jvm.D
/-! MADE BY PROGRAM (witnessworld.py) out of the Statement's table words and the real class files: 54 classes; the members and pool entries that the words name. The judged class is class 1, her method 1. -/
namespace start1
open Jvm.ClassFile
def u (s : String) : CpInfo := .utf8 (stringToUtf16 s)
/-- a pool by its gaps: so many unusable entries, then the entry; so many at the end -/
def gap : Nat → List CpInfo → List CpInfo
  | 0, r => r
  | n + 1, r => .unusable :: gap n r
def poolList (es : List (Nat × CpInfo)) (last : Nat) : List CpInfo := es.foldr (fun e r => gap e.1 (e.2 :: r)) (gap last [])
def pool (es : List (Nat × CpInfo)) (last : Nat) : Array CpInfo := ⟨poolList es last⟩
def fileOf (pool : Array CpInfo) (this : Nat) (attrs : Array Attribute := #[]) (ms : Array MethodInfo := #[]) (fl : Nat := 33) (sup : Nat := 0) (ifs : Array Nat := #[]) (fds : Array FieldInfo := #[]) : ClassFile where
  minorVersion := 0
  majorVersion := 65
  constantPool := pool
  accessFlags := fl
  thisClass := this
  superClass := sup
  interfaces := ifs
  fields := fds
  methods := ms
  attributes := attrs
def plain (name : String) (sup : Option ClassId) : Class where
  name := name
  kind := .ordinary
  loader := none
  accessFlags := 33
  super := sup
  interfaces := #[]
  cf := none
  fields := #[]
  methods := #[]
  instanceTypes := #[]
  staticTypes := #[]
  resolved := #[]
  callSites := []
  init := .initialized
  statics := none
  mirror := none

def pool0 : Array CpInfo := pool [(5, u "<init>"), (0, u "()V"), (1, .class_ 10), (1, u "java/lang/Object"), (0, u "getClass"), (0, u "()Ljava/lang/Class;")] 111

def k0c0 : Code := { maxStack := 0, maxLocals := 1, code := object_method_1_code, exceptionTable := #[], attributes := #[] }
def k0m0 : Method := { name := "<init>", desc := "()V", sig := { parameters := [], returnType := none }, accessFlags := 1, code := some k0c0 }
def k0m1 : Method := { name := "getClass", desc := "()Ljava/lang/Class;", sig := { parameters := [], returnType := some (.object "java/lang/Class") }, accessFlags := 273, code := none }
/-- java/lang/Object -/
def k0 : Class := { plain "java/lang/Object" none with
  accessFlags := 33
  interfaces := #[]
  cf := some (fileOf pool0 8 #[] #[{ accessFlags := 1, nameIndex := 5, descriptorIndex := 6, attributes := #[] }, { accessFlags := 273, nameIndex := 11, descriptorIndex := 12, attributes := #[] }] 33 0 #[] #[])
  fields := #[]
  methods := #[k0m0, k0m1]
  instanceTypes := #[]
  staticTypes := #[]
  resolved := Array.replicate 124 none
  statics := none }

def pool1 : Array CpInfo := pool [(2, .class_ 4), (0, .nameAndType 5 6), (0, u "java/lang/Object"), (0, u "<init>"), (0, u "()V"), (0, .class_ 8), (0, u "java/util/ArrayList"), (0, .methodref 7 3), (0, .class_ 11), (0, u "com/example/stackloom/stackloom/model/KernelLayout$Task"), (0, .methodref 10 13), (0, .nameAndType 5 14), (0, u "(III)V"), (0, .methodref 7 16), (0, .nameAndType 17 18), (0, u "add"), (0, u "(Ljava/lang/Object;)Z"), (0, .class_ 20), (0, u "com/example/stackloom/stackloom/model/KernelLayout"), (0, .methodref 19 22), (0, .nameAndType 5 23), (0, u "(IIILjava/util/List;)V"), (0, .methodref 25 26), (0, .class_ 27), (0, .nameAndType 28 29), (0, u "java/util/Optional"), (0, u "of"), (0, u "(Ljava/lang/Object;)Ljava/util/Optional;"), (0, .methodref 25 31), (0, .nameAndType 32 33), (0, u "empty"), (0, u "()Ljava/util/Optional;"), (0, .class_ 35), (0, u "com/example/stackloom/stackloom/service/KernelWatch"), (0, .methodref 34 37), (0, .nameAndType 5 38), (0, u "(Ljava/util/Optional;)V"), (0, .integer 65535), (0, .methodref 34 41), (0, .nameAndType 42 43), (0, u "starting"), (0, u "(I)V"), (0, .methodref 34 45), (0, .nameAndType 46 43), (0, u "executed"), (0, .methodref 34 48), (0, .nameAndType 49 14), (0, u "stackRestored"), (0, .methodref 34 51), (0, .nameAndType 52 53), (0, u "counts"), (0, u "()Lcom/example/stackloom/stackloom/service/Core$KernelCounts;"), (0, .methodref 55 56), (0, .class_ 57), (0, .nameAndType 58 59), (0, u "com/example/stackloom/stackloom/service/Core$KernelCounts"), (0, u "cycles"), (0, u "()J"), (0, .methodref 55 61), (0, .nameAndType 62 59), (0, u "initCycles"), (0, .methodref 55 64), (0, .nameAndType 65 59), (0, u "dispatches"), (0, .class_ 67), (0, u "com/example/stackloom/stackloom/service/KernelWatchExecutedPinLaw"), (2, u "law"), (0, u "(IIII)Z")] 8

def k1m0 : Method := { name := "<init>", desc := "()V", sig := { parameters := [], returnType := none }, accessFlags := 1, code := none }
def k1c1 : Code := { maxStack := 6, maxLocals := 21, code := code, exceptionTable := #[], attributes := #[] }
def k1m1 : Method := { name := "law", desc := "(IIII)Z", sig := { parameters := [.int, .int, .int, .int], returnType := some .boolean }, accessFlags := 9, code := some k1c1 }
/-- com/example/stackloom/stackloom/service/KernelWatchExecutedPinLaw -/
def k1 : Class := { plain "com/example/stackloom/stackloom/service/KernelWatchExecutedPinLaw" (some 0) with
  accessFlags := 49
  interfaces := #[]
  cf := some (fileOf pool1 66 #[] #[{ accessFlags := 1, nameIndex := 5, descriptorIndex := 6, attributes := #[] }, { accessFlags := 9, nameIndex := 70, descriptorIndex := 71, attributes := #[] }] 49 2 #[] #[])
  fields := #[]
  methods := #[k1m0, k1m1]
  instanceTypes := #[]
  staticTypes := #[]
  resolved := Array.replicate 80 none
  statics := none }

def pool2 : Array CpInfo := pool [(8, .class_ 10), (1, u "java/lang/Iterable"), (24, .class_ 36), (0, u "java/lang/Object")] 25

/-- java/lang/Iterable -/
def k2 : Class := { plain "java/lang/Iterable" (some 0) with
  accessFlags := 1537
  interfaces := #[]
  cf := some (fileOf pool2 8 #[] #[] 1537 35 #[] #[])
  fields := #[]
  methods := #[]
  instanceTypes := #[]
  staticTypes := #[]
  resolved := Array.replicate 62 none
  statics := none }

def pool3 : Array CpInfo := pool [(10, .class_ 12), (1, u "java/util/Collection"), (0, u "toArray"), (16, u "()Z"), (29, .class_ 61), (0, u "java/lang/Object"), (0, .class_ 63), (0, u "java/lang/Iterable"), (2, u "isEmpty"), (3, u "()[Ljava/lang/Object;")] 44

def k3m0 : Method := { name := "isEmpty", desc := "()Z", sig := { parameters := [], returnType := some .boolean }, accessFlags := 1025, code := none }
def k3m1 : Method := { name := "toArray", desc := "()[Ljava/lang/Object;", sig := { parameters := [], returnType := some (.array (.object "java/lang/Object")) }, accessFlags := 1025, code := none }
/-- java/util/Collection -/
def k3 : Class := { plain "java/util/Collection" (some 0) with
  accessFlags := 1537
  interfaces := #[2]
  cf := some (fileOf pool3 10 #[] #[{ accessFlags := 1025, nameIndex := 66, descriptorIndex := 30, attributes := #[] }, { accessFlags := 1025, nameIndex := 13, descriptorIndex := 70, attributes := #[] }] 1537 60 #[62] #[])
  fields := #[]
  methods := #[k3m0, k3m1]
  instanceTypes := #[]
  staticTypes := #[]
  resolved := Array.replicate 115 none
  statics := none }

def pool4 : Array CpInfo := pool [(1, .methodref 2 3), (0, .class_ 4), (0, .nameAndType 5 6), (0, u "java/lang/Object"), (0, u "<init>"), (0, u "()V"), (1, .class_ 10), (1, u "java/util/AbstractCollection"), (0, u "size"), (0, u "()I"), (64, .class_ 78), (0, u "java/util/Collection")] 81

def k4c0 : Code := { maxStack := 1, maxLocals := 1, code := jdk_22_method_1_code, exceptionTable := #[], attributes := #[] }
def k4m0 : Method := { name := "<init>", desc := "()V", sig := { parameters := [], returnType := none }, accessFlags := 4, code := some k4c0 }
def k4m1 : Method := { name := "size", desc := "()I", sig := { parameters := [], returnType := some .int }, accessFlags := 1025, code := none }
/-- java/util/AbstractCollection -/
def k4 : Class := { plain "java/util/AbstractCollection" (some 0) with
  accessFlags := 1057
  interfaces := #[3]
  cf := some (fileOf pool4 8 #[] #[{ accessFlags := 4, nameIndex := 5, descriptorIndex := 6, attributes := #[] }, { accessFlags := 1025, nameIndex := 11, descriptorIndex := 12, attributes := #[] }] 1057 2 #[77] #[])
  fields := #[]
  methods := #[k4m0, k4m1]
  instanceTypes := #[]
  staticTypes := #[]
  resolved := Array.replicate 160 none
  statics := none }

def pool5 : Array CpInfo := pool [(8, .class_ 10), (1, u "java/util/SequencedCollection"), (15, .class_ 27), (0, u "java/lang/Object"), (0, .class_ 29), (0, u "java/util/Collection")] 27

/-- java/util/SequencedCollection -/
def k5 : Class := { plain "java/util/SequencedCollection" (some 0) with
  accessFlags := 1537
  interfaces := #[3]
  cf := some (fileOf pool5 8 #[] #[] 1537 26 #[28] #[])
  fields := #[]
  methods := #[]
  instanceTypes := #[]
  staticTypes := #[]
  resolved := Array.replicate 57 none
  statics := none }

def pool6 : Array CpInfo := pool [(8, .class_ 10), (1, u "java/util/List"), (20, u "(Ljava/lang/Object;)V"), (16, u "<init>"), (15, u "(Ljava/lang/Object;)Z"), (10, u "get"), (0, u "(I)Ljava/lang/Object;"), (2, u "size"), (0, u "()I"), (7, u "of"), (1, .fieldref 91 92), (0, .class_ 93), (0, .nameAndType 94 95), (0, u "java/util/ImmutableCollections"), (0, u "EMPTY_LIST"), (0, u "Ljava/util/ImmutableCollections$ListN;"), (0, .class_ 97), (0, u "java/util/ImmutableCollections$List12"), (0, .methodref 96 99), (0, .nameAndType 48 31), (3, .class_ 104), (0, u "java/lang/Object"), (3, u "([Ljava/lang/Object;)Ljava/util/List;"), (3, .methodref 91 113), (0, .nameAndType 114 115), (0, u "listCopy"), (0, u "(Ljava/util/Collection;)Ljava/util/List;"), (3, u "()Ljava/util/List;"), (0, .class_ 121), (0, u "java/util/SequencedCollection"), (0, u "contains"), (0, u "iterator"), (0, u "()Ljava/util/Iterator;"), (51, u "indexOf"), (0, u "(Ljava/lang/Object;)I"), (56, u "copyOf")] 16

def k6m0 : Method := { name := "size", desc := "()I", sig := { parameters := [], returnType := some .int }, accessFlags := 1025, code := none }
def k6m1 : Method := { name := "contains", desc := "(Ljava/lang/Object;)Z", sig := { parameters := [(.object "java/lang/Object")], returnType := some .boolean }, accessFlags := 1025, code := none }
def k6m2 : Method := { name := "iterator", desc := "()Ljava/util/Iterator;", sig := { parameters := [], returnType := some (.object "java/util/Iterator") }, accessFlags := 1025, code := none }
def k6m3 : Method := { name := "get", desc := "(I)Ljava/lang/Object;", sig := { parameters := [.int], returnType := some (.object "java/lang/Object") }, accessFlags := 1025, code := none }
def k6m4 : Method := { name := "indexOf", desc := "(Ljava/lang/Object;)I", sig := { parameters := [(.object "java/lang/Object")], returnType := some .int }, accessFlags := 1025, code := none }
def k6c5 : Code := { maxStack := 1, maxLocals := 0, code := jdk_40_method_36_code, exceptionTable := #[], attributes := #[] }
def k6m5 : Method := { name := "of", desc := "()Ljava/util/List;", sig := { parameters := [], returnType := some (.object "java/util/List") }, accessFlags := 9, code := some k6c5 }
def k6c6 : Code := { maxStack := 5, maxLocals := 2, code := jdk_40_method_47_code, exceptionTable := #[], attributes := #[] }
def k6m6 : Method := { name := "of", desc := "([Ljava/lang/Object;)Ljava/util/List;", sig := { parameters := [(.array (.object "java/lang/Object"))], returnType := some (.object "java/util/List") }, accessFlags := 137, code := some k6c6 }
def k6c7 : Code := { maxStack := 1, maxLocals := 1, code := jdk_40_method_48_code, exceptionTable := #[], attributes := #[] }
def k6m7 : Method := { name := "copyOf", desc := "(Ljava/util/Collection;)Ljava/util/List;", sig := { parameters := [(.object "java/util/Collection")], returnType := some (.object "java/util/List") }, accessFlags := 9, code := some k6c7 }
/-- java/util/List -/
def k6 : Class := { plain "java/util/List" (some 0) with
  accessFlags := 1537
  interfaces := #[5]
  cf := some (fileOf pool6 8 #[] #[{ accessFlags := 1025, nameIndex := 79, descriptorIndex := 80, attributes := #[] }, { accessFlags := 1025, nameIndex := 122, descriptorIndex := 64, attributes := #[] }, { accessFlags := 1025, nameIndex := 123, descriptorIndex := 124, attributes := #[] }, { accessFlags := 1025, nameIndex := 75, descriptorIndex := 76, attributes := #[] }, { accessFlags := 1025, nameIndex := 176, descriptorIndex := 177, attributes := #[] }, { accessFlags := 9, nameIndex := 88, descriptorIndex := 119, attributes := #[] }, { accessFlags := 137, nameIndex := 88, descriptorIndex := 108, attributes := #[] }, { accessFlags := 9, nameIndex := 234, descriptorIndex := 115, attributes := #[] }] 1537 103 #[120] #[])
  fields := #[]
  methods := #[k6m0, k6m1, k6m2, k6m3, k6m4, k6m5, k6m6, k6m7]
  instanceTypes := #[]
  staticTypes := #[]
  resolved := Array.replicate 251 none
  statics := none }

def pool7 : Array CpInfo := pool [(1, .methodref 2 3), (0, .class_ 4), (0, .nameAndType 5 6), (0, u "java/util/AbstractCollection"), (0, u "<init>"), (0, u "()V"), (0, .fieldref 8 9), (0, .class_ 10), (0, .nameAndType 11 12), (0, u "java/util/AbstractList"), (0, u "modCount"), (0, u "I"), (64, .class_ 78), (0, u "java/util/AbstractList$Itr"), (3, .class_ 83), (0, u "java/util/AbstractList$ListItr"), (9, .class_ 94), (0, u "java/util/AbstractList$RandomAccessSubList"), (3, .class_ 99), (0, u "java/util/AbstractList$SubList"), (33, .class_ 134), (0, u "java/util/List"), (73, .class_ 209), (0, u "java/util/AbstractList$SubList$1"), (0, .class_ 211), (0, u "java/util/AbstractList$RandomAccessSpliterator")] 6

def k7c0 : Code := { maxStack := 2, maxLocals := 1, code := jdk_39_method_1_code, exceptionTable := #[], attributes := #[] }
def k7m0 : Method := { name := "<init>", desc := "()V", sig := { parameters := [], returnType := none }, accessFlags := 4, code := some k7c0 }
/-- java/util/AbstractList -/
def k7 : Class := { plain "java/util/AbstractList" (some 4) with
  accessFlags := 1057
  interfaces := #[6]
  cf := some (fileOf pool7 8 #[.nestMembers #[93, 98, 208, 210, 82, 77]] #[{ accessFlags := 4, nameIndex := 5, descriptorIndex := 6, attributes := #[] }] 1057 2 #[133] #[{ accessFlags := 132, nameIndex := 11, descriptorIndex := 12, attributes := #[] }])
  fields := #[{ name := "modCount", type := .int, accessFlags := 132, slot := 0, constantValue := 0 }]
  methods := #[k7m0]
  instanceTypes := #[.int]
  staticTypes := #[]
  resolved := Array.replicate 218 none
  statics := none }

def pool8 : Array CpInfo := pool [(1, .class_ 2), (0, u "java/util/RandomAccess"), (0, .class_ 4), (0, u "java/lang/Object")] 2

/-- java/util/RandomAccess -/
def k8 : Class := { plain "java/util/RandomAccess" (some 0) with
  accessFlags := 1537
  interfaces := #[]
  cf := some (fileOf pool8 1 #[] #[] 1537 3 #[] #[])
  fields := #[]
  methods := #[]
  instanceTypes := #[]
  staticTypes := #[]
  resolved := Array.replicate 7 none
  statics := none }

def pool9 : Array CpInfo := pool [(1, .class_ 2), (0, u "java/lang/Cloneable"), (0, .class_ 4), (0, u "java/lang/Object")] 2

/-- java/lang/Cloneable -/
def k9 : Class := { plain "java/lang/Cloneable" (some 0) with
  accessFlags := 1537
  interfaces := #[]
  cf := some (fileOf pool9 1 #[] #[] 1537 3 #[] #[])
  fields := #[]
  methods := #[]
  instanceTypes := #[]
  staticTypes := #[]
  resolved := Array.replicate 7 none
  statics := none }

def pool10 : Array CpInfo := pool [(1, .class_ 2), (0, u "java/io/Serializable"), (0, .class_ 4), (0, u "java/lang/Object")] 2

/-- java/io/Serializable -/
def k10 : Class := { plain "java/io/Serializable" (some 0) with
  accessFlags := 1537
  interfaces := #[]
  cf := some (fileOf pool10 1 #[] #[] 1537 3 #[] #[])
  fields := #[]
  methods := #[]
  instanceTypes := #[]
  staticTypes := #[]
  resolved := Array.replicate 7 none
  statics := none }

def pool11 : Array CpInfo := pool [(1, .methodref 2 3), (0, .class_ 4), (0, .nameAndType 5 6), (0, u "java/util/AbstractList"), (0, u "<init>"), (0, u "()V"), (0, .class_ 8), (0, u "java/lang/Object"), (0, .fieldref 10 11), (0, .class_ 12), (0, .nameAndType 13 14), (0, u "java/util/ArrayList"), (0, u "elementData"), (0, u "[Ljava/lang/Object;"), (2, u "EMPTY_ELEMENTDATA"), (21, .fieldref 10 40), (0, .nameAndType 41 14), (0, u "DEFAULTCAPACITY_EMPTY_ELEMENTDATA"), (4, u "toArray"), (0, u "()[Ljava/lang/Object;"), (0, .fieldref 10 49), (0, .nameAndType 50 51), (0, u "size"), (0, u "I"), (6, .class_ 60), (1, u "java/util/Arrays"), (0, u "copyOf"), (1, .fieldref 10 64), (0, .nameAndType 65 51), (0, u "modCount"), (0, .methodref 58 67), (0, .nameAndType 61 68), (0, u "([Ljava/lang/Object;I)[Ljava/lang/Object;"), (0, .methodref 10 70), (0, .nameAndType 71 72), (0, u "grow"), (0, u "(I)[Ljava/lang/Object;"), (6, .methodref 80 81), (0, .class_ 82), (0, .nameAndType 83 84), (0, u "java/lang/Math"), (0, u "max"), (0, u "(II)I"), (11, u "(Ljava/lang/Object;)Z"), (32, .methodref 10 130), (0, .nameAndType 71 47), (0, .methodref 10 132), (0, .nameAndType 133 134), (0, u "add"), (0, u "(Ljava/lang/Object;[Ljava/lang/Object;I)V"), (13, .class_ 149), (0, u "java/util/List"), (23, u "()Z"), (88, .class_ 263), (0, u "java/util/ArrayList$ListItr"), (3, .class_ 268), (0, u "java/util/ArrayList$Itr"), (7, .class_ 277), (0, u "java/util/ArrayList$SubList"), (12, .class_ 291), (0, u "java/util/ArrayList$ArrayListSpliterator"), (37, .class_ 330), (0, u "java/util/RandomAccess"), (0, .class_ 332), (0, u "java/lang/Cloneable"), (0, .class_ 334), (0, u "java/io/Serializable"), (0, u "serialVersionUID"), (0, u "J"), (3, u "DEFAULT_CAPACITY"), (22, u "isEmpty"), (136, .class_ 501), (0, u "java/util/ArrayList$SubList$2"), (0, .class_ 503), (0, u "java/util/ArrayList$SubList$1")] 5

def k11c0 : Code := { maxStack := 2, maxLocals := 1, code := jdk_38_method_2_code, exceptionTable := #[], attributes := #[] }
def k11m0 : Method := { name := "<init>", desc := "()V", sig := { parameters := [], returnType := none }, accessFlags := 1, code := some k11c0 }
def k11c1 : Code := { maxStack := 4, maxLocals := 4, code := jdk_38_method_6_code, exceptionTable := #[], attributes := #[] }
def k11m1 : Method := { name := "grow", desc := "(I)[Ljava/lang/Object;", sig := { parameters := [.int], returnType := some (.array (.object "java/lang/Object")) }, accessFlags := 2, code := some k11c1 }
def k11c2 : Code := { maxStack := 3, maxLocals := 1, code := jdk_38_method_7_code, exceptionTable := #[], attributes := #[] }
def k11m2 : Method := { name := "grow", desc := "()[Ljava/lang/Object;", sig := { parameters := [], returnType := some (.array (.object "java/lang/Object")) }, accessFlags := 2, code := some k11c2 }
def k11c3 : Code := { maxStack := 1, maxLocals := 1, code := jdk_38_method_9_code, exceptionTable := #[], attributes := #[] }
def k11m3 : Method := { name := "isEmpty", desc := "()Z", sig := { parameters := [], returnType := some .boolean }, accessFlags := 1, code := some k11c3 }
def k11c4 : Code := { maxStack := 2, maxLocals := 1, code := jdk_38_method_16_code, exceptionTable := #[], attributes := #[] }
def k11m4 : Method := { name := "toArray", desc := "()[Ljava/lang/Object;", sig := { parameters := [], returnType := some (.array (.object "java/lang/Object")) }, accessFlags := 1, code := some k11c4 }
def k11c5 : Code := { maxStack := 3, maxLocals := 4, code := jdk_38_method_24_code, exceptionTable := #[], attributes := #[] }
def k11m5 : Method := { name := "add", desc := "(Ljava/lang/Object;[Ljava/lang/Object;I)V", sig := { parameters := [(.object "java/lang/Object"), (.array (.object "java/lang/Object")), .int], returnType := none }, accessFlags := 2, code := some k11c5 }
def k11c6 : Code := { maxStack := 4, maxLocals := 2, code := jdk_38_method_25_code, exceptionTable := #[], attributes := #[] }
def k11m6 : Method := { name := "add", desc := "(Ljava/lang/Object;)Z", sig := { parameters := [(.object "java/lang/Object")], returnType := some .boolean }, accessFlags := 1, code := some k11c6 }
/-- java/util/ArrayList -/
def k11 : Class := { plain "java/util/ArrayList" (some 7) with
  accessFlags := 33
  interfaces := #[6, 8, 9, 10]
  cf := some (fileOf pool11 10 #[.nestMembers #[290, 276, 500, 502, 262, 267]] #[{ accessFlags := 1, nameIndex := 5, descriptorIndex := 6, attributes := #[] }, { accessFlags := 2, nameIndex := 71, descriptorIndex := 72, attributes := #[] }, { accessFlags := 2, nameIndex := 71, descriptorIndex := 47, attributes := #[] }, { accessFlags := 1, nameIndex := 363, descriptorIndex := 173, attributes := #[] }, { accessFlags := 1, nameIndex := 46, descriptorIndex := 47, attributes := #[] }, { accessFlags := 2, nameIndex := 133, descriptorIndex := 134, attributes := #[] }, { accessFlags := 1, nameIndex := 133, descriptorIndex := 96, attributes := #[] }] 33 2 #[148, 329, 331, 333] #[{ accessFlags := 26, nameIndex := 335, descriptorIndex := 336, attributes := #[] }, { accessFlags := 26, nameIndex := 340, descriptorIndex := 51, attributes := #[] }, { accessFlags := 26, nameIndex := 17, descriptorIndex := 14, attributes := #[] }, { accessFlags := 26, nameIndex := 41, descriptorIndex := 14, attributes := #[] }, { accessFlags := 128, nameIndex := 13, descriptorIndex := 14, attributes := #[] }, { accessFlags := 2, nameIndex := 50, descriptorIndex := 51, attributes := #[] }])
  fields := #[{ name := "serialVersionUID", type := .long, accessFlags := 26, slot := 0, constantValue := 0 }, { name := "DEFAULT_CAPACITY", type := .int, accessFlags := 26, slot := 1, constantValue := 0 }, { name := "EMPTY_ELEMENTDATA", type := (.array (.object "java/lang/Object")), accessFlags := 26, slot := 2, constantValue := 0 }, { name := "DEFAULTCAPACITY_EMPTY_ELEMENTDATA", type := (.array (.object "java/lang/Object")), accessFlags := 26, slot := 3, constantValue := 0 }, { name := "elementData", type := (.array (.object "java/lang/Object")), accessFlags := 128, slot := 1, constantValue := 0 }, { name := "size", type := .int, accessFlags := 2, slot := 2, constantValue := 0 }]
  methods := #[k11m0, k11m1, k11m2, k11m3, k11m4, k11m5, k11m6]
  instanceTypes := #[.int, (.array (.object "java/lang/Object")), .int]
  staticTypes := #[.long, .int, (.array (.object "java/lang/Object")), (.array (.object "java/lang/Object"))]
  resolved := Array.replicate 509 none
  statics := some 0 }

def pool12 : Array CpInfo := pool [(1, .methodref 2 3), (0, .class_ 4), (0, .nameAndType 5 6), (0, u "java/lang/Object"), (0, u "<init>"), (0, u "()V"), (0, .class_ 8), (0, u "java/lang/Record")] 13

def k12c0 : Code := { maxStack := 1, maxLocals := 1, code := jdk_30_method_1_code, exceptionTable := #[], attributes := #[] }
def k12m0 : Method := { name := "<init>", desc := "()V", sig := { parameters := [], returnType := none }, accessFlags := 4, code := some k12c0 }
/-- java/lang/Record -/
def k12 : Class := { plain "java/lang/Record" (some 0) with
  accessFlags := 1057
  interfaces := #[]
  cf := some (fileOf pool12 7 #[] #[{ accessFlags := 4, nameIndex := 5, descriptorIndex := 6, attributes := #[] }] 1057 2 #[] #[])
  fields := #[]
  methods := #[k12m0]
  instanceTypes := #[]
  staticTypes := #[]
  resolved := Array.replicate 22 none
  statics := none }

def pool13 : Array CpInfo := pool [(1, .methodref 2 3), (0, .class_ 4), (0, .nameAndType 5 6), (0, u "java/lang/Record"), (0, u "<init>"), (0, u "()V"), (0, .fieldref 8 9), (0, .class_ 10), (0, .nameAndType 11 12), (0, u "com/example/stackloom/stackloom/model/KernelLayout$Task"), (0, u "entry"), (0, u "I"), (0, .fieldref 8 14), (0, .nameAndType 15 12), (0, u "lowest"), (0, .fieldref 8 17), (0, .nameAndType 18 12), (0, u "highest"), (0, .methodref 8 20), (0, .nameAndType 21 22), (0, u "top"), (0, u "()I"), (12, u "(III)V"), (3, u "spans"), (0, u "(I)Z"), (6, .class_ 48), (0, u "com/example/stackloom/stackloom/model/KernelLayout")] 21

def k13c0 : Code := { maxStack := 2, maxLocals := 4, code := prog_27_method_1_code, exceptionTable := #[], attributes := #[] }
def k13m0 : Method := { name := "<init>", desc := "(III)V", sig := { parameters := [.int, .int, .int], returnType := none }, accessFlags := 1, code := some k13c0 }
def k13c1 : Code := { maxStack := 2, maxLocals := 1, code := prog_27_method_2_code, exceptionTable := #[], attributes := #[] }
def k13m1 : Method := { name := "top", desc := "()I", sig := { parameters := [], returnType := some .int }, accessFlags := 1, code := some k13c1 }
def k13c2 : Code := { maxStack := 2, maxLocals := 2, code := prog_27_method_3_code, exceptionTable := #[], attributes := #[] }
def k13m2 : Method := { name := "spans", desc := "(I)Z", sig := { parameters := [.int], returnType := some .boolean }, accessFlags := 1, code := some k13c2 }
/-- com/example/stackloom/stackloom/model/KernelLayout$Task -/
def k13 : Class := { plain "com/example/stackloom/stackloom/model/KernelLayout$Task" (some 12) with
  accessFlags := 49
  interfaces := #[]
  cf := some (fileOf pool13 8 #[.nestHost 47] #[{ accessFlags := 1, nameIndex := 5, descriptorIndex := 35, attributes := #[] }, { accessFlags := 1, nameIndex := 21, descriptorIndex := 22, attributes := #[] }, { accessFlags := 1, nameIndex := 39, descriptorIndex := 40, attributes := #[] }] 49 2 #[] #[{ accessFlags := 18, nameIndex := 11, descriptorIndex := 12, attributes := #[] }, { accessFlags := 18, nameIndex := 15, descriptorIndex := 12, attributes := #[] }, { accessFlags := 18, nameIndex := 18, descriptorIndex := 12, attributes := #[] }])
  fields := #[{ name := "entry", type := .int, accessFlags := 18, slot := 0, constantValue := 0 }, { name := "lowest", type := .int, accessFlags := 18, slot := 1, constantValue := 0 }, { name := "highest", type := .int, accessFlags := 18, slot := 2, constantValue := 0 }]
  methods := #[k13m0, k13m1, k13m2]
  instanceTypes := #[.int, .int, .int]
  staticTypes := #[]
  resolved := Array.replicate 70 none
  statics := none }

def pool14 : Array CpInfo := pool [(1, .class_ 2), (0, u "java/lang/Math"), (1, .class_ 6), (1, u "java/lang/Object"), (0, u "<init>"), (0, u "()V"), (89, .class_ 100), (1, u "java/lang/Math$RandomNumberGeneratorHolder"), (71, u "negativeZeroFloatBits"), (0, u "J"), (2, u "negativeZeroDoubleBits"), (21, u "max"), (2, u "min"), (43, u "$assertionsDisabled"), (0, u "Z"), (88, u "(II)I"), (2, u "twoToTheDoubleScaleDown"), (0, u "D"), (4, u "twoToTheDoubleScaleUp"), (9, u "E"), (3, u "PI"), (2, u "TAU"), (2, u "DEGREES_TO_RADIANS"), (0, u "RADIANS_TO_DEGREES")] 94

def k14m0 : Method := { name := "<init>", desc := "()V", sig := { parameters := [], returnType := none }, accessFlags := 2, code := none }
def k14c1 : Code := { maxStack := 2, maxLocals := 2, code := jdk_29_method_65_code, exceptionTable := #[], attributes := #[] }
def k14m1 : Method := { name := "max", desc := "(II)I", sig := { parameters := [.int, .int], returnType := some .int }, accessFlags := 9, code := some k14c1 }
def k14c2 : Code := { maxStack := 2, maxLocals := 2, code := jdk_29_method_69_code, exceptionTable := #[], attributes := #[] }
def k14m2 : Method := { name := "min", desc := "(II)I", sig := { parameters := [.int, .int], returnType := some .int }, accessFlags := 9, code := some k14c2 }
/-- java/lang/Math -/
def k14 : Class := { plain "java/lang/Math" (some 0) with
  accessFlags := 49
  interfaces := #[]
  cf := some (fileOf pool14 1 #[.nestMembers #[98]] #[{ accessFlags := 2, nameIndex := 7, descriptorIndex := 8, attributes := #[] }, { accessFlags := 9, nameIndex := 198, descriptorIndex := 335, attributes := #[] }, { accessFlags := 9, nameIndex := 201, descriptorIndex := 335, attributes := #[] }] 49 4 #[] #[{ accessFlags := 25, nameIndex := 354, descriptorIndex := 339, attributes := #[] }, { accessFlags := 25, nameIndex := 358, descriptorIndex := 339, attributes := #[] }, { accessFlags := 25, nameIndex := 361, descriptorIndex := 339, attributes := #[] }, { accessFlags := 26, nameIndex := 364, descriptorIndex := 339, attributes := #[] }, { accessFlags := 26, nameIndex := 365, descriptorIndex := 339, attributes := #[] }, { accessFlags := 26, nameIndex := 172, descriptorIndex := 173, attributes := #[] }, { accessFlags := 26, nameIndex := 176, descriptorIndex := 173, attributes := #[] }, { accessFlags := 8, nameIndex := 344, descriptorIndex := 339, attributes := #[] }, { accessFlags := 8, nameIndex := 338, descriptorIndex := 339, attributes := #[] }, { accessFlags := 4120, nameIndex := 245, descriptorIndex := 246, attributes := #[] }])
  fields := #[{ name := "E", type := .double, accessFlags := 25, slot := 0, constantValue := 0 }, { name := "PI", type := .double, accessFlags := 25, slot := 1, constantValue := 0 }, { name := "TAU", type := .double, accessFlags := 25, slot := 2, constantValue := 0 }, { name := "DEGREES_TO_RADIANS", type := .double, accessFlags := 26, slot := 3, constantValue := 0 }, { name := "RADIANS_TO_DEGREES", type := .double, accessFlags := 26, slot := 4, constantValue := 0 }, { name := "negativeZeroFloatBits", type := .long, accessFlags := 26, slot := 5, constantValue := 0 }, { name := "negativeZeroDoubleBits", type := .long, accessFlags := 26, slot := 6, constantValue := 0 }, { name := "twoToTheDoubleScaleUp", type := .double, accessFlags := 8, slot := 7, constantValue := 0 }, { name := "twoToTheDoubleScaleDown", type := .double, accessFlags := 8, slot := 8, constantValue := 0 }, { name := "$assertionsDisabled", type := .boolean, accessFlags := 4120, slot := 9, constantValue := 0 }]
  methods := #[k14m0, k14m1, k14m2]
  instanceTypes := #[]
  staticTypes := #[.double, .double, .double, .double, .double, .long, .long, .double, .double, .boolean]
  resolved := Array.replicate 460 none
  statics := none }

def pool15 : Array CpInfo := pool [(1, .methodref 2 3), (0, .class_ 4), (0, .nameAndType 5 6), (0, u "java/lang/Record"), (0, u "<init>"), (0, u "()V"), (0, .interfaceMethodref 8 9), (0, .class_ 10), (0, .nameAndType 11 12), (0, u "java/util/List"), (0, u "copyOf"), (0, u "(Ljava/util/Collection;)Ljava/util/List;"), (0, .fieldref 14 15), (0, .class_ 16), (0, .nameAndType 17 18), (0, u "com/example/stackloom/stackloom/model/KernelLayout"), (0, u "start"), (0, u "I"), (0, .fieldref 14 20), (0, .nameAndType 21 18), (0, u "bytes"), (0, .fieldref 14 23), (0, .nameAndType 24 25), (0, u "slots"), (0, u "Ljava/util/List;"), (0, .fieldref 14 27), (0, .nameAndType 28 18), (0, u "tableBytes"), (0, .fieldref 14 30), (0, .nameAndType 31 18), (0, u "ramWords"), (0, .fieldref 14 33), (0, .nameAndType 34 25), (0, u "tasks"), (0, .interfaceMethodref 8 36), (0, .nameAndType 37 38), (0, u "of"), (0, u "()Ljava/util/List;"), (0, .methodref 14 40), (0, .nameAndType 5 41), (0, u "(IILjava/util/List;IILjava/util/List;)V"), (0, .interfaceMethodref 8 43), (0, .nameAndType 44 45), (0, u "iterator"), (0, u "()Ljava/util/Iterator;"), (0, .interfaceMethodref 47 48), (0, .class_ 49), (0, .nameAndType 50 51), (0, u "java/util/Iterator"), (0, u "hasNext"), (0, u "()Z"), (4, .class_ 57), (0, u "java/lang/Integer"), (3, u "()I"), (0, .class_ 63), (0, u "com/example/stackloom/stackloom/model/CoreLayout"), (0, .fieldref 62 65), (0, .nameAndType 66 18), (0, u "TIMER0_SLOT"), (0, .methodref 56 68), (0, .nameAndType 69 70), (0, u "valueOf"), (0, u "(I)Ljava/lang/Integer;"), (0, .interfaceMethodref 8 72), (0, .nameAndType 73 74), (0, u "contains"), (0, u "(Ljava/lang/Object;)Z"), (0, .interfaceMethodref 8 76), (0, .nameAndType 77 61), (0, u "size"), (0, .interfaceMethodref 8 79), (0, .nameAndType 80 81), (0, u "get"), (0, u "(I)Ljava/lang/Object;"), (0, .class_ 83), (0, u "com/example/stackloom/stackloom/model/KernelLayout$Task"), (0, .methodref 82 85), (0, .nameAndType 86 87), (0, u "spans"), (0, u "(I)Z"), (0, .methodref 82 89), (0, .nameAndType 90 61), (0, u "top"), (19, u "(IIILjava/util/List;)V"), (1, u "holds"), (1, u "keepsTimer0"), (1, u "taskOwning"), (0, u "(I)I")] 30

def k15c0 : Code := { maxStack := 2, maxLocals := 7, code := prog_26_method_1_code, exceptionTable := #[], attributes := #[] }
def k15m0 : Method := { name := "<init>", desc := "(IILjava/util/List;IILjava/util/List;)V", sig := { parameters := [.int, .int, (.object "java/util/List"), .int, .int, (.object "java/util/List")], returnType := none }, accessFlags := 1, code := some k15c0 }
def k15c1 : Code := { maxStack := 7, maxLocals := 5, code := prog_26_method_2_code, exceptionTable := #[], attributes := #[] }
def k15m1 : Method := { name := "<init>", desc := "(IIILjava/util/List;)V", sig := { parameters := [.int, .int, .int, (.object "java/util/List")], returnType := none }, accessFlags := 1, code := some k15c1 }
def k15c2 : Code := { maxStack := 4, maxLocals := 5, code := prog_26_method_3_code, exceptionTable := #[], attributes := #[] }
def k15m2 : Method := { name := "holds", desc := "(I)Z", sig := { parameters := [.int], returnType := some .boolean }, accessFlags := 1, code := some k15c2 }
def k15c3 : Code := { maxStack := 2, maxLocals := 1, code := prog_26_method_4_code, exceptionTable := #[], attributes := #[] }
def k15m3 : Method := { name := "keepsTimer0", desc := "()Z", sig := { parameters := [], returnType := some .boolean }, accessFlags := 1, code := some k15c3 }
def k15c4 : Code := { maxStack := 3, maxLocals := 4, code := prog_26_method_6_code, exceptionTable := #[], attributes := #[] }
def k15m4 : Method := { name := "taskOwning", desc := "(I)I", sig := { parameters := [.int], returnType := some .int }, accessFlags := 1, code := some k15c4 }
/-- com/example/stackloom/stackloom/model/KernelLayout -/
def k15 : Class := { plain "com/example/stackloom/stackloom/model/KernelLayout" (some 12) with
  accessFlags := 49
  interfaces := #[]
  cf := some (fileOf pool15 14 #[.nestMembers #[82]] #[{ accessFlags := 1, nameIndex := 5, descriptorIndex := 41, attributes := #[] }, { accessFlags := 1, nameIndex := 5, descriptorIndex := 110, attributes := #[] }, { accessFlags := 1, nameIndex := 112, descriptorIndex := 87, attributes := #[] }, { accessFlags := 1, nameIndex := 114, descriptorIndex := 51, attributes := #[] }, { accessFlags := 1, nameIndex := 116, descriptorIndex := 117, attributes := #[] }] 49 2 #[] #[{ accessFlags := 18, nameIndex := 17, descriptorIndex := 18, attributes := #[] }, { accessFlags := 18, nameIndex := 21, descriptorIndex := 18, attributes := #[] }, { accessFlags := 18, nameIndex := 24, descriptorIndex := 25, attributes := #[] }, { accessFlags := 18, nameIndex := 28, descriptorIndex := 18, attributes := #[] }, { accessFlags := 18, nameIndex := 31, descriptorIndex := 18, attributes := #[] }, { accessFlags := 18, nameIndex := 34, descriptorIndex := 25, attributes := #[] }])
  fields := #[{ name := "start", type := .int, accessFlags := 18, slot := 0, constantValue := 0 }, { name := "bytes", type := .int, accessFlags := 18, slot := 1, constantValue := 0 }, { name := "slots", type := (.object "java/util/List"), accessFlags := 18, slot := 2, constantValue := 0 }, { name := "tableBytes", type := .int, accessFlags := 18, slot := 3, constantValue := 0 }, { name := "ramWords", type := .int, accessFlags := 18, slot := 4, constantValue := 0 }, { name := "tasks", type := (.object "java/util/List"), accessFlags := 18, slot := 5, constantValue := 0 }]
  methods := #[k15m0, k15m1, k15m2, k15m3, k15m4]
  instanceTypes := #[.int, .int, (.object "java/util/List"), .int, .int, (.object "java/util/List")]
  staticTypes := #[]
  resolved := Array.replicate 148 none
  statics := none }

def pool16 : Array CpInfo := pool [(2, .class_ 4), (1, u "java/lang/Object"), (0, u "<init>"), (0, u "()V"), (3, .class_ 11), (0, u "java/util/ImmutableCollections$List12"), (0, .class_ 13), (0, u "java/util/ImmutableCollections$ListN"), (0, .fieldref 12 15), (0, .nameAndType 16 17), (0, u "allowNulls"), (0, u "Z"), (0, .class_ 19), (0, u "java/util/List"), (0, .interfaceMethodref 21 22), (0, .class_ 23), (0, .nameAndType 24 25), (0, u "java/util/Collection"), (0, u "isEmpty"), (0, u "()Z"), (2, u "of"), (1, .interfaceMethodref 21 31), (0, .nameAndType 32 33), (0, u "toArray"), (0, u "()[Ljava/lang/Object;"), (0, .interfaceMethodref 18 35), (0, .nameAndType 28 36), (0, u "([Ljava/lang/Object;)Ljava/util/List;"), (10, .class_ 49), (1, u "java/util/ImmutableCollections"), (0, u "$assertionsDisabled"), (5, u "[Ljava/lang/Object;"), (5, u "EMPTY_LIST"), (0, u "Ljava/util/ImmutableCollections$ListN;"), (8, u "EMPTY_LIST_NULLS"), (22, u "SALT32L"), (0, u "J"), (2, u "REVERSE"), (6, u "archivedObjects"), (2, u "EMPTY"), (0, u "Ljava/lang/Object;"), (0, .class_ 112), (0, u "java/util/ImmutableCollections$SetN"), (5, u "EMPTY_SET"), (0, u "Ljava/util/ImmutableCollections$SetN;"), (0, .class_ 121), (0, u "java/util/ImmutableCollections$MapN"), (3, u "EMPTY_MAP"), (0, u "Ljava/util/ImmutableCollections$MapN;"), (4, u "EXPAND_FACTOR"), (0, u "I"), (9, u "listCopy"), (0, u "(Ljava/util/Collection;)Ljava/util/List;"), (25, .class_ 170), (0, u "java/util/ImmutableCollections$MapN$MapNIterator"), (0, .class_ 172), (0, u "java/util/ImmutableCollections$MapN$1"), (0, .class_ 174), (0, u "java/util/ImmutableCollections$Map1"), (0, .class_ 176), (0, u "java/util/ImmutableCollections$AbstractImmutableMap"), (0, .class_ 178), (0, u "java/util/ImmutableCollections$SetN$SetNIterator"), (0, .class_ 180), (0, u "java/util/ImmutableCollections$Set12"), (0, .class_ 182), (0, u "java/util/ImmutableCollections$Set12$1"), (0, .class_ 184), (0, u "java/util/ImmutableCollections$AbstractImmutableSet"), (0, .class_ 186), (0, u "java/util/ImmutableCollections$SubList"), (0, .class_ 188), (0, u "java/util/ImmutableCollections$ListItr"), (0, .class_ 190), (0, u "java/util/ImmutableCollections$AbstractImmutableList"), (0, .class_ 192), (0, u "java/util/ImmutableCollections$AbstractImmutableCollection"), (0, .class_ 194), (0, u "java/util/ImmutableCollections$Access"), (0, .class_ 196), (0, u "java/util/ImmutableCollections$Access$1")] 16

def k16m0 : Method := { name := "<init>", desc := "()V", sig := { parameters := [], returnType := none }, accessFlags := 2, code := none }
def k16c1 : Code := { maxStack := 1, maxLocals := 2, code := jdk_56_method_3_code, exceptionTable := #[], attributes := #[] }
def k16m1 : Method := { name := "listCopy", desc := "(Ljava/util/Collection;)Ljava/util/List;", sig := { parameters := [(.object "java/util/Collection")], returnType := some (.object "java/util/List") }, accessFlags := 8, code := some k16c1 }
/-- java/util/ImmutableCollections -/
def k16 : Class := { plain "java/util/ImmutableCollections" (some 0) with
  accessFlags := 32
  interfaces := #[]
  cf := some (fileOf pool16 47 #[.nestMembers #[120, 169, 171, 173, 175, 111, 177, 179, 181, 183, 12, 10, 185, 187, 189, 191, 193, 195]] #[{ accessFlags := 2, nameIndex := 5, descriptorIndex := 6, attributes := #[] }, { accessFlags := 8, nameIndex := 142, descriptorIndex := 143, attributes := #[] }] 32 2 #[] #[{ accessFlags := 26, nameIndex := 95, descriptorIndex := 96, attributes := #[] }, { accessFlags := 26, nameIndex := 99, descriptorIndex := 17, attributes := #[] }, { accessFlags := 10, nameIndex := 106, descriptorIndex := 56, attributes := #[] }, { accessFlags := 26, nameIndex := 109, descriptorIndex := 110, attributes := #[] }, { accessFlags := 24, nameIndex := 62, descriptorIndex := 63, attributes := #[] }, { accessFlags := 24, nameIndex := 72, descriptorIndex := 63, attributes := #[] }, { accessFlags := 24, nameIndex := 118, descriptorIndex := 119, attributes := #[] }, { accessFlags := 24, nameIndex := 125, descriptorIndex := 126, attributes := #[] }, { accessFlags := 24, nameIndex := 131, descriptorIndex := 132, attributes := #[] }, { accessFlags := 4120, nameIndex := 50, descriptorIndex := 17, attributes := #[] }])
  fields := #[{ name := "SALT32L", type := .long, accessFlags := 26, slot := 0, constantValue := 0 }, { name := "REVERSE", type := .boolean, accessFlags := 26, slot := 1, constantValue := 0 }, { name := "archivedObjects", type := (.array (.object "java/lang/Object")), accessFlags := 10, slot := 2, constantValue := 0 }, { name := "EMPTY", type := (.object "java/lang/Object"), accessFlags := 26, slot := 3, constantValue := 0 }, { name := "EMPTY_LIST", type := (.object "java/util/ImmutableCollections$ListN"), accessFlags := 24, slot := 4, constantValue := 0 }, { name := "EMPTY_LIST_NULLS", type := (.object "java/util/ImmutableCollections$ListN"), accessFlags := 24, slot := 5, constantValue := 0 }, { name := "EMPTY_SET", type := (.object "java/util/ImmutableCollections$SetN"), accessFlags := 24, slot := 6, constantValue := 0 }, { name := "EMPTY_MAP", type := (.object "java/util/ImmutableCollections$MapN"), accessFlags := 24, slot := 7, constantValue := 0 }, { name := "EXPAND_FACTOR", type := .int, accessFlags := 24, slot := 8, constantValue := 0 }, { name := "$assertionsDisabled", type := .boolean, accessFlags := 4120, slot := 9, constantValue := 0 }]
  methods := #[k16m0, k16m1]
  instanceTypes := #[]
  staticTypes := #[.long, .boolean, (.array (.object "java/lang/Object")), (.object "java/lang/Object"), (.object "java/util/ImmutableCollections$ListN"), (.object "java/util/ImmutableCollections$ListN"), (.object "java/util/ImmutableCollections$SetN"), (.object "java/util/ImmutableCollections$MapN"), .int, .boolean]
  resolved := Array.replicate 213 none
  statics := some 1 }

def pool17 : Array CpInfo := pool [(1, .methodref 2 3), (0, .class_ 4), (0, .nameAndType 5 6), (0, u "java/util/AbstractCollection"), (0, u "<init>"), (0, u "()V"), (1, .class_ 10), (1, u "java/util/ImmutableCollections"), (2, .class_ 14), (0, u "java/util/ImmutableCollections$AbstractImmutableCollection")] 41

def k17c0 : Code := { maxStack := 1, maxLocals := 1, code := jdk_47_method_1_code, exceptionTable := #[], attributes := #[] }
def k17m0 : Method := { name := "<init>", desc := "()V", sig := { parameters := [], returnType := none }, accessFlags := 0, code := some k17c0 }
/-- java/util/ImmutableCollections$AbstractImmutableCollection -/
def k17 : Class := { plain "java/util/ImmutableCollections$AbstractImmutableCollection" (some 4) with
  accessFlags := 1056
  interfaces := #[]
  cf := some (fileOf pool17 13 #[.nestHost 8] #[{ accessFlags := 0, nameIndex := 5, descriptorIndex := 6, attributes := #[] }] 1056 2 #[] #[])
  fields := #[]
  methods := #[k17m0]
  instanceTypes := #[]
  staticTypes := #[]
  resolved := Array.replicate 56 none
  statics := none }

def pool18 : Array CpInfo := pool [(1, .methodref 2 3), (0, .class_ 4), (0, .nameAndType 5 6), (0, u "java/util/ImmutableCollections$AbstractImmutableCollection"), (0, u "<init>"), (0, u "()V"), (1, .class_ 10), (1, u "java/util/ImmutableCollections"), (2, .methodref 14 15), (0, .class_ 16), (0, .nameAndType 17 18), (0, u "java/util/ImmutableCollections$AbstractImmutableList"), (0, u "size"), (0, u "()I"), (42, .class_ 62), (0, u "java/util/ImmutableCollections$ListItr"), (0, .methodref 61 64), (0, .nameAndType 5 65), (0, u "(Ljava/util/List;I)V"), (11, .class_ 78), (0, u "java/util/List"), (2, u "iterator"), (0, u "()Ljava/util/Iterator;"), (23, u "(Ljava/lang/Object;)I"), (0, .methodref 14 108), (0, .nameAndType 109 106), (0, u "indexOf"), (14, .class_ 125), (0, u "java/util/RandomAccess"), (48, u "(Ljava/lang/Object;)Z"), (7, u "contains")] 13

def k18c0 : Code := { maxStack := 1, maxLocals := 1, code := jdk_46_method_1_code, exceptionTable := #[], attributes := #[] }
def k18m0 : Method := { name := "<init>", desc := "()V", sig := { parameters := [], returnType := none }, accessFlags := 0, code := some k18c0 }
def k18c1 : Code := { maxStack := 4, maxLocals := 1, code := jdk_46_method_10_code, exceptionTable := #[], attributes := #[] }
def k18m1 : Method := { name := "iterator", desc := "()Ljava/util/Iterator;", sig := { parameters := [], returnType := some (.object "java/util/Iterator") }, accessFlags := 1, code := some k18c1 }
def k18c2 : Code := { maxStack := 2, maxLocals := 2, code := jdk_46_method_15_code, exceptionTable := #[], attributes := #[] }
def k18m2 : Method := { name := "contains", desc := "(Ljava/lang/Object;)Z", sig := { parameters := [(.object "java/lang/Object")], returnType := some .boolean }, accessFlags := 1, code := some k18c2 }
/-- java/util/ImmutableCollections$AbstractImmutableList -/
def k18 : Class := { plain "java/util/ImmutableCollections$AbstractImmutableList" (some 17) with
  accessFlags := 1056
  interfaces := #[6, 8]
  cf := some (fileOf pool18 14 #[.nestHost 8] #[{ accessFlags := 0, nameIndex := 5, descriptorIndex := 6, attributes := #[] }, { accessFlags := 1, nameIndex := 81, descriptorIndex := 82, attributes := #[] }, { accessFlags := 1, nameIndex := 182, descriptorIndex := 174, attributes := #[] }] 1056 2 #[77, 124] #[])
  fields := #[]
  methods := #[k18m0, k18m1, k18m2]
  instanceTypes := #[]
  staticTypes := #[]
  resolved := Array.replicate 196 none
  statics := none }

def pool19 : Array CpInfo := pool [(1, .methodref 2 3), (0, .class_ 4), (0, .nameAndType 5 6), (0, u "java/util/ImmutableCollections$AbstractImmutableList"), (0, u "<init>"), (0, u "()V"), (0, .methodref 8 9), (0, .class_ 10), (0, .nameAndType 11 12), (0, u "java/util/Objects"), (0, u "requireNonNull"), (0, u "(Ljava/lang/Object;)Ljava/lang/Object;"), (0, .fieldref 14 15), (0, .class_ 16), (0, .nameAndType 17 18), (0, u "java/util/ImmutableCollections$List12"), (0, u "e0"), (0, u "Ljava/lang/Object;"), (0, .fieldref 20 21), (0, .class_ 22), (0, .nameAndType 23 18), (0, u "java/util/ImmutableCollections"), (0, u "EMPTY"), (0, .fieldref 14 25), (0, .nameAndType 26 18), (0, u "e1"), (24, u "size"), (0, u "()I"), (17, .class_ 71), (0, u "java/io/Serializable"), (4, u "(Ljava/lang/Object;)V"), (13, u "get"), (0, u "(I)Ljava/lang/Object;")] 33

def k19c0 : Code := { maxStack := 2, maxLocals := 2, code := jdk_44_method_1_code, exceptionTable := #[], attributes := #[] }
def k19m0 : Method := { name := "<init>", desc := "(Ljava/lang/Object;)V", sig := { parameters := [(.object "java/lang/Object")], returnType := none }, accessFlags := 0, code := some k19c0 }
def k19c1 : Code := { maxStack := 2, maxLocals := 1, code := jdk_44_method_3_code, exceptionTable := #[], attributes := #[] }
def k19m1 : Method := { name := "size", desc := "()I", sig := { parameters := [], returnType := some .int }, accessFlags := 1, code := some k19c1 }
def k19c2 : Code := { maxStack := 2, maxLocals := 2, code := jdk_44_method_5_code, exceptionTable := #[], attributes := #[] }
def k19m2 : Method := { name := "get", desc := "(I)Ljava/lang/Object;", sig := { parameters := [.int], returnType := some (.object "java/lang/Object") }, accessFlags := 1, code := some k19c2 }
/-- java/util/ImmutableCollections$List12 -/
def k19 : Class := { plain "java/util/ImmutableCollections$List12" (some 18) with
  accessFlags := 48
  interfaces := #[10]
  cf := some (fileOf pool19 14 #[.nestHost 20] #[{ accessFlags := 0, nameIndex := 5, descriptorIndex := 76, attributes := #[] }, { accessFlags := 1, nameIndex := 51, descriptorIndex := 52, attributes := #[] }, { accessFlags := 1, nameIndex := 90, descriptorIndex := 91, attributes := #[] }] 48 2 #[70] #[{ accessFlags := 18, nameIndex := 17, descriptorIndex := 18, attributes := #[] }, { accessFlags := 18, nameIndex := 26, descriptorIndex := 18, attributes := #[] }])
  fields := #[{ name := "e0", type := (.object "java/lang/Object"), accessFlags := 18, slot := 0, constantValue := 0 }, { name := "e1", type := (.object "java/lang/Object"), accessFlags := 18, slot := 1, constantValue := 0 }]
  methods := #[k19m0, k19m1, k19m2]
  instanceTypes := #[(.object "java/lang/Object"), (.object "java/lang/Object")]
  staticTypes := #[]
  resolved := Array.replicate 125 none
  statics := none }

def pool20 : Array CpInfo := pool [(2, .class_ 4), (1, u "java/util/ImmutableCollections$AbstractImmutableList"), (2, .fieldref 8 9), (0, .class_ 10), (0, .nameAndType 11 12), (0, u "java/util/ImmutableCollections$ListN"), (0, u "elements"), (0, u "[Ljava/lang/Object;"), (0, .fieldref 8 14), (0, .nameAndType 15 16), (0, u "allowNulls"), (0, u "Z"), (42, .class_ 60), (0, u "java/io/Serializable"), (16, u "size"), (0, u "()I"), (22, u "indexOf"), (0, u "(Ljava/lang/Object;)I"), (11, .class_ 115), (0, u "java/util/ImmutableCollections")] 3

def k20c0 : Code := { maxStack := 1, maxLocals := 1, code := jdk_45_method_3_code, exceptionTable := #[], attributes := #[] }
def k20m0 : Method := { name := "size", desc := "()I", sig := { parameters := [], returnType := some .int }, accessFlags := 1, code := some k20c0 }
def k20c1 : Code := { maxStack := 3, maxLocals := 4, code := jdk_45_method_9_code, exceptionTable := #[], attributes := #[] }
def k20m1 : Method := { name := "indexOf", desc := "(Ljava/lang/Object;)I", sig := { parameters := [(.object "java/lang/Object")], returnType := some .int }, accessFlags := 1, code := some k20c1 }
/-- java/util/ImmutableCollections$ListN -/
def k20 : Class := { plain "java/util/ImmutableCollections$ListN" (some 18) with
  accessFlags := 48
  interfaces := #[10]
  cf := some (fileOf pool20 8 #[.nestHost 114] #[{ accessFlags := 1, nameIndex := 77, descriptorIndex := 78, attributes := #[] }, { accessFlags := 1, nameIndex := 101, descriptorIndex := 102, attributes := #[] }] 48 2 #[59] #[{ accessFlags := 18, nameIndex := 11, descriptorIndex := 12, attributes := #[] }, { accessFlags := 18, nameIndex := 15, descriptorIndex := 16, attributes := #[] }])
  fields := #[{ name := "elements", type := (.array (.object "java/lang/Object")), accessFlags := 18, slot := 0, constantValue := 0 }, { name := "allowNulls", type := .boolean, accessFlags := 18, slot := 1, constantValue := 0 }]
  methods := #[k20m0, k20m1]
  instanceTypes := #[(.array (.object "java/lang/Object")), .boolean]
  staticTypes := #[]
  resolved := Array.replicate 119 none
  statics := none }

def pool21 : Array CpInfo := pool [(2, .class_ 4), (1, u "java/lang/Object"), (0, u "<init>"), (0, u "()V"), (7, .class_ 16), (1, u "java/util/Arrays"), (57, .class_ 76), (1, u "java/util/Arrays$NaturalOrder"), (9, .methodref 2 87), (0, .nameAndType 88 89), (0, u "getClass"), (0, u "()Ljava/lang/Class;"), (20, .class_ 111), (0, u "[Ljava/lang/Object;"), (1, .class_ 115), (1, u "java/util/Arrays$LegacyMergeSort"), (1, u "Z"), (32, .methodref 151 152), (0, .class_ 153), (0, .nameAndType 154 155), (0, u "java/lang/System"), (0, u "arraycopy"), (0, u "(Ljava/lang/Object;ILjava/lang/Object;II)V"), (144, .methodref 14 301), (0, .nameAndType 302 303), (0, u "copyOf"), (0, u "([Ljava/lang/Object;ILjava/lang/Class;)[Ljava/lang/Object;"), (0, .methodref 305 306), (0, .class_ 307), (0, .nameAndType 308 309), (0, u "java/lang/Math"), (0, u "min"), (0, u "(II)I"), (65, .class_ 376), (0, u "java/util/Arrays$ArrayList"), (68, u "$assertionsDisabled"), (269, u "MIN_ARRAY_SORT_GRAN"), (0, u "I"), (2, u "INSERTIONSORT_THRESHOLD"), (140, u "([Ljava/lang/Object;I)[Ljava/lang/Object;"), (114, .class_ 976), (0, u "java/util/Arrays$ArrayItr")] 52

def k21m0 : Method := { name := "<init>", desc := "()V", sig := { parameters := [], returnType := none }, accessFlags := 2, code := none }
def k21c1 : Code := { maxStack := 3, maxLocals := 2, code := jdk_65_method_119_code, exceptionTable := #[], attributes := #[] }
def k21m1 : Method := { name := "copyOf", desc := "([Ljava/lang/Object;I)[Ljava/lang/Object;", sig := { parameters := [(.array (.object "java/lang/Object")), .int], returnType := some (.array (.object "java/lang/Object")) }, accessFlags := 9, code := some k21c1 }
def k21c2 : Code := { maxStack := 6, maxLocals := 4, code := jdk_65_method_120_code, exceptionTable := #[], attributes := #[] }
def k21m2 : Method := { name := "copyOf", desc := "([Ljava/lang/Object;ILjava/lang/Class;)[Ljava/lang/Object;", sig := { parameters := [(.array (.object "java/lang/Object")), .int, (.object "java/lang/Class")], returnType := some (.array (.object "java/lang/Object")) }, accessFlags := 9, code := some k21c2 }
/-- java/util/Arrays -/
def k21 : Class := { plain "java/util/Arrays" (some 0) with
  accessFlags := 49
  interfaces := #[]
  cf := some (fileOf pool21 14 #[.nestMembers #[975, 375, 113, 74]] #[{ accessFlags := 2, nameIndex := 5, descriptorIndex := 6, attributes := #[] }, { accessFlags := 9, nameIndex := 302, descriptorIndex := 860, attributes := #[] }, { accessFlags := 9, nameIndex := 302, descriptorIndex := 303, attributes := #[] }] 49 2 #[] #[{ accessFlags := 26, nameIndex := 715, descriptorIndex := 716, attributes := #[] }, { accessFlags := 26, nameIndex := 719, descriptorIndex := 716, attributes := #[] }, { accessFlags := 4120, nameIndex := 445, descriptorIndex := 117, attributes := #[] }])
  fields := #[{ name := "MIN_ARRAY_SORT_GRAN", type := .int, accessFlags := 26, slot := 0, constantValue := 0 }, { name := "INSERTIONSORT_THRESHOLD", type := .int, accessFlags := 26, slot := 1, constantValue := 0 }, { name := "$assertionsDisabled", type := .boolean, accessFlags := 4120, slot := 2, constantValue := 0 }]
  methods := #[k21m0, k21m1, k21m2]
  instanceTypes := #[]
  staticTypes := #[.int, .int, .boolean]
  resolved := Array.replicate 1029 none
  statics := none }

def pool22 : Array CpInfo := pool [(2, .class_ 4), (1, u "java/lang/Object"), (0, u "<init>"), (0, u "()V"), (1, .class_ 10), (1, u "java/lang/System"), (0, u "allowSecurityManager"), (0, u "I"), (16, u "cons"), (0, u "Ljava/io/Console;"), (77, .class_ 110), (1, u "java/lang/System$CallersHolder"), (43, u "initialErrStream"), (0, u "Ljava/io/PrintStream;"), (19, u "security"), (0, u "Ljava/lang/SecurityManager;"), (31, .class_ 209), (0, u "java/lang/System$1"), (7, u "props"), (0, u "Ljava/util/Properties;"), (2, u "lineSeparator"), (0, u "Ljava/lang/String;"), (96, .class_ 321), (1, u "java/lang/System$LoggerFinder"), (5, .class_ 328), (0, u "java/lang/System$Logger"), (67, u "err"), (2, u "out"), (91, u "notSupportedJnuEncoding"), (15, u "in"), (17, u "initialIn"), (0, u "Ljava/io/InputStream;"), (35, u "bootLayer"), (0, u "Ljava/lang/ModuleLayer;"), (99, .class_ 664), (0, u "java/lang/System$2"), (9, u "NEVER"), (2, u "MAYBE"), (49, u "arraycopy"), (0, u "(Ljava/lang/Object;ILjava/lang/Object;II)V"), (72, .class_ 802), (0, u "java/lang/System$Logger$Level")] 31

def k22m0 : Method := { name := "<init>", desc := "()V", sig := { parameters := [], returnType := none }, accessFlags := 2, code := none }
def k22m1 : Method := { name := "arraycopy", desc := "(Ljava/lang/Object;ILjava/lang/Object;II)V", sig := { parameters := [(.object "java/lang/Object"), .int, (.object "java/lang/Object"), .int, .int], returnType := none }, accessFlags := 265, code := none }
/-- java/lang/System -/
def k22 : Class := { plain "java/lang/System" (some 0) with
  accessFlags := 49
  interfaces := #[]
  cf := some (fileOf pool22 8 #[.nestMembers #[319, 327, 801, 108, 663, 208]] #[{ accessFlags := 2, nameIndex := 5, descriptorIndex := 6, attributes := #[] }, { accessFlags := 265, nameIndex := 727, descriptorIndex := 728, attributes := #[] }] 49 2 #[] #[{ accessFlags := 25, nameIndex := 507, descriptorIndex := 526, attributes := #[] }, { accessFlags := 25, nameIndex := 399, descriptorIndex := 155, attributes := #[] }, { accessFlags := 25, nameIndex := 396, descriptorIndex := 155, attributes := #[] }, { accessFlags := 10, nameIndex := 525, descriptorIndex := 526, attributes := #[] }, { accessFlags := 26, nameIndex := 674, descriptorIndex := 12, attributes := #[] }, { accessFlags := 26, nameIndex := 677, descriptorIndex := 12, attributes := #[] }, { accessFlags := 10, nameIndex := 11, descriptorIndex := 12, attributes := #[] }, { accessFlags := 74, nameIndex := 175, descriptorIndex := 176, attributes := #[] }, { accessFlags := 10, nameIndex := 491, descriptorIndex := 222, attributes := #[] }, { accessFlags := 74, nameIndex := 29, descriptorIndex := 30, attributes := #[] }, { accessFlags := 74, nameIndex := 154, descriptorIndex := 155, attributes := #[] }, { accessFlags := 10, nameIndex := 217, descriptorIndex := 218, attributes := #[] }, { accessFlags := 10, nameIndex := 221, descriptorIndex := 222, attributes := #[] }, { accessFlags := 8, nameIndex := 562, descriptorIndex := 563, attributes := #[] }])
  fields := #[{ name := "in", type := (.object "java/io/InputStream"), accessFlags := 25, slot := 0, constantValue := 0 }, { name := "out", type := (.object "java/io/PrintStream"), accessFlags := 25, slot := 1, constantValue := 0 }, { name := "err", type := (.object "java/io/PrintStream"), accessFlags := 25, slot := 2, constantValue := 0 }, { name := "initialIn", type := (.object "java/io/InputStream"), accessFlags := 10, slot := 3, constantValue := 0 }, { name := "NEVER", type := .int, accessFlags := 26, slot := 4, constantValue := 0 }, { name := "MAYBE", type := .int, accessFlags := 26, slot := 5, constantValue := 0 }, { name := "allowSecurityManager", type := .int, accessFlags := 10, slot := 6, constantValue := 0 }, { name := "security", type := (.object "java/lang/SecurityManager"), accessFlags := 74, slot := 7, constantValue := 0 }, { name := "notSupportedJnuEncoding", type := (.object "java/lang/String"), accessFlags := 10, slot := 8, constantValue := 0 }, { name := "cons", type := (.object "java/io/Console"), accessFlags := 74, slot := 9, constantValue := 0 }, { name := "initialErrStream", type := (.object "java/io/PrintStream"), accessFlags := 74, slot := 10, constantValue := 0 }, { name := "props", type := (.object "java/util/Properties"), accessFlags := 10, slot := 11, constantValue := 0 }, { name := "lineSeparator", type := (.object "java/lang/String"), accessFlags := 10, slot := 12, constantValue := 0 }, { name := "bootLayer", type := (.object "java/lang/ModuleLayer"), accessFlags := 8, slot := 13, constantValue := 0 }]
  methods := #[k22m0, k22m1]
  instanceTypes := #[]
  staticTypes := #[(.object "java/io/InputStream"), (.object "java/io/PrintStream"), (.object "java/io/PrintStream"), (.object "java/io/InputStream"), .int, .int, .int, (.object "java/lang/SecurityManager"), (.object "java/lang/String"), (.object "java/io/Console"), (.object "java/io/PrintStream"), (.object "java/util/Properties"), (.object "java/lang/String"), (.object "java/lang/ModuleLayer")]
  resolved := Array.replicate 834 none
  statics := none }

def pool23 : Array CpInfo := pool [(2, .class_ 4), (1, u "java/lang/Object"), (0, u "<init>"), (0, u "()V"), (35, .class_ 44), (1, u "java/util/Objects"), (0, u "requireNonNull"), (0, u "(Ljava/lang/Object;)Ljava/lang/Object;")] 137

def k23m0 : Method := { name := "<init>", desc := "()V", sig := { parameters := [], returnType := none }, accessFlags := 2, code := none }
def k23c1 : Code := { maxStack := 2, maxLocals := 1, code := jdk_31_method_10_code, exceptionTable := #[], attributes := #[] }
def k23m1 : Method := { name := "requireNonNull", desc := "(Ljava/lang/Object;)Ljava/lang/Object;", sig := { parameters := [(.object "java/lang/Object")], returnType := some (.object "java/lang/Object") }, accessFlags := 9, code := some k23c1 }
/-- java/util/Objects -/
def k23 : Class := { plain "java/util/Objects" (some 0) with
  accessFlags := 49
  interfaces := #[]
  cf := some (fileOf pool23 42 #[] #[{ accessFlags := 2, nameIndex := 5, descriptorIndex := 6, attributes := #[] }, { accessFlags := 9, nameIndex := 45, descriptorIndex := 46, attributes := #[] }] 49 2 #[] #[])
  fields := #[]
  methods := #[k23m0, k23m1]
  instanceTypes := #[]
  staticTypes := #[]
  resolved := Array.replicate 184 none
  statics := none }

def pool24 : Array CpInfo := pool [(1, .fieldref 2 3), (0, .class_ 4), (0, .nameAndType 5 6), (0, u "java/util/Optional"), (0, u "EMPTY"), (0, u "Ljava/util/Optional;"), (0, .methodref 8 9), (0, .class_ 10), (0, .nameAndType 11 12), (0, u "java/lang/Object"), (0, u "<init>"), (0, u "()V"), (0, .fieldref 2 14), (0, .nameAndType 15 16), (0, u "value"), (0, u "Ljava/lang/Object;"), (0, .methodref 18 19), (0, .class_ 20), (0, .nameAndType 21 22), (0, u "java/util/Objects"), (0, u "requireNonNull"), (0, u "(Ljava/lang/Object;)Ljava/lang/Object;"), (0, .methodref 2 24), (0, .nameAndType 11 25), (0, u "(Ljava/lang/Object;)V"), (17, .methodref 2 44), (0, .nameAndType 45 46), (0, u "isEmpty"), (0, u "()Z"), (6, .methodref 2 54), (0, .nameAndType 55 56), (0, u "empty"), (0, u "()Ljava/util/Optional;"), (0, .interfaceMethodref 58 59), (0, .class_ 60), (0, .nameAndType 61 22), (0, u "java/util/function/Function"), (0, u "apply"), (0, .methodref 2 63), (0, .nameAndType 64 65), (0, u "ofNullable"), (0, u "(Ljava/lang/Object;)Ljava/util/Optional;"), (2, u "isPresent"), (5, u "()Ljava/lang/Object;"), (7, u "of"), (63, u "map"), (0, u "(Ljava/util/function/Function;)Ljava/util/Optional;"), (17, u "orElse"), (6, u "orElseThrow")] 14

def k24c0 : Code := { maxStack := 1, maxLocals := 1, code := jdk_32_method_1_code, exceptionTable := #[], attributes := #[] }
def k24m0 : Method := { name := "empty", desc := "()Ljava/util/Optional;", sig := { parameters := [], returnType := some (.object "java/util/Optional") }, accessFlags := 9, code := some k24c0 }
def k24c1 : Code := { maxStack := 2, maxLocals := 2, code := jdk_32_method_2_code, exceptionTable := #[], attributes := #[] }
def k24m1 : Method := { name := "<init>", desc := "(Ljava/lang/Object;)V", sig := { parameters := [(.object "java/lang/Object")], returnType := none }, accessFlags := 2, code := some k24c1 }
def k24c2 : Code := { maxStack := 3, maxLocals := 1, code := jdk_32_method_3_code, exceptionTable := #[], attributes := #[] }
def k24m2 : Method := { name := "of", desc := "(Ljava/lang/Object;)Ljava/util/Optional;", sig := { parameters := [(.object "java/lang/Object")], returnType := some (.object "java/util/Optional") }, accessFlags := 9, code := some k24c2 }
def k24c3 : Code := { maxStack := 3, maxLocals := 1, code := jdk_32_method_4_code, exceptionTable := #[], attributes := #[] }
def k24m3 : Method := { name := "ofNullable", desc := "(Ljava/lang/Object;)Ljava/util/Optional;", sig := { parameters := [(.object "java/lang/Object")], returnType := some (.object "java/util/Optional") }, accessFlags := 9, code := some k24c3 }
def k24c4 : Code := { maxStack := 1, maxLocals := 1, code := jdk_32_method_6_code, exceptionTable := #[], attributes := #[] }
def k24m4 : Method := { name := "isPresent", desc := "()Z", sig := { parameters := [], returnType := some .boolean }, accessFlags := 1, code := some k24c4 }
def k24c5 : Code := { maxStack := 1, maxLocals := 1, code := jdk_32_method_7_code, exceptionTable := #[], attributes := #[] }
def k24m5 : Method := { name := "isEmpty", desc := "()Z", sig := { parameters := [], returnType := some .boolean }, accessFlags := 1, code := some k24c5 }
def k24c6 : Code := { maxStack := 2, maxLocals := 2, code := jdk_32_method_11_code, exceptionTable := #[], attributes := #[] }
def k24m6 : Method := { name := "map", desc := "(Ljava/util/function/Function;)Ljava/util/Optional;", sig := { parameters := [(.object "java/util/function/Function")], returnType := some (.object "java/util/Optional") }, accessFlags := 1, code := some k24c6 }
def k24c7 : Code := { maxStack := 1, maxLocals := 2, code := jdk_32_method_15_code, exceptionTable := #[], attributes := #[] }
def k24m7 : Method := { name := "orElse", desc := "(Ljava/lang/Object;)Ljava/lang/Object;", sig := { parameters := [(.object "java/lang/Object")], returnType := some (.object "java/lang/Object") }, accessFlags := 1, code := some k24c7 }
def k24c8 : Code := { maxStack := 3, maxLocals := 1, code := jdk_32_method_17_code, exceptionTable := #[], attributes := #[] }
def k24m8 : Method := { name := "orElseThrow", desc := "()Ljava/lang/Object;", sig := { parameters := [], returnType := some (.object "java/lang/Object") }, accessFlags := 1, code := some k24c8 }
/-- java/util/Optional -/
def k24 : Class := { plain "java/util/Optional" (some 0) with
  accessFlags := 49
  interfaces := #[]
  cf := some (fileOf pool24 2 #[] #[{ accessFlags := 9, nameIndex := 55, descriptorIndex := 56, attributes := #[] }, { accessFlags := 2, nameIndex := 11, descriptorIndex := 25, attributes := #[] }, { accessFlags := 9, nameIndex := 82, descriptorIndex := 65, attributes := #[] }, { accessFlags := 9, nameIndex := 64, descriptorIndex := 65, attributes := #[] }, { accessFlags := 1, nameIndex := 68, descriptorIndex := 46, attributes := #[] }, { accessFlags := 1, nameIndex := 45, descriptorIndex := 46, attributes := #[] }, { accessFlags := 1, nameIndex := 146, descriptorIndex := 147, attributes := #[] }, { accessFlags := 1, nameIndex := 165, descriptorIndex := 22, attributes := #[] }, { accessFlags := 1, nameIndex := 172, descriptorIndex := 74, attributes := #[] }] 49 8 #[] #[{ accessFlags := 26, nameIndex := 5, descriptorIndex := 6, attributes := #[] }, { accessFlags := 18, nameIndex := 15, descriptorIndex := 16, attributes := #[] }])
  fields := #[{ name := "EMPTY", type := (.object "java/util/Optional"), accessFlags := 26, slot := 0, constantValue := 0 }, { name := "value", type := (.object "java/lang/Object"), accessFlags := 18, slot := 0, constantValue := 0 }]
  methods := #[k24m0, k24m1, k24m2, k24m3, k24m4, k24m5, k24m6, k24m7, k24m8]
  instanceTypes := #[(.object "java/lang/Object")]
  staticTypes := #[(.object "java/util/Optional")]
  resolved := Array.replicate 187 none
  statics := some 2 }

def pool25 : Array CpInfo := pool [(1, .methodref 2 3), (0, .class_ 4), (0, .nameAndType 5 6), (0, u "java/lang/Object"), (0, u "<init>"), (0, u "()V"), (0, .fieldref 8 9), (0, .class_ 10), (0, .nameAndType 11 12), (0, u "com/example/stackloom/stackloom/service/KernelWatch"), (0, u "task"), (0, u "I"), (0, .class_ 14), (0, u "java/util/HashMap"), (0, .methodref 13 3), (0, .fieldref 8 17), (0, .nameAndType 18 19), (0, u "saved"), (0, u "Ljava/util/Map;"), (0, .class_ 21), (0, u "java/util/BitSet"), (0, .methodref 20 3), (0, .fieldref 8 24), (0, .nameAndType 25 26), (0, u "interruptFrames"), (0, u "Ljava/util/BitSet;"), (0, .fieldref 8 28), (0, .nameAndType 29 30), (0, u "kernel"), (0, u "Ljava/util/Optional;"), (0, .invokeDynamic 0 32), (0, .nameAndType 33 34), (0, u "apply"), (0, u "()Ljava/util/function/Function;"), (0, .methodref 36 37), (0, .class_ 38), (0, .nameAndType 39 40), (0, u "java/util/Optional"), (0, u "map"), (0, u "(Ljava/util/function/Function;)Ljava/util/Optional;"), (0, .methodref 42 43), (0, .class_ 44), (0, .nameAndType 45 46), (0, u "java/lang/Boolean"), (0, u "valueOf"), (0, u "(Z)Ljava/lang/Boolean;"), (0, .methodref 36 48), (0, .nameAndType 49 50), (0, u "orElse"), (0, u "(Ljava/lang/Object;)Ljava/lang/Object;"), (0, .methodref 42 52), (0, .nameAndType 53 54), (0, u "booleanValue"), (0, u "()Z"), (0, .fieldref 8 56), (0, .nameAndType 57 58), (0, u "keepsTimer0"), (0, u "Z"), (0, .fieldref 8 60), (0, .nameAndType 61 58), (0, u "inKernel"), (6, .methodref 69 70), (0, .class_ 71), (0, .nameAndType 45 72), (0, u "java/lang/Integer"), (0, u "(I)Ljava/lang/Integer;"), (6, .methodref 36 80), (0, .nameAndType 81 82), (0, u "orElseThrow"), (0, u "()Ljava/lang/Object;"), (0, .class_ 84), (0, u "com/example/stackloom/stackloom/model/KernelLayout"), (6, u "get"), (6, u "()I"), (10, .class_ 110), (0, u "com/example/stackloom/stackloom/service/KernelWatch$SavedStack"), (4, .class_ 117), (1, u "java/util/Map"), (2, .interfaceMethodref 115 121), (0, .nameAndType 91 50), (5, .invokeDynamic 1 128), (0, .nameAndType 33 129), (0, u "(I)Ljava/util/function/Function;"), (0, .methodref 69 131), (0, .nameAndType 132 98), (0, u "intValue"), (0, .methodref 83 134), (0, .nameAndType 135 136), (0, u "holds"), (0, u "(I)Z"), (0, .fieldref 8 138), (0, .nameAndType 139 140), (0, u "dispatches"), (0, u "J"), (0, .fieldref 8 142), (0, .nameAndType 143 58), (0, u "dispatched"), (3, u "(I)V"), (5, u "starting"), (2, u "executed"), (2, .fieldref 8 160), (0, .nameAndType 161 140), (0, u "tasksDone"), (0, .methodref 36 163), (0, .nameAndType 164 54), (0, u "isPresent"), (0, .fieldref 8 166), (0, .nameAndType 167 140), (0, u "entries"), (0, .fieldref 8 169), (0, .nameAndType 170 140), (0, u "cycles"), (0, .fieldref 8 172), (0, .nameAndType 173 140), (0, u "initCycles"), (10, .class_ 185), (0, u "com/example/stackloom/stackloom/service/Core$KernelCounts"), (0, .methodref 184 187), (0, .nameAndType 5 188), (0, u "(JJJJJ)V"), (0, .methodref 83 190), (0, .nameAndType 191 192), (0, u "taskOwning"), (0, u "(I)I"), (3, u "(Ljava/util/Optional;)V"), (9, u "stackRestored"), (0, u "(III)V"), (3, u "counts"), (0, u "()Lcom/example/stackloom/stackloom/service/Core$KernelCounts;"), (0, u "lambda$stackRestored$0"), (0, u "(ILcom/example/stackloom/stackloom/model/KernelLayout;)Ljava/lang/Integer;"), (4, .methodType 50), (0, .methodHandle 5 221), (0, .methodref 83 222), (0, .nameAndType 57 54), (0, .methodType 224), (0, u "(Lcom/example/stackloom/stackloom/model/KernelLayout;)Ljava/lang/Boolean;"), (0, .methodHandle 6 226), (0, .methodref 8 227), (0, .nameAndType 213 214), (0, .methodType 229), (0, u "(Lcom/example/stackloom/stackloom/model/KernelLayout;)Ljava/lang/Integer;"), (0, .methodHandle 6 231), (0, .methodref 232 233), (0, .class_ 234), (0, .nameAndType 235 236), (0, u "java/lang/invoke/LambdaMetafactory"), (0, u "metafactory"), (0, u "(Ljava/lang/invoke/MethodHandles$Lookup;Ljava/lang/String;Ljava/lang/invoke/MethodType;Ljava/lang/invoke/MethodType;Ljava/lang/invoke/MethodHandle;Ljava/lang/invoke/MethodType;)Ljava/lang/invoke/CallSite;")] 11

def k25c0 : Code := { maxStack := 3, maxLocals := 2, code := prog_35_method_1_code, exceptionTable := #[], attributes := #[] }
def k25m0 : Method := { name := "<init>", desc := "(Ljava/util/Optional;)V", sig := { parameters := [(.object "java/util/Optional")], returnType := none }, accessFlags := 0, code := some k25c0 }
def k25c1 : Code := { maxStack := 5, maxLocals := 5, code := prog_35_method_6_code, exceptionTable := #[], attributes := #[] }
def k25m1 : Method := { name := "stackRestored", desc := "(III)V", sig := { parameters := [.int, .int, .int], returnType := none }, accessFlags := 0, code := some k25c1 }
def k25c2 : Code := { maxStack := 5, maxLocals := 3, code := prog_35_method_10_code, exceptionTable := #[], attributes := #[] }
def k25m2 : Method := { name := "starting", desc := "(I)V", sig := { parameters := [.int], returnType := none }, accessFlags := 0, code := some k25c2 }
def k25c3 : Code := { maxStack := 5, maxLocals := 2, code := prog_35_method_11_code, exceptionTable := #[], attributes := #[] }
def k25m3 : Method := { name := "executed", desc := "(I)V", sig := { parameters := [.int], returnType := none }, accessFlags := 0, code := some k25c3 }
def k25c4 : Code := { maxStack := 12, maxLocals := 1, code := prog_35_method_13_code, exceptionTable := #[], attributes := #[] }
def k25m4 : Method := { name := "counts", desc := "()Lcom/example/stackloom/stackloom/service/Core$KernelCounts;", sig := { parameters := [], returnType := some (.object "com/example/stackloom/stackloom/service/Core$KernelCounts") }, accessFlags := 0, code := some k25c4 }
def k25c5 : Code := { maxStack := 2, maxLocals := 2, code := prog_35_method_14_code, exceptionTable := #[], attributes := #[] }
def k25m5 : Method := { name := "lambda$stackRestored$0", desc := "(ILcom/example/stackloom/stackloom/model/KernelLayout;)Ljava/lang/Integer;", sig := { parameters := [.int, (.object "com/example/stackloom/stackloom/model/KernelLayout")], returnType := some (.object "java/lang/Integer") }, accessFlags := 4106, code := some k25c5 }
/-- com/example/stackloom/stackloom/service/KernelWatch -/
def k25 : Class := { plain "com/example/stackloom/stackloom/service/KernelWatch" (some 0) with
  accessFlags := 48
  interfaces := #[]
  cf := some (fileOf pool25 8 #[.nestMembers #[109], .bootstrapMethods #[⟨230, #[219, 220, 223]⟩, ⟨230, #[219, 225, 228]⟩]] #[{ accessFlags := 0, nameIndex := 5, descriptorIndex := 196, attributes := #[] }, { accessFlags := 0, nameIndex := 206, descriptorIndex := 207, attributes := #[] }, { accessFlags := 0, nameIndex := 153, descriptorIndex := 147, attributes := #[] }, { accessFlags := 0, nameIndex := 156, descriptorIndex := 147, attributes := #[] }, { accessFlags := 0, nameIndex := 211, descriptorIndex := 212, attributes := #[] }, { accessFlags := 4106, nameIndex := 213, descriptorIndex := 214, attributes := #[] }] 48 2 #[] #[{ accessFlags := 18, nameIndex := 29, descriptorIndex := 30, attributes := #[] }, { accessFlags := 18, nameIndex := 57, descriptorIndex := 58, attributes := #[] }, { accessFlags := 2, nameIndex := 11, descriptorIndex := 12, attributes := #[] }, { accessFlags := 18, nameIndex := 18, descriptorIndex := 19, attributes := #[] }, { accessFlags := 18, nameIndex := 25, descriptorIndex := 26, attributes := #[] }, { accessFlags := 2, nameIndex := 61, descriptorIndex := 58, attributes := #[] }, { accessFlags := 2, nameIndex := 143, descriptorIndex := 58, attributes := #[] }, { accessFlags := 2, nameIndex := 170, descriptorIndex := 140, attributes := #[] }, { accessFlags := 2, nameIndex := 173, descriptorIndex := 140, attributes := #[] }, { accessFlags := 2, nameIndex := 167, descriptorIndex := 140, attributes := #[] }, { accessFlags := 2, nameIndex := 139, descriptorIndex := 140, attributes := #[] }, { accessFlags := 2, nameIndex := 161, descriptorIndex := 140, attributes := #[] }])
  fields := #[{ name := "kernel", type := (.object "java/util/Optional"), accessFlags := 18, slot := 0, constantValue := 0 }, { name := "keepsTimer0", type := .boolean, accessFlags := 18, slot := 1, constantValue := 0 }, { name := "task", type := .int, accessFlags := 2, slot := 2, constantValue := 0 }, { name := "saved", type := (.object "java/util/Map"), accessFlags := 18, slot := 3, constantValue := 0 }, { name := "interruptFrames", type := (.object "java/util/BitSet"), accessFlags := 18, slot := 4, constantValue := 0 }, { name := "inKernel", type := .boolean, accessFlags := 2, slot := 5, constantValue := 0 }, { name := "dispatched", type := .boolean, accessFlags := 2, slot := 6, constantValue := 0 }, { name := "cycles", type := .long, accessFlags := 2, slot := 7, constantValue := 0 }, { name := "initCycles", type := .long, accessFlags := 2, slot := 8, constantValue := 0 }, { name := "entries", type := .long, accessFlags := 2, slot := 9, constantValue := 0 }, { name := "dispatches", type := .long, accessFlags := 2, slot := 10, constantValue := 0 }, { name := "tasksDone", type := .long, accessFlags := 2, slot := 11, constantValue := 0 }]
  methods := #[k25m0, k25m1, k25m2, k25m3, k25m4, k25m5]
  instanceTypes := #[(.object "java/util/Optional"), .boolean, .int, (.object "java/util/Map"), (.object "java/util/BitSet"), .boolean, .boolean, .long, .long, .long, .long, .long]
  staticTypes := #[]
  resolved := Array.replicate 248 none
  callSites := [(0, 38, .constant 7), (1, 50, .makes 53)]
  statics := none }

def pool26 : Array CpInfo := pool [(2, .class_ 4), (1, u "java/util/Map"), (0, u "get"), (0, u "(Ljava/lang/Object;)Ljava/lang/Object;"), (29, .class_ 37), (0, u "java/util/Map$Entry"), (55, .class_ 94), (0, u "java/lang/Object")] 168

def k26m0 : Method := { name := "get", desc := "(Ljava/lang/Object;)Ljava/lang/Object;", sig := { parameters := [(.object "java/lang/Object")], returnType := some (.object "java/lang/Object") }, accessFlags := 1025, code := none }
/-- java/util/Map -/
def k26 : Class := { plain "java/util/Map" (some 0) with
  accessFlags := 1537
  interfaces := #[]
  cf := some (fileOf pool26 2 #[.nestMembers #[36]] #[{ accessFlags := 1025, nameIndex := 5, descriptorIndex := 6, attributes := #[] }] 1537 93 #[] #[])
  fields := #[]
  methods := #[k26m0]
  instanceTypes := #[]
  staticTypes := #[]
  resolved := Array.replicate 263 none
  statics := none }

def pool27 : Array CpInfo := pool [(1, .methodref 2 3), (0, .class_ 4), (0, .nameAndType 5 6), (0, u "java/lang/Object"), (0, u "<init>"), (0, u "()V"), (1, .class_ 10), (1, u "java/util/AbstractMap"), (42, .class_ 54), (0, u "java/util/Map"), (9, u "keySet"), (0, u "Ljava/util/Set;"), (0, .class_ 67), (0, u "java/util/AbstractMap$1"), (5, u "values"), (0, u "Ljava/util/Collection;"), (0, .class_ 76), (0, u "java/util/AbstractMap$2"), (104, .class_ 182), (0, u "java/util/AbstractMap$ViewCollection"), (0, .class_ 184), (0, u "java/util/AbstractMap$SimpleImmutableEntry"), (0, .class_ 186), (0, u "java/util/AbstractMap$SimpleEntry"), (0, .class_ 188), (0, u "java/util/AbstractMap$2$1"), (0, .class_ 190), (0, u "java/util/AbstractMap$1$1")] 5

def k27c0 : Code := { maxStack := 1, maxLocals := 1, code := jdk_71_method_1_code, exceptionTable := #[], attributes := #[] }
def k27m0 : Method := { name := "<init>", desc := "()V", sig := { parameters := [], returnType := none }, accessFlags := 4, code := some k27c0 }
/-- java/util/AbstractMap -/
def k27 : Class := { plain "java/util/AbstractMap" (some 0) with
  accessFlags := 1057
  interfaces := #[26]
  cf := some (fileOf pool27 8 #[.nestMembers #[181, 183, 185, 75, 187, 66, 189]] #[{ accessFlags := 4, nameIndex := 5, descriptorIndex := 6, attributes := #[] }] 1057 2 #[53] #[{ accessFlags := 128, nameIndex := 64, descriptorIndex := 65, attributes := #[] }, { accessFlags := 128, nameIndex := 73, descriptorIndex := 74, attributes := #[] }])
  fields := #[{ name := "keySet", type := (.object "java/util/Set"), accessFlags := 128, slot := 0, constantValue := 0 }, { name := "values", type := (.object "java/util/Collection"), accessFlags := 128, slot := 1, constantValue := 0 }]
  methods := #[k27m0]
  instanceTypes := #[(.object "java/util/Set"), (.object "java/util/Collection")]
  staticTypes := #[]
  resolved := Array.replicate 196 none
  statics := none }

def pool28 : Array CpInfo := pool [(40, .class_ 41), (0, u "java/util/HashMap"), (1, .methodref 44 45), (0, .class_ 46), (0, .nameAndType 47 48), (0, u "java/util/AbstractMap"), (0, u "<init>"), (0, u "()V"), (32, .fieldref 40 82), (0, .nameAndType 83 84), (0, u "loadFactor"), (0, u "F"), (5, u "threshold"), (0, u "I"), (0, .float 1061158912), (8, .class_ 103), (1, u "java/util/Map"), (0, u "size"), (0, .fieldref 40 106), (0, .nameAndType 107 108), (0, u "table"), (0, u "[Ljava/util/HashMap$Node;"), (14, u "entrySet"), (34, .methodref 40 159), (0, .nameAndType 160 161), (0, u "getNode"), (0, u "(Ljava/lang/Object;)Ljava/util/HashMap$Node;"), (1, .class_ 165), (1, u "java/util/HashMap$Node"), (14, .class_ 181), (0, u "java/util/HashMap$TreeNode"), (22, u "modCount"), (37, u "Ljava/util/Set;"), (0, .class_ 244), (0, u "java/util/HashMap$KeySet"), (18, .class_ 264), (0, u "java/util/HashMap$Values"), (3, .class_ 269), (0, u "java/util/HashMap$EntrySet"), (9, u "(Ljava/lang/Object;)Ljava/lang/Object;"), (54, u "get"), (11, .class_ 348), (1, u "java/util/HashMap$UnsafeHolder"), (43, .class_ 393), (0, u "java/lang/Cloneable"), (0, .class_ 395), (0, u "java/io/Serializable"), (0, u "serialVersionUID"), (0, u "J"), (3, u "DEFAULT_INITIAL_CAPACITY"), (1, u "MAXIMUM_CAPACITY"), (0, u "DEFAULT_LOAD_FACTOR"), (0, u "TREEIFY_THRESHOLD"), (1, u "UNTREEIFY_THRESHOLD"), (1, u "MIN_TREEIFY_CAPACITY"), (186, .class_ 597), (0, u "java/util/HashMap$EntrySpliterator"), (0, .class_ 599), (0, u "java/util/HashMap$ValueSpliterator"), (0, .class_ 601), (0, u "java/util/HashMap$KeySpliterator"), (0, .class_ 603), (0, u "java/util/HashMap$HashMapSpliterator"), (0, .class_ 605), (0, u "java/util/HashMap$EntryIterator"), (0, .class_ 607), (0, u "java/util/HashMap$ValueIterator"), (0, .class_ 609), (0, u "java/util/HashMap$KeyIterator"), (0, .class_ 611), (0, u "java/util/HashMap$HashIterator")] 17

def k28c0 : Code := { maxStack := 2, maxLocals := 1, code := jdk_69_method_7_code, exceptionTable := #[], attributes := #[] }
def k28m0 : Method := { name := "<init>", desc := "()V", sig := { parameters := [], returnType := none }, accessFlags := 1, code := some k28c0 }
def k28c1 : Code := { maxStack := 2, maxLocals := 3, code := jdk_69_method_12_code, exceptionTable := #[], attributes := #[] }
def k28m1 : Method := { name := "get", desc := "(Ljava/lang/Object;)Ljava/lang/Object;", sig := { parameters := [(.object "java/lang/Object")], returnType := some (.object "java/lang/Object") }, accessFlags := 1, code := some k28c1 }
def k28c2 : Code := { maxStack := 4, maxLocals := 8, code := jdk_69_method_13_code, exceptionTable := #[], attributes := #[] }
def k28m2 : Method := { name := "getNode", desc := "(Ljava/lang/Object;)Ljava/util/HashMap$Node;", sig := { parameters := [(.object "java/lang/Object")], returnType := some (.object "java/util/HashMap$Node") }, accessFlags := 16, code := some k28c2 }
/-- java/util/HashMap -/
def k28 : Class := { plain "java/util/HashMap" (some 27) with
  accessFlags := 33
  interfaces := #[26, 9, 10]
  cf := some (fileOf pool28 40 #[.nestMembers #[180, 596, 598, 600, 602, 604, 606, 608, 610, 346, 268, 263, 243, 163]] #[{ accessFlags := 1, nameIndex := 47, descriptorIndex := 48, attributes := #[] }, { accessFlags := 1, nameIndex := 334, descriptorIndex := 279, attributes := #[] }, { accessFlags := 16, nameIndex := 160, descriptorIndex := 161, attributes := #[] }] 33 44 #[101, 392, 394] #[{ accessFlags := 26, nameIndex := 396, descriptorIndex := 397, attributes := #[] }, { accessFlags := 24, nameIndex := 401, descriptorIndex := 91, attributes := #[] }, { accessFlags := 24, nameIndex := 403, descriptorIndex := 91, attributes := #[] }, { accessFlags := 24, nameIndex := 404, descriptorIndex := 84, attributes := #[] }, { accessFlags := 24, nameIndex := 405, descriptorIndex := 91, attributes := #[] }, { accessFlags := 24, nameIndex := 407, descriptorIndex := 91, attributes := #[] }, { accessFlags := 24, nameIndex := 409, descriptorIndex := 91, attributes := #[] }, { accessFlags := 128, nameIndex := 107, descriptorIndex := 108, attributes := #[] }, { accessFlags := 128, nameIndex := 123, descriptorIndex := 242, attributes := #[] }, { accessFlags := 128, nameIndex := 104, descriptorIndex := 91, attributes := #[] }, { accessFlags := 128, nameIndex := 204, descriptorIndex := 91, attributes := #[] }, { accessFlags := 0, nameIndex := 90, descriptorIndex := 91, attributes := #[] }, { accessFlags := 16, nameIndex := 83, descriptorIndex := 84, attributes := #[] }])
  fields := #[{ name := "serialVersionUID", type := .long, accessFlags := 26, slot := 0, constantValue := 0 }, { name := "DEFAULT_INITIAL_CAPACITY", type := .int, accessFlags := 24, slot := 1, constantValue := 0 }, { name := "MAXIMUM_CAPACITY", type := .int, accessFlags := 24, slot := 2, constantValue := 0 }, { name := "DEFAULT_LOAD_FACTOR", type := .float, accessFlags := 24, slot := 3, constantValue := 0 }, { name := "TREEIFY_THRESHOLD", type := .int, accessFlags := 24, slot := 4, constantValue := 0 }, { name := "UNTREEIFY_THRESHOLD", type := .int, accessFlags := 24, slot := 5, constantValue := 0 }, { name := "MIN_TREEIFY_CAPACITY", type := .int, accessFlags := 24, slot := 6, constantValue := 0 }, { name := "table", type := (.array (.object "java/util/HashMap$Node")), accessFlags := 128, slot := 2, constantValue := 0 }, { name := "entrySet", type := (.object "java/util/Set"), accessFlags := 128, slot := 3, constantValue := 0 }, { name := "size", type := .int, accessFlags := 128, slot := 4, constantValue := 0 }, { name := "modCount", type := .int, accessFlags := 128, slot := 5, constantValue := 0 }, { name := "threshold", type := .int, accessFlags := 0, slot := 6, constantValue := 0 }, { name := "loadFactor", type := .float, accessFlags := 16, slot := 7, constantValue := 0 }]
  methods := #[k28m0, k28m1, k28m2]
  instanceTypes := #[(.object "java/util/Set"), (.object "java/util/Collection"), (.array (.object "java/util/HashMap$Node")), (.object "java/util/Set"), .int, .int, .int, .float]
  staticTypes := #[.long, .int, .int, .float, .int, .int, .int]
  resolved := Array.replicate 629 none
  statics := none }

def pool29 : Array CpInfo := pool [(1, .class_ 2), (0, u "java/util/BitSet"), (2, u "$assertionsDisabled"), (0, u "Z"), (0, .fieldref 1 8), (0, .nameAndType 9 10), (0, u "wordsInUse"), (0, u "I"), (0, .fieldref 1 12), (0, .nameAndType 13 14), (0, u "words"), (0, u "[J"), (3, .nameAndType 19 20), (0, u "<init>"), (0, u "()V"), (0, .methodref 22 18), (0, .class_ 23), (0, u "java/lang/Object"), (0, .fieldref 1 25), (0, .nameAndType 26 6), (0, u "sizeIsSticky"), (0, .methodref 1 28), (0, .nameAndType 29 30), (0, u "initWords"), (0, u "(I)V"), (21, .methodref 1 53), (0, .nameAndType 54 55), (0, u "wordIndex"), (0, u "(I)I"), (213, .class_ 270), (0, u "java/util/BitSet$1BitSetSpliterator"), (22, u "serialPersistentFields"), (0, u "[Ljava/io/ObjectStreamField;"), (0, .class_ 296), (0, u "java/lang/Cloneable"), (0, .class_ 298), (0, u "java/io/Serializable"), (0, u "ADDRESS_BITS_PER_WORD"), (2, u "BITS_PER_WORD"), (1, u "BIT_INDEX_MASK"), (1, u "WORD_MASK"), (0, u "J"), (0, u "serialVersionUID")] 108

def k29c0 : Code := { maxStack := 2, maxLocals := 1, code := jdk_92_method_1_code, exceptionTable := #[], attributes := #[] }
def k29m0 : Method := { name := "wordIndex", desc := "(I)I", sig := { parameters := [.int], returnType := some .int }, accessFlags := 10, code := some k29c0 }
def k29c1 : Code := { maxStack := 2, maxLocals := 1, code := jdk_92_method_4_code, exceptionTable := #[], attributes := #[] }
def k29m1 : Method := { name := "<init>", desc := "()V", sig := { parameters := [], returnType := none }, accessFlags := 1, code := some k29c1 }
def k29c2 : Code := { maxStack := 3, maxLocals := 2, code := jdk_92_method_6_code, exceptionTable := #[], attributes := #[] }
def k29m2 : Method := { name := "initWords", desc := "(I)V", sig := { parameters := [.int], returnType := none }, accessFlags := 2, code := some k29c2 }
/-- java/util/BitSet -/
def k29 : Class := { plain "java/util/BitSet" (some 0) with
  accessFlags := 33
  interfaces := #[9, 10]
  cf := some (fileOf pool29 1 #[.nestMembers #[269]] #[{ accessFlags := 10, nameIndex := 54, descriptorIndex := 55, attributes := #[] }, { accessFlags := 1, nameIndex := 19, descriptorIndex := 20, attributes := #[] }, { accessFlags := 2, nameIndex := 29, descriptorIndex := 30, attributes := #[] }] 33 22 #[295, 297] #[{ accessFlags := 26, nameIndex := 299, descriptorIndex := 10, attributes := #[] }, { accessFlags := 26, nameIndex := 302, descriptorIndex := 10, attributes := #[] }, { accessFlags := 26, nameIndex := 304, descriptorIndex := 10, attributes := #[] }, { accessFlags := 26, nameIndex := 306, descriptorIndex := 307, attributes := #[] }, { accessFlags := 26, nameIndex := 293, descriptorIndex := 294, attributes := #[] }, { accessFlags := 2, nameIndex := 13, descriptorIndex := 14, attributes := #[] }, { accessFlags := 130, nameIndex := 9, descriptorIndex := 10, attributes := #[] }, { accessFlags := 130, nameIndex := 26, descriptorIndex := 6, attributes := #[] }, { accessFlags := 26, nameIndex := 308, descriptorIndex := 307, attributes := #[] }, { accessFlags := 4120, nameIndex := 5, descriptorIndex := 6, attributes := #[] }])
  fields := #[{ name := "ADDRESS_BITS_PER_WORD", type := .int, accessFlags := 26, slot := 0, constantValue := 0 }, { name := "BITS_PER_WORD", type := .int, accessFlags := 26, slot := 1, constantValue := 0 }, { name := "BIT_INDEX_MASK", type := .int, accessFlags := 26, slot := 2, constantValue := 0 }, { name := "WORD_MASK", type := .long, accessFlags := 26, slot := 3, constantValue := 0 }, { name := "serialPersistentFields", type := (.array (.object "java/io/ObjectStreamField")), accessFlags := 26, slot := 4, constantValue := 0 }, { name := "words", type := (.array .long), accessFlags := 2, slot := 0, constantValue := 0 }, { name := "wordsInUse", type := .int, accessFlags := 130, slot := 1, constantValue := 0 }, { name := "sizeIsSticky", type := .boolean, accessFlags := 130, slot := 2, constantValue := 0 }, { name := "serialVersionUID", type := .long, accessFlags := 26, slot := 5, constantValue := 0 }, { name := "$assertionsDisabled", type := .boolean, accessFlags := 4120, slot := 6, constantValue := 0 }]
  methods := #[k29m0, k29m1, k29m2]
  instanceTypes := #[(.array .long), .int, .boolean]
  staticTypes := #[.int, .int, .int, .long, (.array (.object "java/io/ObjectStreamField")), .long, .boolean]
  resolved := Array.replicate 417 none
  statics := none }

def pool30 : Array CpInfo := pool [(6, u "(Ljava/lang/Object;)Ljava/lang/Object;"), (2, u "apply"), (6, .class_ 18), (1, u "java/util/function/Function"), (0, .class_ 20), (0, u "java/lang/Object")] 56

def k30m0 : Method := { name := "apply", desc := "(Ljava/lang/Object;)Ljava/lang/Object;", sig := { parameters := [(.object "java/lang/Object")], returnType := some (.object "java/lang/Object") }, accessFlags := 1025, code := none }
/-- java/util/function/Function -/
def k30 : Class := { plain "java/util/function/Function" (some 0) with
  accessFlags := 1537
  interfaces := #[]
  cf := some (fileOf pool30 16 #[] #[{ accessFlags := 1025, nameIndex := 9, descriptorIndex := 6, attributes := #[] }] 1537 19 #[] #[])
  fields := #[]
  methods := #[k30m0]
  instanceTypes := #[]
  staticTypes := #[]
  resolved := Array.replicate 77 none
  statics := none }

def pool31 : Array CpInfo := pool [(1, .class_ 2), (0, u "com/example/stackloom/stackloom/model/CoreLayout"), (1, .class_ 6), (1, u "java/lang/Object"), (0, u "<init>"), (0, u "()V"), (14, u "INTERRUPT_SLOTS"), (0, u "Ljava/util/List;"), (10, u "TIMER0_SLOT"), (0, u "I"), (5, u "TIMER0_WORDS"), (0, u "ROM_BYTES"), (2, u "ROM_WORD_BITS"), (1, u "RAM_WORDS"), (0, u "RAM_WORD_BITS"), (1, u "RESET"), (3, u "INTERRUPT_SLOT_BYTES"), (0, u "APPLICATION_START"), (1, u "IO_WORDS"), (0, u "STATIC_START"), (0, u "OUTPUT_PORT"), (0, u "INTERRUPT_ENABLE"), (0, u "INTERRUPTS_ON"), (1, u "TIMER0_INTERRUPT"), (1, u "TIMER0_ENABLED"), (1, u "TIMER0_RELOAD"), (1, u "TIMER0_CONTROL"), (1, u "TIMER_START"), (1, u "TIMER_STOP"), (0, u "TIMER_CYCLES_PER_UNIT"), (1, u "TIMER_MAX_RELOAD")] 6

def k31m0 : Method := { name := "<init>", desc := "()V", sig := { parameters := [], returnType := none }, accessFlags := 2, code := none }
/-- com/example/stackloom/stackloom/model/CoreLayout -/
def k31 : Class := { plain "com/example/stackloom/stackloom/model/CoreLayout" (some 0) with
  accessFlags := 49
  interfaces := #[]
  cf := some (fileOf pool31 1 #[] #[{ accessFlags := 2, nameIndex := 7, descriptorIndex := 8, attributes := #[] }] 49 4 #[] #[{ accessFlags := 25, nameIndex := 43, descriptorIndex := 36, attributes := #[] }, { accessFlags := 25, nameIndex := 46, descriptorIndex := 36, attributes := #[] }, { accessFlags := 25, nameIndex := 48, descriptorIndex := 36, attributes := #[] }, { accessFlags := 25, nameIndex := 49, descriptorIndex := 36, attributes := #[] }, { accessFlags := 25, nameIndex := 51, descriptorIndex := 36, attributes := #[] }, { accessFlags := 25, nameIndex := 23, descriptorIndex := 24, attributes := #[] }, { accessFlags := 25, nameIndex := 35, descriptorIndex := 36, attributes := #[] }, { accessFlags := 25, nameIndex := 55, descriptorIndex := 36, attributes := #[] }, { accessFlags := 25, nameIndex := 56, descriptorIndex := 36, attributes := #[] }, { accessFlags := 25, nameIndex := 58, descriptorIndex := 36, attributes := #[] }, { accessFlags := 25, nameIndex := 59, descriptorIndex := 36, attributes := #[] }, { accessFlags := 25, nameIndex := 60, descriptorIndex := 36, attributes := #[] }, { accessFlags := 25, nameIndex := 61, descriptorIndex := 36, attributes := #[] }, { accessFlags := 25, nameIndex := 62, descriptorIndex := 36, attributes := #[] }, { accessFlags := 25, nameIndex := 64, descriptorIndex := 36, attributes := #[] }, { accessFlags := 25, nameIndex := 66, descriptorIndex := 36, attributes := #[] }, { accessFlags := 25, nameIndex := 68, descriptorIndex := 36, attributes := #[] }, { accessFlags := 25, nameIndex := 70, descriptorIndex := 36, attributes := #[] }, { accessFlags := 25, nameIndex := 42, descriptorIndex := 24, attributes := #[] }, { accessFlags := 25, nameIndex := 72, descriptorIndex := 36, attributes := #[] }, { accessFlags := 25, nameIndex := 74, descriptorIndex := 36, attributes := #[] }, { accessFlags := 25, nameIndex := 75, descriptorIndex := 36, attributes := #[] }, { accessFlags := 25, nameIndex := 77, descriptorIndex := 36, attributes := #[] }])
  fields := #[{ name := "ROM_BYTES", type := .int, accessFlags := 25, slot := 0, constantValue := 0 }, { name := "ROM_WORD_BITS", type := .int, accessFlags := 25, slot := 1, constantValue := 0 }, { name := "RAM_WORDS", type := .int, accessFlags := 25, slot := 2, constantValue := 0 }, { name := "RAM_WORD_BITS", type := .int, accessFlags := 25, slot := 3, constantValue := 0 }, { name := "RESET", type := .int, accessFlags := 25, slot := 4, constantValue := 0 }, { name := "INTERRUPT_SLOTS", type := (.object "java/util/List"), accessFlags := 25, slot := 5, constantValue := 0 }, { name := "TIMER0_SLOT", type := .int, accessFlags := 25, slot := 6, constantValue := 0 }, { name := "INTERRUPT_SLOT_BYTES", type := .int, accessFlags := 25, slot := 7, constantValue := 0 }, { name := "APPLICATION_START", type := .int, accessFlags := 25, slot := 8, constantValue := 0 }, { name := "IO_WORDS", type := .int, accessFlags := 25, slot := 9, constantValue := 0 }, { name := "STATIC_START", type := .int, accessFlags := 25, slot := 10, constantValue := 0 }, { name := "OUTPUT_PORT", type := .int, accessFlags := 25, slot := 11, constantValue := 0 }, { name := "INTERRUPT_ENABLE", type := .int, accessFlags := 25, slot := 12, constantValue := 0 }, { name := "INTERRUPTS_ON", type := .int, accessFlags := 25, slot := 13, constantValue := 0 }, { name := "TIMER0_INTERRUPT", type := .int, accessFlags := 25, slot := 14, constantValue := 0 }, { name := "TIMER0_ENABLED", type := .int, accessFlags := 25, slot := 15, constantValue := 0 }, { name := "TIMER0_RELOAD", type := .int, accessFlags := 25, slot := 16, constantValue := 0 }, { name := "TIMER0_CONTROL", type := .int, accessFlags := 25, slot := 17, constantValue := 0 }, { name := "TIMER0_WORDS", type := (.object "java/util/List"), accessFlags := 25, slot := 18, constantValue := 0 }, { name := "TIMER_START", type := .int, accessFlags := 25, slot := 19, constantValue := 0 }, { name := "TIMER_STOP", type := .int, accessFlags := 25, slot := 20, constantValue := 0 }, { name := "TIMER_CYCLES_PER_UNIT", type := .int, accessFlags := 25, slot := 21, constantValue := 0 }, { name := "TIMER_MAX_RELOAD", type := .int, accessFlags := 25, slot := 22, constantValue := 0 }]
  methods := #[k31m0]
  instanceTypes := #[]
  staticTypes := #[.int, .int, .int, .int, .int, (.object "java/util/List"), .int, .int, .int, .int, .int, .int, .int, .int, .int, .int, .int, .int, (.object "java/util/List"), .int, .int, .int, .int]
  resolved := Array.replicate 84 none
  statics := some 3 }

def pool32 : Array CpInfo := pool [(2, .class_ 4), (1, u "java/lang/Object"), (0, u "<init>"), (0, u "()V"), (1, .class_ 10), (1, u "java/lang/Number"), (2, .class_ 14), (0, u "java/io/Serializable"), (0, u "serialVersionUID"), (0, u "J")] 20

def k32m0 : Method := { name := "<init>", desc := "()V", sig := { parameters := [], returnType := none }, accessFlags := 1, code := none }
/-- java/lang/Number -/
def k32 : Class := { plain "java/lang/Number" (some 0) with
  accessFlags := 1057
  interfaces := #[10]
  cf := some (fileOf pool32 8 #[] #[{ accessFlags := 1, nameIndex := 5, descriptorIndex := 6, attributes := #[] }] 1057 2 #[13] #[{ accessFlags := 26, nameIndex := 15, descriptorIndex := 16, attributes := #[] }])
  fields := #[{ name := "serialVersionUID", type := .long, accessFlags := 26, slot := 0, constantValue := 0 }]
  methods := #[k32m0]
  instanceTypes := #[]
  staticTypes := #[.long]
  resolved := Array.replicate 37 none
  statics := none }

def pool33 : Array CpInfo := pool [(1, .class_ 2), (0, u "java/lang/Comparable"), (0, .class_ 4), (0, u "java/lang/Object")] 7

/-- java/lang/Comparable -/
def k33 : Class := { plain "java/lang/Comparable" (some 0) with
  accessFlags := 1537
  interfaces := #[]
  cf := some (fileOf pool33 1 #[] #[] 1537 3 #[] #[])
  fields := #[]
  methods := #[]
  instanceTypes := #[]
  staticTypes := #[]
  resolved := Array.replicate 12 none
  statics := none }

def pool34 : Array CpInfo := pool [(1, .class_ 2), (0, u "java/lang/constant/Constable"), (0, .class_ 4), (0, u "java/lang/Object")] 6

/-- java/lang/constant/Constable -/
def k34 : Class := { plain "java/lang/constant/Constable" (some 0) with
  accessFlags := 1537
  interfaces := #[]
  cf := some (fileOf pool34 1 #[] #[] 1537 3 #[] #[])
  fields := #[]
  methods := #[]
  instanceTypes := #[]
  staticTypes := #[]
  resolved := Array.replicate 11 none
  statics := none }

def pool35 : Array CpInfo := pool [(1, .class_ 2), (0, u "java/lang/constant/ConstantDesc"), (0, .class_ 4), (0, u "java/lang/Object")] 32

/-- java/lang/constant/ConstantDesc -/
def k35 : Class := { plain "java/lang/constant/ConstantDesc" (some 0) with
  accessFlags := 1537
  interfaces := #[]
  cf := some (fileOf pool35 1 #[] #[] 1537 3 #[] #[])
  fields := #[]
  methods := #[]
  instanceTypes := #[]
  staticTypes := #[]
  resolved := Array.replicate 37 none
  statics := none }

def pool36 : Array CpInfo := pool [(1, .class_ 2), (0, u "java/lang/Integer"), (16, u "digits"), (0, u "[C"), (64, u "DigitOnes"), (0, u "[B"), (2, u "DigitTens"), (31, u "()I"), (65, u "valueOf"), (0, u "(I)Ljava/lang/Integer;"), (0, .class_ 190), (0, u "java/lang/Integer$IntegerCache"), (0, .fieldref 189 192), (0, .nameAndType 193 194), (0, u "high"), (0, u "I"), (0, .fieldref 189 196), (0, .nameAndType 197 198), (0, u "cache"), (0, u "[Ljava/lang/Integer;"), (4, .class_ 204), (0, u "java/lang/Number"), (0, .fieldref 1 206), (0, .nameAndType 207 194), (0, u "value"), (5, u "intValue"), (88, u "TYPE"), (0, u "Ljava/lang/Class;"), (0, .class_ 305), (0, u "java/lang/Comparable"), (0, .class_ 307), (0, u "java/lang/constant/Constable"), (0, .class_ 309), (0, u "java/lang/constant/ConstantDesc"), (0, u "MIN_VALUE"), (1, u "MAX_VALUE"), (3, u "SIZE"), (1, u "BYTES"), (1, u "serialVersionUID"), (0, u "J")] 131

def k36c0 : Code := { maxStack := 3, maxLocals := 1, code := jdk_33_method_22_code, exceptionTable := #[], attributes := #[] }
def k36m0 : Method := { name := "valueOf", desc := "(I)Ljava/lang/Integer;", sig := { parameters := [.int], returnType := some (.object "java/lang/Integer") }, accessFlags := 9, code := some k36c0 }
def k36c1 : Code := { maxStack := 1, maxLocals := 1, code := jdk_33_method_27_code, exceptionTable := #[], attributes := #[] }
def k36m1 : Method := { name := "intValue", desc := "()I", sig := { parameters := [], returnType := some .int }, accessFlags := 1, code := some k36c1 }
/-- java/lang/Integer -/
def k36 : Class := { plain "java/lang/Integer" (some 32) with
  accessFlags := 49
  interfaces := #[33, 34, 35]
  cf := some (fileOf pool36 1 #[.nestMembers #[189]] #[{ accessFlags := 9, nameIndex := 187, descriptorIndex := 188, attributes := #[] }, { accessFlags := 1, nameIndex := 213, descriptorIndex := 121, attributes := #[] }] 49 203 #[304, 306, 308] #[{ accessFlags := 25, nameIndex := 310, descriptorIndex := 194, attributes := #[] }, { accessFlags := 25, nameIndex := 312, descriptorIndex := 194, attributes := #[] }, { accessFlags := 25, nameIndex := 302, descriptorIndex := 303, attributes := #[] }, { accessFlags := 24, nameIndex := 19, descriptorIndex := 20, attributes := #[] }, { accessFlags := 24, nameIndex := 89, descriptorIndex := 86, attributes := #[] }, { accessFlags := 24, nameIndex := 85, descriptorIndex := 86, attributes := #[] }, { accessFlags := 18, nameIndex := 207, descriptorIndex := 194, attributes := #[] }, { accessFlags := 25, nameIndex := 316, descriptorIndex := 194, attributes := #[] }, { accessFlags := 25, nameIndex := 318, descriptorIndex := 194, attributes := #[] }, { accessFlags := 26, nameIndex := 320, descriptorIndex := 321, attributes := #[] }])
  fields := #[{ name := "MIN_VALUE", type := .int, accessFlags := 25, slot := 0, constantValue := 0 }, { name := "MAX_VALUE", type := .int, accessFlags := 25, slot := 1, constantValue := 0 }, { name := "TYPE", type := (.object "java/lang/Class"), accessFlags := 25, slot := 2, constantValue := 0 }, { name := "digits", type := (.array .char), accessFlags := 24, slot := 3, constantValue := 0 }, { name := "DigitTens", type := (.array .byte), accessFlags := 24, slot := 4, constantValue := 0 }, { name := "DigitOnes", type := (.array .byte), accessFlags := 24, slot := 5, constantValue := 0 }, { name := "value", type := .int, accessFlags := 18, slot := 0, constantValue := 0 }, { name := "SIZE", type := .int, accessFlags := 25, slot := 6, constantValue := 0 }, { name := "BYTES", type := .int, accessFlags := 25, slot := 7, constantValue := 0 }, { name := "serialVersionUID", type := .long, accessFlags := 26, slot := 8, constantValue := 0 }]
  methods := #[k36m0, k36m1]
  instanceTypes := #[.int]
  staticTypes := #[.int, .int, (.object "java/lang/Class"), (.array .char), (.array .byte), (.array .byte), .int, .int, .long]
  resolved := Array.replicate 453 none
  statics := none }

def pool37 : Array CpInfo := pool [(2, .class_ 4), (1, u "java/lang/Object"), (0, u "<init>"), (0, u "()V"), (0, .class_ 8), (0, u "java/lang/Integer"), (7, .class_ 18), (1, u "java/lang/Integer$IntegerCache"), (0, u "$assertionsDisabled"), (0, u "Z"), (26, u "high"), (0, u "I"), (8, u "archivedCache"), (0, u "[Ljava/lang/Integer;"), (12, u "cache"), (0, u "low")] 27

def k37m0 : Method := { name := "<init>", desc := "()V", sig := { parameters := [], returnType := none }, accessFlags := 2, code := none }
/-- java/lang/Integer$IntegerCache -/
def k37 : Class := { plain "java/lang/Integer$IntegerCache" (some 0) with
  accessFlags := 48
  interfaces := #[]
  cf := some (fileOf pool37 16 #[.nestHost 7] #[{ accessFlags := 2, nameIndex := 5, descriptorIndex := 6, attributes := #[] }] 48 2 #[] #[{ accessFlags := 24, nameIndex := 72, descriptorIndex := 48, attributes := #[] }, { accessFlags := 24, nameIndex := 47, descriptorIndex := 48, attributes := #[] }, { accessFlags := 24, nameIndex := 71, descriptorIndex := 58, attributes := #[] }, { accessFlags := 8, nameIndex := 57, descriptorIndex := 58, attributes := #[] }, { accessFlags := 4120, nameIndex := 19, descriptorIndex := 20, attributes := #[] }])
  fields := #[{ name := "low", type := .int, accessFlags := 24, slot := 0, constantValue := 0 }, { name := "high", type := .int, accessFlags := 24, slot := 1, constantValue := 0 }, { name := "cache", type := (.array (.object "java/lang/Integer")), accessFlags := 24, slot := 2, constantValue := 0 }, { name := "archivedCache", type := (.array (.object "java/lang/Integer")), accessFlags := 8, slot := 3, constantValue := 0 }, { name := "$assertionsDisabled", type := .boolean, accessFlags := 4120, slot := 4, constantValue := 0 }]
  methods := #[k37m0]
  instanceTypes := #[]
  staticTypes := #[.int, .int, (.array (.object "java/lang/Integer")), (.array (.object "java/lang/Integer")), .boolean]
  resolved := Array.replicate 100 none
  statics := some 4 }

def pool38 : Array CpInfo := pool [(2, .class_ 4), (1, u "java/lang/Object"), (2, .fieldref 8 9), (0, .class_ 10), (0, .nameAndType 11 12), (0, u "java/lang/Boolean"), (0, u "value"), (0, u "Z"), (16, u "TRUE"), (0, u "Ljava/lang/Boolean;"), (0, .fieldref 8 32), (0, .nameAndType 33 30), (0, u "FALSE"), (2, u "valueOf"), (7, u "booleanValue"), (0, u "()Z"), (41, u "TYPE"), (0, u "Ljava/lang/Class;"), (0, .class_ 90), (0, u "java/io/Serializable"), (0, .class_ 92), (0, u "java/lang/Comparable"), (0, .class_ 94), (0, u "java/lang/constant/Constable"), (2, u "serialVersionUID"), (0, u "J"), (18, u "(Z)Ljava/lang/Boolean;")] 34

def k38c0 : Code := { maxStack := 1, maxLocals := 1, code := jdk_2055_method_4_code, exceptionTable := #[], attributes := #[] }
def k38m0 : Method := { name := "booleanValue", desc := "()Z", sig := { parameters := [], returnType := some .boolean }, accessFlags := 1, code := some k38c0 }
def k38c1 : Code := { maxStack := 1, maxLocals := 1, code := jdk_2055_method_5_code, exceptionTable := #[], attributes := #[] }
def k38m1 : Method := { name := "valueOf", desc := "(Z)Ljava/lang/Boolean;", sig := { parameters := [.boolean], returnType := some (.object "java/lang/Boolean") }, accessFlags := 9, code := some k38c1 }
/-- java/lang/Boolean -/
def k38 : Class := { plain "java/lang/Boolean" (some 0) with
  accessFlags := 49
  interfaces := #[10, 33, 34]
  cf := some (fileOf pool38 8 #[] #[{ accessFlags := 1, nameIndex := 44, descriptorIndex := 45, attributes := #[] }, { accessFlags := 9, nameIndex := 36, descriptorIndex := 117, attributes := #[] }] 49 2 #[89, 91, 93] #[{ accessFlags := 25, nameIndex := 29, descriptorIndex := 30, attributes := #[] }, { accessFlags := 25, nameIndex := 33, descriptorIndex := 30, attributes := #[] }, { accessFlags := 25, nameIndex := 87, descriptorIndex := 88, attributes := #[] }, { accessFlags := 18, nameIndex := 11, descriptorIndex := 12, attributes := #[] }, { accessFlags := 26, nameIndex := 97, descriptorIndex := 98, attributes := #[] }])
  fields := #[{ name := "TRUE", type := (.object "java/lang/Boolean"), accessFlags := 25, slot := 0, constantValue := 0 }, { name := "FALSE", type := (.object "java/lang/Boolean"), accessFlags := 25, slot := 1, constantValue := 0 }, { name := "TYPE", type := (.object "java/lang/Class"), accessFlags := 25, slot := 2, constantValue := 0 }, { name := "value", type := .boolean, accessFlags := 18, slot := 0, constantValue := 0 }, { name := "serialVersionUID", type := .long, accessFlags := 26, slot := 3, constantValue := 0 }]
  methods := #[k38m0, k38m1]
  instanceTypes := #[.boolean]
  staticTypes := #[(.object "java/lang/Boolean"), (.object "java/lang/Boolean"), (.object "java/lang/Class"), .long]
  resolved := Array.replicate 152 none
  statics := some 5 }

def pool39 : Array CpInfo := pool [(16, .class_ 18), (1, u "java/util/Iterator"), (0, u "hasNext"), (0, u "()Z"), (10, .class_ 32), (0, u "java/lang/Object")] 20

def k39m0 : Method := { name := "hasNext", desc := "()Z", sig := { parameters := [], returnType := some .boolean }, accessFlags := 1025, code := none }
/-- java/util/Iterator -/
def k39 : Class := { plain "java/util/Iterator" (some 0) with
  accessFlags := 1537
  interfaces := #[]
  cf := some (fileOf pool39 16 #[] #[{ accessFlags := 1025, nameIndex := 19, descriptorIndex := 20, attributes := #[] }] 1537 31 #[] #[])
  fields := #[]
  methods := #[k39m0]
  instanceTypes := #[]
  staticTypes := #[]
  resolved := Array.replicate 53 none
  statics := none }

def pool40 : Array CpInfo := pool [(1, .class_ 2), (0, u "java/util/ListIterator"), (0, .class_ 4), (0, u "java/lang/Object"), (0, .class_ 6), (0, u "java/util/Iterator")] 20

/-- java/util/ListIterator -/
def k40 : Class := { plain "java/util/ListIterator" (some 0) with
  accessFlags := 1537
  interfaces := #[39]
  cf := some (fileOf pool40 1 #[] #[] 1537 3 #[5] #[])
  fields := #[]
  methods := #[]
  instanceTypes := #[]
  staticTypes := #[]
  resolved := Array.replicate 27 none
  statics := none }

def pool41 : Array CpInfo := pool [(1, .methodref 2 3), (0, .class_ 4), (0, .nameAndType 5 6), (0, u "java/lang/Object"), (0, u "<init>"), (0, u "()V"), (0, .fieldref 8 9), (0, .class_ 10), (0, .nameAndType 11 12), (0, u "java/util/ImmutableCollections$ListItr"), (0, u "list"), (0, u "Ljava/util/List;"), (0, .fieldref 8 14), (0, .nameAndType 15 16), (0, u "size"), (0, u "I"), (0, .fieldref 8 18), (0, .nameAndType 19 16), (0, u "cursor"), (0, .fieldref 8 21), (0, .nameAndType 22 23), (0, u "isListIterator"), (0, u "Z"), (12, .class_ 38), (1, u "java/util/ImmutableCollections"), (2, .class_ 42), (0, u "java/util/ListIterator"), (4, u "(Ljava/util/List;I)V"), (11, u "hasNext"), (0, u "()Z")] 25

def k41c0 : Code := { maxStack := 2, maxLocals := 3, code := jdk_53_method_1_code, exceptionTable := #[], attributes := #[] }
def k41m0 : Method := { name := "<init>", desc := "(Ljava/util/List;I)V", sig := { parameters := [(.object "java/util/List"), .int], returnType := none }, accessFlags := 0, code := some k41c0 }
def k41c1 : Code := { maxStack := 2, maxLocals := 1, code := jdk_53_method_3_code, exceptionTable := #[], attributes := #[] }
def k41m1 : Method := { name := "hasNext", desc := "()Z", sig := { parameters := [], returnType := some .boolean }, accessFlags := 1, code := some k41c1 }
/-- java/util/ImmutableCollections$ListItr -/
def k41 : Class := { plain "java/util/ImmutableCollections$ListItr" (some 0) with
  accessFlags := 48
  interfaces := #[40]
  cf := some (fileOf pool41 8 #[.nestHost 36] #[{ accessFlags := 0, nameIndex := 5, descriptorIndex := 47, attributes := #[] }, { accessFlags := 1, nameIndex := 59, descriptorIndex := 60, attributes := #[] }] 48 2 #[41] #[{ accessFlags := 18, nameIndex := 11, descriptorIndex := 12, attributes := #[] }, { accessFlags := 18, nameIndex := 15, descriptorIndex := 16, attributes := #[] }, { accessFlags := 18, nameIndex := 22, descriptorIndex := 23, attributes := #[] }, { accessFlags := 2, nameIndex := 19, descriptorIndex := 16, attributes := #[] }])
  fields := #[{ name := "list", type := (.object "java/util/List"), accessFlags := 18, slot := 0, constantValue := 0 }, { name := "size", type := .int, accessFlags := 18, slot := 1, constantValue := 0 }, { name := "isListIterator", type := .boolean, accessFlags := 18, slot := 2, constantValue := 0 }, { name := "cursor", type := .int, accessFlags := 2, slot := 3, constantValue := 0 }]
  methods := #[k41m0, k41m1]
  instanceTypes := #[(.object "java/util/List"), .int, .boolean, .int]
  staticTypes := #[]
  resolved := Array.replicate 86 none
  statics := none }

def pool42 : Array CpInfo := pool [(1, .methodref 2 3), (0, .class_ 4), (0, .nameAndType 5 6), (0, u "java/lang/Record"), (0, u "<init>"), (0, u "()V"), (0, .fieldref 8 9), (0, .class_ 10), (0, .nameAndType 11 12), (0, u "com/example/stackloom/stackloom/service/Core$KernelCounts"), (0, u "cycles"), (0, u "J"), (0, .fieldref 8 14), (0, .nameAndType 15 12), (0, u "initCycles"), (0, .fieldref 8 17), (0, .nameAndType 18 12), (0, u "entries"), (0, .fieldref 8 20), (0, .nameAndType 21 12), (0, u "dispatches"), (0, .fieldref 8 23), (0, .nameAndType 24 12), (0, u "tasksDone"), (12, u "(JJJJJ)V"), (6, u "()J"), (3, .class_ 49), (0, u "com/example/stackloom/stackloom/service/Core")] 23

def k42c0 : Code := { maxStack := 3, maxLocals := 11, code := prog_33_method_1_code, exceptionTable := #[], attributes := #[] }
def k42m0 : Method := { name := "<init>", desc := "(JJJJJ)V", sig := { parameters := [.long, .long, .long, .long, .long], returnType := none }, accessFlags := 1, code := some k42c0 }
def k42c1 : Code := { maxStack := 2, maxLocals := 1, code := prog_33_method_5_code, exceptionTable := #[], attributes := #[] }
def k42m1 : Method := { name := "cycles", desc := "()J", sig := { parameters := [], returnType := some .long }, accessFlags := 1, code := some k42c1 }
def k42c2 : Code := { maxStack := 2, maxLocals := 1, code := prog_33_method_6_code, exceptionTable := #[], attributes := #[] }
def k42m2 : Method := { name := "initCycles", desc := "()J", sig := { parameters := [], returnType := some .long }, accessFlags := 1, code := some k42c2 }
def k42c3 : Code := { maxStack := 2, maxLocals := 1, code := prog_33_method_8_code, exceptionTable := #[], attributes := #[] }
def k42m3 : Method := { name := "dispatches", desc := "()J", sig := { parameters := [], returnType := some .long }, accessFlags := 1, code := some k42c3 }
/-- com/example/stackloom/stackloom/service/Core$KernelCounts -/
def k42 : Class := { plain "com/example/stackloom/stackloom/service/Core$KernelCounts" (some 12) with
  accessFlags := 49
  interfaces := #[]
  cf := some (fileOf pool42 8 #[.nestHost 48] #[{ accessFlags := 1, nameIndex := 5, descriptorIndex := 37, attributes := #[] }, { accessFlags := 1, nameIndex := 11, descriptorIndex := 44, attributes := #[] }, { accessFlags := 1, nameIndex := 15, descriptorIndex := 44, attributes := #[] }, { accessFlags := 1, nameIndex := 21, descriptorIndex := 44, attributes := #[] }] 49 2 #[] #[{ accessFlags := 18, nameIndex := 11, descriptorIndex := 12, attributes := #[] }, { accessFlags := 18, nameIndex := 15, descriptorIndex := 12, attributes := #[] }, { accessFlags := 18, nameIndex := 18, descriptorIndex := 12, attributes := #[] }, { accessFlags := 18, nameIndex := 21, descriptorIndex := 12, attributes := #[] }, { accessFlags := 18, nameIndex := 24, descriptorIndex := 12, attributes := #[] }])
  fields := #[{ name := "cycles", type := .long, accessFlags := 18, slot := 0, constantValue := 0 }, { name := "initCycles", type := .long, accessFlags := 18, slot := 1, constantValue := 0 }, { name := "entries", type := .long, accessFlags := 18, slot := 2, constantValue := 0 }, { name := "dispatches", type := .long, accessFlags := 18, slot := 3, constantValue := 0 }, { name := "tasksDone", type := .long, accessFlags := 18, slot := 4, constantValue := 0 }]
  methods := #[k42m0, k42m1, k42m2, k42m3]
  instanceTypes := #[.long, .long, .long, .long, .long]
  staticTypes := #[]
  resolved := Array.replicate 73 none
  statics := none }

def pool43 : Array CpInfo := pool [(1, u "java/lang/Class"), (0, .class_ 1), (0, u "java/lang/Object"), (0, .class_ 3)] 0

/-- java/lang/Class -/
def k43 : Class := { plain "java/lang/Class" (some 0) with
  accessFlags := 49
  interfaces := #[]
  cf := some (fileOf pool43 2 #[] #[] 49 4 #[] #[])
  fields := #[]
  methods := #[]
  instanceTypes := #[]
  staticTypes := #[]
  resolved := Array.replicate 5 none
  statics := none }

/-- the primitive byte -/
def k44 : Class := { plain "byte" none with kind := .primitive 'B', accessFlags := 0x411 }
/-- [B -/
def k45 : Class := { plain "[B" (some 0) with kind := .array 44 .byte, interfaces := #[9, 10], accessFlags := 1041 }

/-- the primitive int -/
def k46 : Class := { plain "int" none with kind := .primitive 'I', accessFlags := 0x411 }
/-- [I -/
def k47 : Class := { plain "[I" (some 0) with kind := .array 46 .int, interfaces := #[9, 10], accessFlags := 1041 }

/-- the primitive long -/
def k48 : Class := { plain "long" none with kind := .primitive 'J', accessFlags := 0x411 }
/-- [J -/
def k49 : Class := { plain "[J" (some 0) with kind := .array 48 .long, interfaces := #[9, 10], accessFlags := 1041 }

/-- [Ljava/lang/Integer; -/
def k50 : Class := { plain "[Ljava/lang/Integer;" (some 0) with kind := .array 36 (.object "java/lang/Integer"), interfaces := #[9, 10], accessFlags := 1041 }

/-- [Ljava/lang/Object; -/
def k51 : Class := { plain "[Ljava/lang/Object;" (some 0) with kind := .array 0 (.object "java/lang/Object"), interfaces := #[9, 10], accessFlags := 1041, mirror := some 6 }

def classes0 : Array Class := #[k0, k1, k2, k3, k4, k5, k6, k7, k8, k9, k10, k11, k12, k13, k14, k15, k16, k17, k18, k19, k20, k21, k22, k23, k24, k25, k26, k27, k28, k29, k30, k31, k32, k33, k34, k35, k36, k37, k38, k39, k40, k41, k42, k43, k44, k45, k46, k47, k48, k49, k50, k51]
/-- the class that the rule has made for the site at 38 of com/example/stackloom/stackloom/service/KernelWatch.<init> -/
def k52 : Class := Jvm.LamKit.madeRec { classes := classes0 } "com/example/stackloom/stackloom/service/KernelWatch" (Jvm.Lambda.Shape.mk "java/util/function/Function" "apply" (Jvm.ClassFile.MethodDescriptor.mk ([(Jvm.ClassFile.FieldType.object "java/lang/Object")] : List Jvm.ClassFile.FieldType) (Option.some (Jvm.ClassFile.FieldType.object "java/lang/Object"))) ([] : List Jvm.ClassFile.FieldType) (5 : Nat) "com/example/stackloom/stackloom/model/KernelLayout" "keepsTimer0" (Jvm.ClassFile.MethodDescriptor.mk ([] : List Jvm.ClassFile.FieldType) (Option.some Jvm.ClassFile.FieldType.boolean)) false (Jvm.ClassFile.MethodDescriptor.mk ([(Jvm.ClassFile.FieldType.object "com/example/stackloom/stackloom/model/KernelLayout")] : List Jvm.ClassFile.FieldType) (Option.some (Jvm.ClassFile.FieldType.object "java/lang/Boolean")))) 52

/-- the class that the rule has made for the site at 50 of com/example/stackloom/stackloom/service/KernelWatch.stackRestored -/
def k53 : Class := Jvm.LamKit.madeRec { classes := classes0 } "com/example/stackloom/stackloom/service/KernelWatch" (Jvm.Lambda.Shape.mk "java/util/function/Function" "apply" (Jvm.ClassFile.MethodDescriptor.mk ([(Jvm.ClassFile.FieldType.object "java/lang/Object")] : List Jvm.ClassFile.FieldType) (Option.some (Jvm.ClassFile.FieldType.object "java/lang/Object"))) ([Jvm.ClassFile.FieldType.int] : List Jvm.ClassFile.FieldType) (6 : Nat) "com/example/stackloom/stackloom/service/KernelWatch" "lambda$stackRestored$0" (Jvm.ClassFile.MethodDescriptor.mk ([Jvm.ClassFile.FieldType.int, (Jvm.ClassFile.FieldType.object "com/example/stackloom/stackloom/model/KernelLayout")] : List Jvm.ClassFile.FieldType) (Option.some (Jvm.ClassFile.FieldType.object "java/lang/Integer"))) false (Jvm.ClassFile.MethodDescriptor.mk ([(Jvm.ClassFile.FieldType.object "com/example/stackloom/stackloom/model/KernelLayout")] : List Jvm.ClassFile.FieldType) (Option.some (Jvm.ClassFile.FieldType.object "java/lang/Integer")))) 53

def heap : Heap := #[{ cls := 11, slots := #[.long 0, .int 0, .ref 267, .ref 268], vm := .statics 11 },
  { cls := 16, slots := #[.long 0, .int 0, .null, .ref 269, .ref 266, .null, .null, .null, .int 0, .int 1], vm := .statics 16 },
  { cls := 24, slots := #[.ref 271], vm := .statics 24 },
  { cls := 31, slots := #[.int 0, .int 0, .int 0, .int 0, .int 0, .null, .int 11, .int 0, .int 0, .int 0, .int 0, .int 0, .int 0, .int 0, .int 0, .int 0, .int 0, .int 0, .null, .int 0, .int 0, .int 0, .int 0], vm := .statics 31 },
  { cls := 37, slots := #[.int 0, .int 127, .ref 8, .null, .int 0], vm := .statics 37 },
  { cls := 38, slots := #[.null, .ref 270, .null, .long 0], vm := .statics 38 },
  { cls := 43, slots := #[], vm := .mirror 51 },
  { cls := 52, slots := #[], vm := .none },
  { cls := 50, slots := #[.ref 10, .ref 11, .ref 12, .ref 13, .ref 14, .ref 15, .ref 16, .ref 17, .ref 18, .ref 19, .ref 20, .ref 21, .ref 22, .ref 23, .ref 24, .ref 25, .ref 26, .ref 27, .ref 28, .ref 29, .ref 30, .ref 31, .ref 32, .ref 33, .ref 34, .ref 35, .ref 36, .ref 37, .ref 38, .ref 39, .ref 40, .ref 41, .ref 42, .ref 43, .ref 44, .ref 45, .ref 46, .ref 47, .ref 48, .ref 49, .ref 50, .ref 51, .ref 52, .ref 53, .ref 54, .ref 55, .ref 56, .ref 57, .ref 58, .ref 59, .ref 60, .ref 61, .ref 62, .ref 63, .ref 64, .ref 65, .ref 66, .ref 67, .ref 68, .ref 69, .ref 70, .ref 71, .ref 72, .ref 73, .ref 74, .ref 75, .ref 76, .ref 77, .ref 78, .ref 79, .ref 80, .ref 81, .ref 82, .ref 83, .ref 84, .ref 85, .ref 86, .ref 87, .ref 88, .ref 89, .ref 90, .ref 91, .ref 92, .ref 93, .ref 94, .ref 95, .ref 96, .ref 97, .ref 98, .ref 99, .ref 100, .ref 101, .ref 102, .ref 103, .ref 104, .ref 105, .ref 106, .ref 107, .ref 108, .ref 109, .ref 110, .ref 111, .ref 112, .ref 113, .ref 114, .ref 115, .ref 116, .ref 117, .ref 118, .ref 119, .ref 120, .ref 121, .ref 122, .ref 123, .ref 124, .ref 125, .ref 126, .ref 127, .ref 128, .ref 129, .ref 130, .ref 131, .ref 132, .ref 133, .ref 134, .ref 135, .ref 136, .ref 137, .ref 138, .ref 139, .ref 140, .ref 141, .ref 142, .ref 143, .ref 144, .ref 145, .ref 146, .ref 147, .ref 148, .ref 149, .ref 150, .ref 151, .ref 152, .ref 153, .ref 154, .ref 155, .ref 156, .ref 157, .ref 158, .ref 159, .ref 160, .ref 161, .ref 162, .ref 163, .ref 164, .ref 165, .ref 166, .ref 167, .ref 168, .ref 169, .ref 170, .ref 171, .ref 172, .ref 173, .ref 174, .ref 175, .ref 176, .ref 177, .ref 178, .ref 179, .ref 180, .ref 181, .ref 182, .ref 183, .ref 184, .ref 185, .ref 186, .ref 187, .ref 188, .ref 189, .ref 190, .ref 191, .ref 192, .ref 193, .ref 194, .ref 195, .ref 196, .ref 197, .ref 198, .ref 199, .ref 200, .ref 201, .ref 202, .ref 203, .ref 204, .ref 205, .ref 206, .ref 207, .ref 208, .ref 209, .ref 210, .ref 211, .ref 212, .ref 213, .ref 214, .ref 215, .ref 216, .ref 217, .ref 218, .ref 219, .ref 220, .ref 221, .ref 222, .ref 223, .ref 224, .ref 225, .ref 226, .ref 227, .ref 228, .ref 229, .ref 230, .ref 231, .ref 232, .ref 233, .ref 234, .ref 235, .ref 236, .ref 237, .ref 238, .ref 239, .ref 240, .ref 241, .ref 242, .ref 243, .ref 244, .ref 245, .ref 246, .ref 247, .ref 248, .ref 249, .ref 250, .ref 251, .ref 252, .ref 253, .ref 254, .ref 255, .ref 256, .ref 257, .ref 258, .ref 259, .ref 260, .ref 261, .ref 262, .ref 263, .ref 264, .ref 265], vm := .none },
  { cls := 51, slots := #[], vm := .none },
  { cls := 36, slots := #[.int (-128)], vm := .none },
  { cls := 36, slots := #[.int (-127)], vm := .none },
  { cls := 36, slots := #[.int (-126)], vm := .none },
  { cls := 36, slots := #[.int (-125)], vm := .none },
  { cls := 36, slots := #[.int (-124)], vm := .none },
  { cls := 36, slots := #[.int (-123)], vm := .none },
  { cls := 36, slots := #[.int (-122)], vm := .none },
  { cls := 36, slots := #[.int (-121)], vm := .none },
  { cls := 36, slots := #[.int (-120)], vm := .none },
  { cls := 36, slots := #[.int (-119)], vm := .none },
  { cls := 36, slots := #[.int (-118)], vm := .none },
  { cls := 36, slots := #[.int (-117)], vm := .none },
  { cls := 36, slots := #[.int (-116)], vm := .none },
  { cls := 36, slots := #[.int (-115)], vm := .none },
  { cls := 36, slots := #[.int (-114)], vm := .none },
  { cls := 36, slots := #[.int (-113)], vm := .none },
  { cls := 36, slots := #[.int (-112)], vm := .none },
  { cls := 36, slots := #[.int (-111)], vm := .none },
  { cls := 36, slots := #[.int (-110)], vm := .none },
  { cls := 36, slots := #[.int (-109)], vm := .none },
  { cls := 36, slots := #[.int (-108)], vm := .none },
  { cls := 36, slots := #[.int (-107)], vm := .none },
  { cls := 36, slots := #[.int (-106)], vm := .none },
  { cls := 36, slots := #[.int (-105)], vm := .none },
  { cls := 36, slots := #[.int (-104)], vm := .none },
  { cls := 36, slots := #[.int (-103)], vm := .none },
  { cls := 36, slots := #[.int (-102)], vm := .none },
  { cls := 36, slots := #[.int (-101)], vm := .none },
  { cls := 36, slots := #[.int (-100)], vm := .none },
  { cls := 36, slots := #[.int (-99)], vm := .none },
  { cls := 36, slots := #[.int (-98)], vm := .none },
  { cls := 36, slots := #[.int (-97)], vm := .none },
  { cls := 36, slots := #[.int (-96)], vm := .none },
  { cls := 36, slots := #[.int (-95)], vm := .none },
  { cls := 36, slots := #[.int (-94)], vm := .none },
  { cls := 36, slots := #[.int (-93)], vm := .none },
  { cls := 36, slots := #[.int (-92)], vm := .none },
  { cls := 36, slots := #[.int (-91)], vm := .none },
  { cls := 36, slots := #[.int (-90)], vm := .none },
  { cls := 36, slots := #[.int (-89)], vm := .none },
  { cls := 36, slots := #[.int (-88)], vm := .none },
  { cls := 36, slots := #[.int (-87)], vm := .none },
  { cls := 36, slots := #[.int (-86)], vm := .none },
  { cls := 36, slots := #[.int (-85)], vm := .none },
  { cls := 36, slots := #[.int (-84)], vm := .none },
  { cls := 36, slots := #[.int (-83)], vm := .none },
  { cls := 36, slots := #[.int (-82)], vm := .none },
  { cls := 36, slots := #[.int (-81)], vm := .none },
  { cls := 36, slots := #[.int (-80)], vm := .none },
  { cls := 36, slots := #[.int (-79)], vm := .none },
  { cls := 36, slots := #[.int (-78)], vm := .none },
  { cls := 36, slots := #[.int (-77)], vm := .none },
  { cls := 36, slots := #[.int (-76)], vm := .none },
  { cls := 36, slots := #[.int (-75)], vm := .none },
  { cls := 36, slots := #[.int (-74)], vm := .none },
  { cls := 36, slots := #[.int (-73)], vm := .none },
  { cls := 36, slots := #[.int (-72)], vm := .none },
  { cls := 36, slots := #[.int (-71)], vm := .none },
  { cls := 36, slots := #[.int (-70)], vm := .none },
  { cls := 36, slots := #[.int (-69)], vm := .none },
  { cls := 36, slots := #[.int (-68)], vm := .none },
  { cls := 36, slots := #[.int (-67)], vm := .none },
  { cls := 36, slots := #[.int (-66)], vm := .none },
  { cls := 36, slots := #[.int (-65)], vm := .none },
  { cls := 36, slots := #[.int (-64)], vm := .none },
  { cls := 36, slots := #[.int (-63)], vm := .none },
  { cls := 36, slots := #[.int (-62)], vm := .none },
  { cls := 36, slots := #[.int (-61)], vm := .none },
  { cls := 36, slots := #[.int (-60)], vm := .none },
  { cls := 36, slots := #[.int (-59)], vm := .none },
  { cls := 36, slots := #[.int (-58)], vm := .none },
  { cls := 36, slots := #[.int (-57)], vm := .none },
  { cls := 36, slots := #[.int (-56)], vm := .none },
  { cls := 36, slots := #[.int (-55)], vm := .none },
  { cls := 36, slots := #[.int (-54)], vm := .none },
  { cls := 36, slots := #[.int (-53)], vm := .none },
  { cls := 36, slots := #[.int (-52)], vm := .none },
  { cls := 36, slots := #[.int (-51)], vm := .none },
  { cls := 36, slots := #[.int (-50)], vm := .none },
  { cls := 36, slots := #[.int (-49)], vm := .none },
  { cls := 36, slots := #[.int (-48)], vm := .none },
  { cls := 36, slots := #[.int (-47)], vm := .none },
  { cls := 36, slots := #[.int (-46)], vm := .none },
  { cls := 36, slots := #[.int (-45)], vm := .none },
  { cls := 36, slots := #[.int (-44)], vm := .none },
  { cls := 36, slots := #[.int (-43)], vm := .none },
  { cls := 36, slots := #[.int (-42)], vm := .none },
  { cls := 36, slots := #[.int (-41)], vm := .none },
  { cls := 36, slots := #[.int (-40)], vm := .none },
  { cls := 36, slots := #[.int (-39)], vm := .none },
  { cls := 36, slots := #[.int (-38)], vm := .none },
  { cls := 36, slots := #[.int (-37)], vm := .none },
  { cls := 36, slots := #[.int (-36)], vm := .none },
  { cls := 36, slots := #[.int (-35)], vm := .none },
  { cls := 36, slots := #[.int (-34)], vm := .none },
  { cls := 36, slots := #[.int (-33)], vm := .none },
  { cls := 36, slots := #[.int (-32)], vm := .none },
  { cls := 36, slots := #[.int (-31)], vm := .none },
  { cls := 36, slots := #[.int (-30)], vm := .none },
  { cls := 36, slots := #[.int (-29)], vm := .none },
  { cls := 36, slots := #[.int (-28)], vm := .none },
  { cls := 36, slots := #[.int (-27)], vm := .none },
  { cls := 36, slots := #[.int (-26)], vm := .none },
  { cls := 36, slots := #[.int (-25)], vm := .none },
  { cls := 36, slots := #[.int (-24)], vm := .none },
  { cls := 36, slots := #[.int (-23)], vm := .none },
  { cls := 36, slots := #[.int (-22)], vm := .none },
  { cls := 36, slots := #[.int (-21)], vm := .none },
  { cls := 36, slots := #[.int (-20)], vm := .none },
  { cls := 36, slots := #[.int (-19)], vm := .none },
  { cls := 36, slots := #[.int (-18)], vm := .none },
  { cls := 36, slots := #[.int (-17)], vm := .none },
  { cls := 36, slots := #[.int (-16)], vm := .none },
  { cls := 36, slots := #[.int (-15)], vm := .none },
  { cls := 36, slots := #[.int (-14)], vm := .none },
  { cls := 36, slots := #[.int (-13)], vm := .none },
  { cls := 36, slots := #[.int (-12)], vm := .none },
  { cls := 36, slots := #[.int (-11)], vm := .none },
  { cls := 36, slots := #[.int (-10)], vm := .none },
  { cls := 36, slots := #[.int (-9)], vm := .none },
  { cls := 36, slots := #[.int (-8)], vm := .none },
  { cls := 36, slots := #[.int (-7)], vm := .none },
  { cls := 36, slots := #[.int (-6)], vm := .none },
  { cls := 36, slots := #[.int (-5)], vm := .none },
  { cls := 36, slots := #[.int (-4)], vm := .none },
  { cls := 36, slots := #[.int (-3)], vm := .none },
  { cls := 36, slots := #[.int (-2)], vm := .none },
  { cls := 36, slots := #[.int (-1)], vm := .none },
  { cls := 36, slots := #[.int (0)], vm := .none },
  { cls := 36, slots := #[.int (1)], vm := .none },
  { cls := 36, slots := #[.int (2)], vm := .none },
  { cls := 36, slots := #[.int (3)], vm := .none },
  { cls := 36, slots := #[.int (4)], vm := .none },
  { cls := 36, slots := #[.int (5)], vm := .none },
  { cls := 36, slots := #[.int (6)], vm := .none },
  { cls := 36, slots := #[.int (7)], vm := .none },
  { cls := 36, slots := #[.int (8)], vm := .none },
  { cls := 36, slots := #[.int (9)], vm := .none },
  { cls := 36, slots := #[.int (10)], vm := .none },
  { cls := 36, slots := #[.int (11)], vm := .none },
  { cls := 36, slots := #[.int (12)], vm := .none },
  { cls := 36, slots := #[.int (13)], vm := .none },
  { cls := 36, slots := #[.int (14)], vm := .none },
  { cls := 36, slots := #[.int (15)], vm := .none },
  { cls := 36, slots := #[.int (16)], vm := .none },
  { cls := 36, slots := #[.int (17)], vm := .none },
  { cls := 36, slots := #[.int (18)], vm := .none },
  { cls := 36, slots := #[.int (19)], vm := .none },
  { cls := 36, slots := #[.int (20)], vm := .none },
  { cls := 36, slots := #[.int (21)], vm := .none },
  { cls := 36, slots := #[.int (22)], vm := .none },
  { cls := 36, slots := #[.int (23)], vm := .none },
  { cls := 36, slots := #[.int (24)], vm := .none },
  { cls := 36, slots := #[.int (25)], vm := .none },
  { cls := 36, slots := #[.int (26)], vm := .none },
  { cls := 36, slots := #[.int (27)], vm := .none },
  { cls := 36, slots := #[.int (28)], vm := .none },
  { cls := 36, slots := #[.int (29)], vm := .none },
  { cls := 36, slots := #[.int (30)], vm := .none },
  { cls := 36, slots := #[.int (31)], vm := .none },
  { cls := 36, slots := #[.int (32)], vm := .none },
  { cls := 36, slots := #[.int (33)], vm := .none },
  { cls := 36, slots := #[.int (34)], vm := .none },
  { cls := 36, slots := #[.int (35)], vm := .none },
  { cls := 36, slots := #[.int (36)], vm := .none },
  { cls := 36, slots := #[.int (37)], vm := .none },
  { cls := 36, slots := #[.int (38)], vm := .none },
  { cls := 36, slots := #[.int (39)], vm := .none },
  { cls := 36, slots := #[.int (40)], vm := .none },
  { cls := 36, slots := #[.int (41)], vm := .none },
  { cls := 36, slots := #[.int (42)], vm := .none },
  { cls := 36, slots := #[.int (43)], vm := .none },
  { cls := 36, slots := #[.int (44)], vm := .none },
  { cls := 36, slots := #[.int (45)], vm := .none },
  { cls := 36, slots := #[.int (46)], vm := .none },
  { cls := 36, slots := #[.int (47)], vm := .none },
  { cls := 36, slots := #[.int (48)], vm := .none },
  { cls := 36, slots := #[.int (49)], vm := .none },
  { cls := 36, slots := #[.int (50)], vm := .none },
  { cls := 36, slots := #[.int (51)], vm := .none },
  { cls := 36, slots := #[.int (52)], vm := .none },
  { cls := 36, slots := #[.int (53)], vm := .none },
  { cls := 36, slots := #[.int (54)], vm := .none },
  { cls := 36, slots := #[.int (55)], vm := .none },
  { cls := 36, slots := #[.int (56)], vm := .none },
  { cls := 36, slots := #[.int (57)], vm := .none },
  { cls := 36, slots := #[.int (58)], vm := .none },
  { cls := 36, slots := #[.int (59)], vm := .none },
  { cls := 36, slots := #[.int (60)], vm := .none },
  { cls := 36, slots := #[.int (61)], vm := .none },
  { cls := 36, slots := #[.int (62)], vm := .none },
  { cls := 36, slots := #[.int (63)], vm := .none },
  { cls := 36, slots := #[.int (64)], vm := .none },
  { cls := 36, slots := #[.int (65)], vm := .none },
  { cls := 36, slots := #[.int (66)], vm := .none },
  { cls := 36, slots := #[.int (67)], vm := .none },
  { cls := 36, slots := #[.int (68)], vm := .none },
  { cls := 36, slots := #[.int (69)], vm := .none },
  { cls := 36, slots := #[.int (70)], vm := .none },
  { cls := 36, slots := #[.int (71)], vm := .none },
  { cls := 36, slots := #[.int (72)], vm := .none },
  { cls := 36, slots := #[.int (73)], vm := .none },
  { cls := 36, slots := #[.int (74)], vm := .none },
  { cls := 36, slots := #[.int (75)], vm := .none },
  { cls := 36, slots := #[.int (76)], vm := .none },
  { cls := 36, slots := #[.int (77)], vm := .none },
  { cls := 36, slots := #[.int (78)], vm := .none },
  { cls := 36, slots := #[.int (79)], vm := .none },
  { cls := 36, slots := #[.int (80)], vm := .none },
  { cls := 36, slots := #[.int (81)], vm := .none },
  { cls := 36, slots := #[.int (82)], vm := .none },
  { cls := 36, slots := #[.int (83)], vm := .none },
  { cls := 36, slots := #[.int (84)], vm := .none },
  { cls := 36, slots := #[.int (85)], vm := .none },
  { cls := 36, slots := #[.int (86)], vm := .none },
  { cls := 36, slots := #[.int (87)], vm := .none },
  { cls := 36, slots := #[.int (88)], vm := .none },
  { cls := 36, slots := #[.int (89)], vm := .none },
  { cls := 36, slots := #[.int (90)], vm := .none },
  { cls := 36, slots := #[.int (91)], vm := .none },
  { cls := 36, slots := #[.int (92)], vm := .none },
  { cls := 36, slots := #[.int (93)], vm := .none },
  { cls := 36, slots := #[.int (94)], vm := .none },
  { cls := 36, slots := #[.int (95)], vm := .none },
  { cls := 36, slots := #[.int (96)], vm := .none },
  { cls := 36, slots := #[.int (97)], vm := .none },
  { cls := 36, slots := #[.int (98)], vm := .none },
  { cls := 36, slots := #[.int (99)], vm := .none },
  { cls := 36, slots := #[.int (100)], vm := .none },
  { cls := 36, slots := #[.int (101)], vm := .none },
  { cls := 36, slots := #[.int (102)], vm := .none },
  { cls := 36, slots := #[.int (103)], vm := .none },
  { cls := 36, slots := #[.int (104)], vm := .none },
  { cls := 36, slots := #[.int (105)], vm := .none },
  { cls := 36, slots := #[.int (106)], vm := .none },
  { cls := 36, slots := #[.int (107)], vm := .none },
  { cls := 36, slots := #[.int (108)], vm := .none },
  { cls := 36, slots := #[.int (109)], vm := .none },
  { cls := 36, slots := #[.int (110)], vm := .none },
  { cls := 36, slots := #[.int (111)], vm := .none },
  { cls := 36, slots := #[.int (112)], vm := .none },
  { cls := 36, slots := #[.int (113)], vm := .none },
  { cls := 36, slots := #[.int (114)], vm := .none },
  { cls := 36, slots := #[.int (115)], vm := .none },
  { cls := 36, slots := #[.int (116)], vm := .none },
  { cls := 36, slots := #[.int (117)], vm := .none },
  { cls := 36, slots := #[.int (118)], vm := .none },
  { cls := 36, slots := #[.int (119)], vm := .none },
  { cls := 36, slots := #[.int (120)], vm := .none },
  { cls := 36, slots := #[.int (121)], vm := .none },
  { cls := 36, slots := #[.int (122)], vm := .none },
  { cls := 36, slots := #[.int (123)], vm := .none },
  { cls := 36, slots := #[.int (124)], vm := .none },
  { cls := 36, slots := #[.int (125)], vm := .none },
  { cls := 36, slots := #[.int (126)], vm := .none },
  { cls := 36, slots := #[.int (127)], vm := .none },
  { cls := 20, slots := #[.ref 9, .int 0], vm := .none },
  { cls := 51, slots := #[], vm := .none },
  { cls := 51, slots := #[], vm := .none },
  { cls := 0, slots := #[], vm := .none },
  { cls := 38, slots := #[.int 0], vm := .none },
  { cls := 24, slots := #[.null], vm := .none }]
def classes : Array Class := #[k0, k1, k2, k3, k4, k5, k6, k7, k8, k9, k10, k11, k12, k13, k14, k15, k16, k17, k18, k19, k20, k21, k22, k23, k24, k25, k26, k27, k28, k29, k30, k31, k32, k33, k34, k35, k36, k37, k38, k39, k40, k41, k42, k43, k44, k45, k46, k47, k48, k49, k50, k51, k52, k53]
def interned : List (Array UInt16 × Addr) := []
def slotsUsed : Nat := 563
def theMethod : MethodId := ⟨1, 1⟩
def args0 : Array Value := #[.int 1, .int 2, .int 3, .int 4]
def aboutOver (below : List Frame) : State where
  vm := { classes := classes, interned := interned.toArray }
  heap := heap
  slotsUsed := slotsUsed
  threads := #[{ frames := .invoking theMethod args0 :: below }]
def below0 : List Frame := [.native { method := ⟨0, 0⟩, args := #[] }]
def about1 : State := aboutOver below0
def p0 : Program := .bare "" "" ""
def e0 : Env := launch0.env 0 0 0
theorem w_frames : about1.frames = Frame.invoking theMethod args0 :: below0 := rfl
set_option maxRecDepth 65536 in
theorem w_args : argsFit about1.vm theMethod args0 = true := by decide +kernel
set_option maxRecDepth 65536 in
theorem w_heap : heapFits about1 = true := by decide +kernel
set_option maxRecDepth 65536 in
theorem w_runnable : about1.curStatus? = some .runnable := by decide +kernel
set_option maxRecDepth 65536 in
theorem w_alone : about1.alone = true := by decide +kernel
set_option maxRecDepth 65536 in
theorem w_named : about1.methodNamed? x = some theMethod := by decide +kernel
set_option maxRecDepth 65536 in
theorem w_hears : about1.hears theMethod below0 = true := by decide +kernel
set_option maxRecDepth 65536 in
theorem w_ripe : about1.ripe theMethod args0 below0 = true := by decide +kernel
theorem w_running : about1.status = .running := rfl
set_option maxRecDepth 65536 in
theorem w_room : about1.hasRoom e0.platform room_1 = true :=
  launch0.hasRoom_least _ room_1 (by decide +kernel) (by decide +kernel) (by decide +kernel) (by decide +kernel) (by decide +kernel) (by decide +kernel)
theorem allAtoms_all (ts : List Jvm.Cond) (a : Array Jvm.Value) (st : Jvm.State) : (allAtoms ts).before a st = ts.all (fun c => c.before a st) := by
  induction ts with
  | nil => rfl
  | cons c t ih =>
    show (Jvm.Cond.and c (allAtoms t)).before a st = _
    rw [Jvm.Cond.before_and, ih, List.all_cons]
def words1 : List Jvm.Cond := Jvm.Cond.code x code maxLocals ret :: tables_1
/-- a 'code' word, met by the world's own term for the bytes: nothing is compared byte by byte -/
theorem code_word {y : MethodName} {bytes : ByteArray} {mx : Nat} {rt : Option FieldType} {a : Array Value} {s : State} {m : MethodId} {meth : Method} {c : Code} (h1 : s.methodNamed? y = some m) (h2 : s.vm.method? m = some meth) (h3 : meth.code = some c) (h4 : c.code = bytes)
    (h5 : (c.maxLocals == mx && c.exceptionTable.isEmpty && decide (c.maxStack ≤ mostOperands) && decide (meth.sig.returnType = rt) && !meth.locks && decide (parseMethodDescriptor y.desc = some meth.sig)) = true) : (Jvm.Cond.code y bytes mx rt).before a s = true := by
  simp only [Bool.and_eq_true, beq_iff_eq, Bool.not_eq_true', decide_eq_true_eq] at h5
  obtain ⟨⟨⟨⟨⟨g1, g2⟩, g3⟩, g4⟩, g5⟩, g6⟩ := h5
  simp [Cond.before, Cond.holds, Cond.value, h1, h2, h3, h4, g1, g2, g3, g4, g5, g6]
def isCode : Jvm.Cond → Bool
  | .code _ _ _ _ => true
  | _ => false
theorem all_split {L : List Jvm.Cond} {P : Jvm.Cond → Bool} (h1 : L.all (fun c => isCode c || P c) = true) (h2 : ∀ c ∈ L.filter isCode, P c = true) : L.all P = true := by
  refine List.all_eq_true.mpr fun c hc => ?_
  have h := List.all_eq_true.mp h1 c hc
  rcases Bool.eq_false_or_eq_true (isCode c) with hi | hi
  · exact h2 c (List.mem_filter.mpr ⟨hc, hi⟩)
  · simpa [hi] using h
set_option maxRecDepth 65536 in
theorem w_c0 : (Jvm.Cond.code x code maxLocals ret).before args0 about1 = true := code_word (m := ⟨1, 1⟩) (meth := k1m1) (c := k1c1) (by decide +kernel) rfl rfl rfl (by decide +kernel)
set_option maxRecDepth 65536 in
theorem w_c1 : (Jvm.Cond.code ({ cls := "java/util/ArrayList", name := "<init>", desc := "()V" } : Jvm.MethodName) jdk_38_method_2_code (1 : Nat) (Option.none : Option Jvm.ClassFile.FieldType)).before args0 about1 = true := code_word (m := ⟨11, 0⟩) (meth := k11m0) (c := k11c0) (by decide +kernel) rfl rfl rfl (by decide +kernel)
set_option maxRecDepth 65536 in
theorem w_c2 : (Jvm.Cond.code ({ cls := "java/util/AbstractList", name := "<init>", desc := "()V" } : Jvm.MethodName) jdk_39_method_1_code (1 : Nat) (Option.none : Option Jvm.ClassFile.FieldType)).before args0 about1 = true := code_word (m := ⟨7, 0⟩) (meth := k7m0) (c := k7c0) (by decide +kernel) rfl rfl rfl (by decide +kernel)
set_option maxRecDepth 65536 in
theorem w_c3 : (Jvm.Cond.code ({ cls := "java/util/AbstractCollection", name := "<init>", desc := "()V" } : Jvm.MethodName) jdk_22_method_1_code (1 : Nat) (Option.none : Option Jvm.ClassFile.FieldType)).before args0 about1 = true := code_word (m := ⟨4, 0⟩) (meth := k4m0) (c := k4c0) (by decide +kernel) rfl rfl rfl (by decide +kernel)
set_option maxRecDepth 65536 in
theorem w_c4 : (Jvm.Cond.code ({ cls := "java/lang/Object", name := "<init>", desc := "()V" } : Jvm.MethodName) object_method_1_code (1 : Nat) (Option.none : Option Jvm.ClassFile.FieldType)).before args0 about1 = true := code_word (m := ⟨0, 0⟩) (meth := k0m0) (c := k0c0) (by decide +kernel) rfl rfl rfl (by decide +kernel)
set_option maxRecDepth 65536 in
theorem w_c5 : (Jvm.Cond.code ({ cls := "com/example/stackloom/stackloom/model/KernelLayout$Task", name := "<init>", desc := "(III)V" } : Jvm.MethodName) prog_27_method_1_code (4 : Nat) (Option.none : Option Jvm.ClassFile.FieldType)).before args0 about1 = true := code_word (m := ⟨13, 0⟩) (meth := k13m0) (c := k13c0) (by decide +kernel) rfl rfl rfl (by decide +kernel)
set_option maxRecDepth 65536 in
theorem w_c6 : (Jvm.Cond.code ({ cls := "java/lang/Record", name := "<init>", desc := "()V" } : Jvm.MethodName) jdk_30_method_1_code (1 : Nat) (Option.none : Option Jvm.ClassFile.FieldType)).before args0 about1 = true := code_word (m := ⟨12, 0⟩) (meth := k12m0) (c := k12c0) (by decide +kernel) rfl rfl rfl (by decide +kernel)
set_option maxRecDepth 65536 in
theorem w_c7 : (Jvm.Cond.code ({ cls := "java/util/ArrayList", name := "add", desc := "(Ljava/lang/Object;)Z" } : Jvm.MethodName) jdk_38_method_25_code (2 : Nat) (Option.some Jvm.ClassFile.FieldType.boolean)).before args0 about1 = true := code_word (m := ⟨11, 6⟩) (meth := k11m6) (c := k11c6) (by decide +kernel) rfl rfl rfl (by decide +kernel)
set_option maxRecDepth 65536 in
theorem w_c8 : (Jvm.Cond.code ({ cls := "java/util/ArrayList", name := "add", desc := "(Ljava/lang/Object;[Ljava/lang/Object;I)V" } : Jvm.MethodName) jdk_38_method_24_code (4 : Nat) (Option.none : Option Jvm.ClassFile.FieldType)).before args0 about1 = true := code_word (m := ⟨11, 5⟩) (meth := k11m5) (c := k11c5) (by decide +kernel) rfl rfl rfl (by decide +kernel)
set_option maxRecDepth 65536 in
theorem w_c9 : (Jvm.Cond.code ({ cls := "java/util/ArrayList", name := "grow", desc := "()[Ljava/lang/Object;" } : Jvm.MethodName) jdk_38_method_7_code (1 : Nat) (Option.some (Jvm.ClassFile.FieldType.array (Jvm.ClassFile.FieldType.object "java/lang/Object")))).before args0 about1 = true := code_word (m := ⟨11, 2⟩) (meth := k11m2) (c := k11c2) (by decide +kernel) rfl rfl rfl (by decide +kernel)
set_option maxRecDepth 65536 in
theorem w_c10 : (Jvm.Cond.code ({ cls := "java/util/ArrayList", name := "grow", desc := "(I)[Ljava/lang/Object;" } : Jvm.MethodName) jdk_38_method_6_code (4 : Nat) (Option.some (Jvm.ClassFile.FieldType.array (Jvm.ClassFile.FieldType.object "java/lang/Object")))).before args0 about1 = true := code_word (m := ⟨11, 1⟩) (meth := k11m1) (c := k11c1) (by decide +kernel) rfl rfl rfl (by decide +kernel)
set_option maxRecDepth 65536 in
theorem w_c11 : (Jvm.Cond.code ({ cls := "java/lang/Math", name := "max", desc := "(II)I" } : Jvm.MethodName) jdk_29_method_65_code (2 : Nat) (Option.some Jvm.ClassFile.FieldType.int)).before args0 about1 = true := code_word (m := ⟨14, 1⟩) (meth := k14m1) (c := k14c1) (by decide +kernel) rfl rfl rfl (by decide +kernel)
set_option maxRecDepth 65536 in
theorem w_c12 : (Jvm.Cond.code ({ cls := "com/example/stackloom/stackloom/model/KernelLayout", name := "<init>", desc := "(IIILjava/util/List;)V" } : Jvm.MethodName) prog_26_method_2_code (5 : Nat) (Option.none : Option Jvm.ClassFile.FieldType)).before args0 about1 = true := code_word (m := ⟨15, 1⟩) (meth := k15m1) (c := k15c1) (by decide +kernel) rfl rfl rfl (by decide +kernel)
set_option maxRecDepth 65536 in
theorem w_c13 : (Jvm.Cond.code ({ cls := "java/util/List", name := "of", desc := "()Ljava/util/List;" } : Jvm.MethodName) jdk_40_method_36_code (0 : Nat) (Option.some (Jvm.ClassFile.FieldType.object "java/util/List"))).before args0 about1 = true := code_word (m := ⟨6, 5⟩) (meth := k6m5) (c := k6c5) (by decide +kernel) rfl rfl rfl (by decide +kernel)
set_option maxRecDepth 65536 in
theorem w_c14 : (Jvm.Cond.code ({ cls := "com/example/stackloom/stackloom/model/KernelLayout", name := "<init>", desc := "(IILjava/util/List;IILjava/util/List;)V" } : Jvm.MethodName) prog_26_method_1_code (7 : Nat) (Option.none : Option Jvm.ClassFile.FieldType)).before args0 about1 = true := code_word (m := ⟨15, 0⟩) (meth := k15m0) (c := k15c0) (by decide +kernel) rfl rfl rfl (by decide +kernel)
set_option maxRecDepth 65536 in
theorem w_c15 : (Jvm.Cond.code ({ cls := "java/util/List", name := "copyOf", desc := "(Ljava/util/Collection;)Ljava/util/List;" } : Jvm.MethodName) jdk_40_method_48_code (1 : Nat) (Option.some (Jvm.ClassFile.FieldType.object "java/util/List"))).before args0 about1 = true := code_word (m := ⟨6, 7⟩) (meth := k6m7) (c := k6c7) (by decide +kernel) rfl rfl rfl (by decide +kernel)
set_option maxRecDepth 65536 in
theorem w_c16 : (Jvm.Cond.code ({ cls := "java/util/ImmutableCollections", name := "listCopy", desc := "(Ljava/util/Collection;)Ljava/util/List;" } : Jvm.MethodName) jdk_56_method_3_code (2 : Nat) (Option.some (Jvm.ClassFile.FieldType.object "java/util/List"))).before args0 about1 = true := code_word (m := ⟨16, 1⟩) (meth := k16m1) (c := k16c1) (by decide +kernel) rfl rfl rfl (by decide +kernel)
set_option maxRecDepth 65536 in
theorem w_c17 : (Jvm.Cond.code ({ cls := "java/util/ArrayList", name := "isEmpty", desc := "()Z" } : Jvm.MethodName) jdk_38_method_9_code (1 : Nat) (Option.some Jvm.ClassFile.FieldType.boolean)).before args0 about1 = true := code_word (m := ⟨11, 3⟩) (meth := k11m3) (c := k11c3) (by decide +kernel) rfl rfl rfl (by decide +kernel)
set_option maxRecDepth 65536 in
theorem w_c18 : (Jvm.Cond.code ({ cls := "java/util/ArrayList", name := "toArray", desc := "()[Ljava/lang/Object;" } : Jvm.MethodName) jdk_38_method_16_code (1 : Nat) (Option.some (Jvm.ClassFile.FieldType.array (Jvm.ClassFile.FieldType.object "java/lang/Object")))).before args0 about1 = true := code_word (m := ⟨11, 4⟩) (meth := k11m4) (c := k11c4) (by decide +kernel) rfl rfl rfl (by decide +kernel)
set_option maxRecDepth 65536 in
theorem w_c19 : (Jvm.Cond.code ({ cls := "java/util/Arrays", name := "copyOf", desc := "([Ljava/lang/Object;I)[Ljava/lang/Object;" } : Jvm.MethodName) jdk_65_method_119_code (2 : Nat) (Option.some (Jvm.ClassFile.FieldType.array (Jvm.ClassFile.FieldType.object "java/lang/Object")))).before args0 about1 = true := code_word (m := ⟨21, 1⟩) (meth := k21m1) (c := k21c1) (by decide +kernel) rfl rfl rfl (by decide +kernel)
set_option maxRecDepth 65536 in
theorem w_c20 : (Jvm.Cond.code ({ cls := "java/util/Arrays", name := "copyOf", desc := "([Ljava/lang/Object;ILjava/lang/Class;)[Ljava/lang/Object;" } : Jvm.MethodName) jdk_65_method_120_code (4 : Nat) (Option.some (Jvm.ClassFile.FieldType.array (Jvm.ClassFile.FieldType.object "java/lang/Object")))).before args0 about1 = true := code_word (m := ⟨21, 2⟩) (meth := k21m2) (c := k21c2) (by decide +kernel) rfl rfl rfl (by decide +kernel)
set_option maxRecDepth 65536 in
theorem w_c21 : (Jvm.Cond.code ({ cls := "java/lang/Math", name := "min", desc := "(II)I" } : Jvm.MethodName) jdk_29_method_69_code (2 : Nat) (Option.some Jvm.ClassFile.FieldType.int)).before args0 about1 = true := code_word (m := ⟨14, 2⟩) (meth := k14m2) (c := k14c2) (by decide +kernel) rfl rfl rfl (by decide +kernel)
set_option maxRecDepth 65536 in
theorem w_c22 : (Jvm.Cond.code ({ cls := "java/util/List", name := "of", desc := "([Ljava/lang/Object;)Ljava/util/List;" } : Jvm.MethodName) jdk_40_method_47_code (2 : Nat) (Option.some (Jvm.ClassFile.FieldType.object "java/util/List"))).before args0 about1 = true := code_word (m := ⟨6, 6⟩) (meth := k6m6) (c := k6c6) (by decide +kernel) rfl rfl rfl (by decide +kernel)
set_option maxRecDepth 65536 in
theorem w_c23 : (Jvm.Cond.code ({ cls := "java/util/ImmutableCollections$List12", name := "<init>", desc := "(Ljava/lang/Object;)V" } : Jvm.MethodName) jdk_44_method_1_code (2 : Nat) (Option.none : Option Jvm.ClassFile.FieldType)).before args0 about1 = true := code_word (m := ⟨19, 0⟩) (meth := k19m0) (c := k19c0) (by decide +kernel) rfl rfl rfl (by decide +kernel)
set_option maxRecDepth 65536 in
theorem w_c24 : (Jvm.Cond.code ({ cls := "java/util/ImmutableCollections$AbstractImmutableList", name := "<init>", desc := "()V" } : Jvm.MethodName) jdk_46_method_1_code (1 : Nat) (Option.none : Option Jvm.ClassFile.FieldType)).before args0 about1 = true := code_word (m := ⟨18, 0⟩) (meth := k18m0) (c := k18c0) (by decide +kernel) rfl rfl rfl (by decide +kernel)
set_option maxRecDepth 65536 in
theorem w_c25 : (Jvm.Cond.code ({ cls := "java/util/ImmutableCollections$AbstractImmutableCollection", name := "<init>", desc := "()V" } : Jvm.MethodName) jdk_47_method_1_code (1 : Nat) (Option.none : Option Jvm.ClassFile.FieldType)).before args0 about1 = true := code_word (m := ⟨17, 0⟩) (meth := k17m0) (c := k17c0) (by decide +kernel) rfl rfl rfl (by decide +kernel)
set_option maxRecDepth 65536 in
theorem w_c26 : (Jvm.Cond.code ({ cls := "java/util/Objects", name := "requireNonNull", desc := "(Ljava/lang/Object;)Ljava/lang/Object;" } : Jvm.MethodName) jdk_31_method_10_code (1 : Nat) (Option.some (Jvm.ClassFile.FieldType.object "java/lang/Object"))).before args0 about1 = true := code_word (m := ⟨23, 1⟩) (meth := k23m1) (c := k23c1) (by decide +kernel) rfl rfl rfl (by decide +kernel)
set_option maxRecDepth 65536 in
theorem w_c27 : (Jvm.Cond.code ({ cls := "java/util/Optional", name := "of", desc := "(Ljava/lang/Object;)Ljava/util/Optional;" } : Jvm.MethodName) jdk_32_method_3_code (1 : Nat) (Option.some (Jvm.ClassFile.FieldType.object "java/util/Optional"))).before args0 about1 = true := code_word (m := ⟨24, 2⟩) (meth := k24m2) (c := k24c2) (by decide +kernel) rfl rfl rfl (by decide +kernel)
set_option maxRecDepth 65536 in
theorem w_c28 : (Jvm.Cond.code ({ cls := "java/util/Optional", name := "<init>", desc := "(Ljava/lang/Object;)V" } : Jvm.MethodName) jdk_32_method_2_code (2 : Nat) (Option.none : Option Jvm.ClassFile.FieldType)).before args0 about1 = true := code_word (m := ⟨24, 1⟩) (meth := k24m1) (c := k24c1) (by decide +kernel) rfl rfl rfl (by decide +kernel)
set_option maxRecDepth 65536 in
theorem w_c29 : (Jvm.Cond.code ({ cls := "com/example/stackloom/stackloom/service/KernelWatch", name := "<init>", desc := "(Ljava/util/Optional;)V" } : Jvm.MethodName) prog_35_method_1_code (2 : Nat) (Option.none : Option Jvm.ClassFile.FieldType)).before args0 about1 = true := code_word (m := ⟨25, 0⟩) (meth := k25m0) (c := k25c0) (by decide +kernel) rfl rfl rfl (by decide +kernel)
set_option maxRecDepth 65536 in
theorem w_c30 : (Jvm.Cond.code ({ cls := "java/util/HashMap", name := "<init>", desc := "()V" } : Jvm.MethodName) jdk_69_method_7_code (1 : Nat) (Option.none : Option Jvm.ClassFile.FieldType)).before args0 about1 = true := code_word (m := ⟨28, 0⟩) (meth := k28m0) (c := k28c0) (by decide +kernel) rfl rfl rfl (by decide +kernel)
set_option maxRecDepth 65536 in
theorem w_c31 : (Jvm.Cond.code ({ cls := "java/util/AbstractMap", name := "<init>", desc := "()V" } : Jvm.MethodName) jdk_71_method_1_code (1 : Nat) (Option.none : Option Jvm.ClassFile.FieldType)).before args0 about1 = true := code_word (m := ⟨27, 0⟩) (meth := k27m0) (c := k27c0) (by decide +kernel) rfl rfl rfl (by decide +kernel)
set_option maxRecDepth 65536 in
theorem w_c32 : (Jvm.Cond.code ({ cls := "java/util/BitSet", name := "<init>", desc := "()V" } : Jvm.MethodName) jdk_92_method_4_code (1 : Nat) (Option.none : Option Jvm.ClassFile.FieldType)).before args0 about1 = true := code_word (m := ⟨29, 1⟩) (meth := k29m1) (c := k29c1) (by decide +kernel) rfl rfl rfl (by decide +kernel)
set_option maxRecDepth 65536 in
theorem w_c33 : (Jvm.Cond.code ({ cls := "java/util/BitSet", name := "initWords", desc := "(I)V" } : Jvm.MethodName) jdk_92_method_6_code (2 : Nat) (Option.none : Option Jvm.ClassFile.FieldType)).before args0 about1 = true := code_word (m := ⟨29, 2⟩) (meth := k29m2) (c := k29c2) (by decide +kernel) rfl rfl rfl (by decide +kernel)
set_option maxRecDepth 65536 in
theorem w_c34 : (Jvm.Cond.code ({ cls := "java/util/BitSet", name := "wordIndex", desc := "(I)I" } : Jvm.MethodName) jdk_92_method_1_code (1 : Nat) (Option.some Jvm.ClassFile.FieldType.int)).before args0 about1 = true := code_word (m := ⟨29, 0⟩) (meth := k29m0) (c := k29c0) (by decide +kernel) rfl rfl rfl (by decide +kernel)
set_option maxRecDepth 65536 in
theorem w_c35 : (Jvm.Cond.code ({ cls := "java/util/Optional", name := "map", desc := "(Ljava/util/function/Function;)Ljava/util/Optional;" } : Jvm.MethodName) jdk_32_method_11_code (2 : Nat) (Option.some (Jvm.ClassFile.FieldType.object "java/util/Optional"))).before args0 about1 = true := code_word (m := ⟨24, 6⟩) (meth := k24m6) (c := k24c6) (by decide +kernel) rfl rfl rfl (by decide +kernel)
set_option maxRecDepth 65536 in
theorem w_c36 : (Jvm.Cond.code ({ cls := "java/util/Optional", name := "isEmpty", desc := "()Z" } : Jvm.MethodName) jdk_32_method_7_code (1 : Nat) (Option.some Jvm.ClassFile.FieldType.boolean)).before args0 about1 = true := code_word (m := ⟨24, 5⟩) (meth := k24m5) (c := k24c5) (by decide +kernel) rfl rfl rfl (by decide +kernel)
set_option maxRecDepth 65536 in
theorem w_c37 : (Jvm.Cond.code ({ cls := "com/example/stackloom/stackloom/model/KernelLayout", name := "keepsTimer0", desc := "()Z" } : Jvm.MethodName) prog_26_method_4_code (1 : Nat) (Option.some Jvm.ClassFile.FieldType.boolean)).before args0 about1 = true := code_word (m := ⟨15, 3⟩) (meth := k15m3) (c := k15c3) (by decide +kernel) rfl rfl rfl (by decide +kernel)
set_option maxRecDepth 65536 in
theorem w_c38 : (Jvm.Cond.code ({ cls := "java/lang/Integer", name := "valueOf", desc := "(I)Ljava/lang/Integer;" } : Jvm.MethodName) jdk_33_method_22_code (1 : Nat) (Option.some (Jvm.ClassFile.FieldType.object "java/lang/Integer"))).before args0 about1 = true := code_word (m := ⟨36, 0⟩) (meth := k36m0) (c := k36c0) (by decide +kernel) rfl rfl rfl (by decide +kernel)
set_option maxRecDepth 65536 in
theorem w_c39 : (Jvm.Cond.code ({ cls := "java/util/ImmutableCollections$AbstractImmutableList", name := "contains", desc := "(Ljava/lang/Object;)Z" } : Jvm.MethodName) jdk_46_method_15_code (2 : Nat) (Option.some Jvm.ClassFile.FieldType.boolean)).before args0 about1 = true := code_word (m := ⟨18, 2⟩) (meth := k18m2) (c := k18c2) (by decide +kernel) rfl rfl rfl (by decide +kernel)
set_option maxRecDepth 65536 in
theorem w_c40 : (Jvm.Cond.code ({ cls := "java/util/ImmutableCollections$ListN", name := "indexOf", desc := "(Ljava/lang/Object;)I" } : Jvm.MethodName) jdk_45_method_9_code (4 : Nat) (Option.some Jvm.ClassFile.FieldType.int)).before args0 about1 = true := code_word (m := ⟨20, 1⟩) (meth := k20m1) (c := k20c1) (by decide +kernel) rfl rfl rfl (by decide +kernel)
set_option maxRecDepth 65536 in
theorem w_c41 : (Jvm.Cond.code ({ cls := "java/lang/Boolean", name := "valueOf", desc := "(Z)Ljava/lang/Boolean;" } : Jvm.MethodName) jdk_2055_method_5_code (1 : Nat) (Option.some (Jvm.ClassFile.FieldType.object "java/lang/Boolean"))).before args0 about1 = true := code_word (m := ⟨38, 1⟩) (meth := k38m1) (c := k38c1) (by decide +kernel) rfl rfl rfl (by decide +kernel)
set_option maxRecDepth 65536 in
theorem w_c42 : (Jvm.Cond.code ({ cls := "java/util/Optional", name := "ofNullable", desc := "(Ljava/lang/Object;)Ljava/util/Optional;" } : Jvm.MethodName) jdk_32_method_4_code (1 : Nat) (Option.some (Jvm.ClassFile.FieldType.object "java/util/Optional"))).before args0 about1 = true := code_word (m := ⟨24, 3⟩) (meth := k24m3) (c := k24c3) (by decide +kernel) rfl rfl rfl (by decide +kernel)
set_option maxRecDepth 65536 in
theorem w_c43 : (Jvm.Cond.code ({ cls := "java/util/Optional", name := "orElse", desc := "(Ljava/lang/Object;)Ljava/lang/Object;" } : Jvm.MethodName) jdk_32_method_15_code (2 : Nat) (Option.some (Jvm.ClassFile.FieldType.object "java/lang/Object"))).before args0 about1 = true := code_word (m := ⟨24, 7⟩) (meth := k24m7) (c := k24c7) (by decide +kernel) rfl rfl rfl (by decide +kernel)
set_option maxRecDepth 65536 in
theorem w_c44 : (Jvm.Cond.code ({ cls := "java/lang/Boolean", name := "booleanValue", desc := "()Z" } : Jvm.MethodName) jdk_2055_method_4_code (1 : Nat) (Option.some Jvm.ClassFile.FieldType.boolean)).before args0 about1 = true := code_word (m := ⟨38, 0⟩) (meth := k38m0) (c := k38c0) (by decide +kernel) rfl rfl rfl (by decide +kernel)
set_option maxRecDepth 65536 in
theorem w_c45 : (Jvm.Cond.code ({ cls := "com/example/stackloom/stackloom/service/KernelWatch", name := "starting", desc := "(I)V" } : Jvm.MethodName) prog_35_method_10_code (3 : Nat) (Option.none : Option Jvm.ClassFile.FieldType)).before args0 about1 = true := code_word (m := ⟨25, 2⟩) (meth := k25m2) (c := k25c2) (by decide +kernel) rfl rfl rfl (by decide +kernel)
set_option maxRecDepth 65536 in
theorem w_c46 : (Jvm.Cond.code ({ cls := "java/util/Optional", name := "isPresent", desc := "()Z" } : Jvm.MethodName) jdk_32_method_6_code (1 : Nat) (Option.some Jvm.ClassFile.FieldType.boolean)).before args0 about1 = true := code_word (m := ⟨24, 4⟩) (meth := k24m4) (c := k24c4) (by decide +kernel) rfl rfl rfl (by decide +kernel)
set_option maxRecDepth 65536 in
theorem w_c47 : (Jvm.Cond.code ({ cls := "java/util/Optional", name := "orElseThrow", desc := "()Ljava/lang/Object;" } : Jvm.MethodName) jdk_32_method_17_code (1 : Nat) (Option.some (Jvm.ClassFile.FieldType.object "java/lang/Object"))).before args0 about1 = true := code_word (m := ⟨24, 8⟩) (meth := k24m8) (c := k24c8) (by decide +kernel) rfl rfl rfl (by decide +kernel)
set_option maxRecDepth 65536 in
theorem w_c48 : (Jvm.Cond.code ({ cls := "com/example/stackloom/stackloom/model/KernelLayout", name := "holds", desc := "(I)Z" } : Jvm.MethodName) prog_26_method_3_code (5 : Nat) (Option.some Jvm.ClassFile.FieldType.boolean)).before args0 about1 = true := code_word (m := ⟨15, 2⟩) (meth := k15m2) (c := k15c2) (by decide +kernel) rfl rfl rfl (by decide +kernel)
set_option maxRecDepth 65536 in
theorem w_c49 : (Jvm.Cond.code ({ cls := "java/util/ImmutableCollections$AbstractImmutableList", name := "iterator", desc := "()Ljava/util/Iterator;" } : Jvm.MethodName) jdk_46_method_10_code (1 : Nat) (Option.some (Jvm.ClassFile.FieldType.object "java/util/Iterator"))).before args0 about1 = true := code_word (m := ⟨18, 1⟩) (meth := k18m1) (c := k18c1) (by decide +kernel) rfl rfl rfl (by decide +kernel)
set_option maxRecDepth 65536 in
theorem w_c50 : (Jvm.Cond.code ({ cls := "java/util/ImmutableCollections$ListN", name := "size", desc := "()I" } : Jvm.MethodName) jdk_45_method_3_code (1 : Nat) (Option.some Jvm.ClassFile.FieldType.int)).before args0 about1 = true := code_word (m := ⟨20, 0⟩) (meth := k20m0) (c := k20c0) (by decide +kernel) rfl rfl rfl (by decide +kernel)
set_option maxRecDepth 65536 in
theorem w_c51 : (Jvm.Cond.code ({ cls := "java/util/ImmutableCollections$ListItr", name := "<init>", desc := "(Ljava/util/List;I)V" } : Jvm.MethodName) jdk_53_method_1_code (3 : Nat) (Option.none : Option Jvm.ClassFile.FieldType)).before args0 about1 = true := code_word (m := ⟨41, 0⟩) (meth := k41m0) (c := k41c0) (by decide +kernel) rfl rfl rfl (by decide +kernel)
set_option maxRecDepth 65536 in
theorem w_c52 : (Jvm.Cond.code ({ cls := "java/util/ImmutableCollections$ListItr", name := "hasNext", desc := "()Z" } : Jvm.MethodName) jdk_53_method_3_code (1 : Nat) (Option.some Jvm.ClassFile.FieldType.boolean)).before args0 about1 = true := code_word (m := ⟨41, 1⟩) (meth := k41m1) (c := k41c1) (by decide +kernel) rfl rfl rfl (by decide +kernel)
set_option maxRecDepth 65536 in
theorem w_c53 : (Jvm.Cond.code ({ cls := "com/example/stackloom/stackloom/service/KernelWatch", name := "executed", desc := "(I)V" } : Jvm.MethodName) prog_35_method_11_code (2 : Nat) (Option.none : Option Jvm.ClassFile.FieldType)).before args0 about1 = true := code_word (m := ⟨25, 3⟩) (meth := k25m3) (c := k25c3) (by decide +kernel) rfl rfl rfl (by decide +kernel)
set_option maxRecDepth 65536 in
theorem w_c54 : (Jvm.Cond.code ({ cls := "com/example/stackloom/stackloom/service/KernelWatch", name := "counts", desc := "()Lcom/example/stackloom/stackloom/service/Core$KernelCounts;" } : Jvm.MethodName) prog_35_method_13_code (1 : Nat) (Option.some (Jvm.ClassFile.FieldType.object "com/example/stackloom/stackloom/service/Core$KernelCounts"))).before args0 about1 = true := code_word (m := ⟨25, 4⟩) (meth := k25m4) (c := k25c4) (by decide +kernel) rfl rfl rfl (by decide +kernel)
set_option maxRecDepth 65536 in
theorem w_c55 : (Jvm.Cond.code ({ cls := "com/example/stackloom/stackloom/service/Core$KernelCounts", name := "<init>", desc := "(JJJJJ)V" } : Jvm.MethodName) prog_33_method_1_code (11 : Nat) (Option.none : Option Jvm.ClassFile.FieldType)).before args0 about1 = true := code_word (m := ⟨42, 0⟩) (meth := k42m0) (c := k42c0) (by decide +kernel) rfl rfl rfl (by decide +kernel)
set_option maxRecDepth 65536 in
theorem w_c56 : (Jvm.Cond.code ({ cls := "com/example/stackloom/stackloom/service/Core$KernelCounts", name := "cycles", desc := "()J" } : Jvm.MethodName) prog_33_method_5_code (1 : Nat) (Option.some Jvm.ClassFile.FieldType.long)).before args0 about1 = true := code_word (m := ⟨42, 1⟩) (meth := k42m1) (c := k42c1) (by decide +kernel) rfl rfl rfl (by decide +kernel)
set_option maxRecDepth 65536 in
theorem w_c57 : (Jvm.Cond.code ({ cls := "com/example/stackloom/stackloom/service/Core$KernelCounts", name := "initCycles", desc := "()J" } : Jvm.MethodName) prog_33_method_6_code (1 : Nat) (Option.some Jvm.ClassFile.FieldType.long)).before args0 about1 = true := code_word (m := ⟨42, 2⟩) (meth := k42m2) (c := k42c2) (by decide +kernel) rfl rfl rfl (by decide +kernel)
set_option maxRecDepth 65536 in
theorem w_c58 : (Jvm.Cond.code ({ cls := "com/example/stackloom/stackloom/service/Core$KernelCounts", name := "dispatches", desc := "()J" } : Jvm.MethodName) prog_33_method_8_code (1 : Nat) (Option.some Jvm.ClassFile.FieldType.long)).before args0 about1 = true := code_word (m := ⟨42, 3⟩) (meth := k42m3) (c := k42c3) (by decide +kernel) rfl rfl rfl (by decide +kernel)
set_option maxRecDepth 65536 in
theorem w_c59 : (Jvm.Cond.code ({ cls := "java/util/Optional", name := "empty", desc := "()Ljava/util/Optional;" } : Jvm.MethodName) jdk_32_method_1_code (1 : Nat) (Option.some (Jvm.ClassFile.FieldType.object "java/util/Optional"))).before args0 about1 = true := code_word (m := ⟨24, 0⟩) (meth := k24m0) (c := k24c0) (by decide +kernel) rfl rfl rfl (by decide +kernel)
set_option maxRecDepth 65536 in
theorem w_c60 : (Jvm.Cond.code ({ cls := "com/example/stackloom/stackloom/service/KernelWatch", name := "stackRestored", desc := "(III)V" } : Jvm.MethodName) prog_35_method_6_code (5 : Nat) (Option.none : Option Jvm.ClassFile.FieldType)).before args0 about1 = true := code_word (m := ⟨25, 1⟩) (meth := k25m1) (c := k25c1) (by decide +kernel) rfl rfl rfl (by decide +kernel)
set_option maxRecDepth 65536 in
theorem w_c61 : (Jvm.Cond.code ({ cls := "java/util/HashMap", name := "get", desc := "(Ljava/lang/Object;)Ljava/lang/Object;" } : Jvm.MethodName) jdk_69_method_12_code (3 : Nat) (Option.some (Jvm.ClassFile.FieldType.object "java/lang/Object"))).before args0 about1 = true := code_word (m := ⟨28, 1⟩) (meth := k28m1) (c := k28c1) (by decide +kernel) rfl rfl rfl (by decide +kernel)
set_option maxRecDepth 65536 in
theorem w_c62 : (Jvm.Cond.code ({ cls := "java/util/HashMap", name := "getNode", desc := "(Ljava/lang/Object;)Ljava/util/HashMap$Node;" } : Jvm.MethodName) jdk_69_method_13_code (8 : Nat) (Option.some (Jvm.ClassFile.FieldType.object "java/util/HashMap$Node"))).before args0 about1 = true := code_word (m := ⟨28, 2⟩) (meth := k28m2) (c := k28c2) (by decide +kernel) rfl rfl rfl (by decide +kernel)
set_option maxRecDepth 65536 in
theorem w_c63 : (Jvm.Cond.code ({ cls := "java/lang/Integer", name := "intValue", desc := "()I" } : Jvm.MethodName) jdk_33_method_27_code (1 : Nat) (Option.some Jvm.ClassFile.FieldType.int)).before args0 about1 = true := code_word (m := ⟨36, 1⟩) (meth := k36m1) (c := k36c1) (by decide +kernel) rfl rfl rfl (by decide +kernel)
set_option maxRecDepth 65536 in
theorem w_c64 : (Jvm.Cond.code ({ cls := "com/example/stackloom/stackloom/service/KernelWatch", name := "lambda$stackRestored$0", desc := "(ILcom/example/stackloom/stackloom/model/KernelLayout;)Ljava/lang/Integer;" } : Jvm.MethodName) prog_35_method_14_code (2 : Nat) (Option.some (Jvm.ClassFile.FieldType.object "java/lang/Integer"))).before args0 about1 = true := code_word (m := ⟨25, 5⟩) (meth := k25m5) (c := k25c5) (by decide +kernel) rfl rfl rfl (by decide +kernel)
set_option maxRecDepth 65536 in
theorem w_c65 : (Jvm.Cond.code ({ cls := "com/example/stackloom/stackloom/model/KernelLayout", name := "taskOwning", desc := "(I)I" } : Jvm.MethodName) prog_26_method_6_code (4 : Nat) (Option.some Jvm.ClassFile.FieldType.int)).before args0 about1 = true := code_word (m := ⟨15, 4⟩) (meth := k15m4) (c := k15c4) (by decide +kernel) rfl rfl rfl (by decide +kernel)
set_option maxRecDepth 65536 in
theorem w_c66 : (Jvm.Cond.code ({ cls := "java/util/ImmutableCollections$List12", name := "size", desc := "()I" } : Jvm.MethodName) jdk_44_method_3_code (1 : Nat) (Option.some Jvm.ClassFile.FieldType.int)).before args0 about1 = true := code_word (m := ⟨19, 1⟩) (meth := k19m1) (c := k19c1) (by decide +kernel) rfl rfl rfl (by decide +kernel)
set_option maxRecDepth 65536 in
theorem w_c67 : (Jvm.Cond.code ({ cls := "java/util/ImmutableCollections$List12", name := "get", desc := "(I)Ljava/lang/Object;" } : Jvm.MethodName) jdk_44_method_5_code (2 : Nat) (Option.some (Jvm.ClassFile.FieldType.object "java/lang/Object"))).before args0 about1 = true := code_word (m := ⟨19, 2⟩) (meth := k19m2) (c := k19c2) (by decide +kernel) rfl rfl rfl (by decide +kernel)
set_option maxRecDepth 65536 in
theorem w_c68 : (Jvm.Cond.code ({ cls := "com/example/stackloom/stackloom/model/KernelLayout$Task", name := "spans", desc := "(I)Z" } : Jvm.MethodName) prog_27_method_3_code (2 : Nat) (Option.some Jvm.ClassFile.FieldType.boolean)).before args0 about1 = true := code_word (m := ⟨13, 2⟩) (meth := k13m2) (c := k13c2) (by decide +kernel) rfl rfl rfl (by decide +kernel)
set_option maxRecDepth 65536 in
theorem w_c69 : (Jvm.Cond.code ({ cls := "com/example/stackloom/stackloom/model/KernelLayout$Task", name := "top", desc := "()I" } : Jvm.MethodName) prog_27_method_2_code (1 : Nat) (Option.some Jvm.ClassFile.FieldType.int)).before args0 about1 = true := code_word (m := ⟨13, 1⟩) (meth := k13m1) (c := k13c1) (by decide +kernel) rfl rfl rfl (by decide +kernel)
def codes1 : List Jvm.Cond := [Jvm.Cond.code x code maxLocals ret, Jvm.Cond.code ({ cls := "java/util/ArrayList", name := "<init>", desc := "()V" } : Jvm.MethodName) jdk_38_method_2_code (1 : Nat) (Option.none : Option Jvm.ClassFile.FieldType), Jvm.Cond.code ({ cls := "java/util/AbstractList", name := "<init>", desc := "()V" } : Jvm.MethodName) jdk_39_method_1_code (1 : Nat) (Option.none : Option Jvm.ClassFile.FieldType), Jvm.Cond.code ({ cls := "java/util/AbstractCollection", name := "<init>", desc := "()V" } : Jvm.MethodName) jdk_22_method_1_code (1 : Nat) (Option.none : Option Jvm.ClassFile.FieldType), Jvm.Cond.code ({ cls := "java/lang/Object", name := "<init>", desc := "()V" } : Jvm.MethodName) object_method_1_code (1 : Nat) (Option.none : Option Jvm.ClassFile.FieldType), Jvm.Cond.code ({ cls := "com/example/stackloom/stackloom/model/KernelLayout$Task", name := "<init>", desc := "(III)V" } : Jvm.MethodName) prog_27_method_1_code (4 : Nat) (Option.none : Option Jvm.ClassFile.FieldType), Jvm.Cond.code ({ cls := "java/lang/Record", name := "<init>", desc := "()V" } : Jvm.MethodName) jdk_30_method_1_code (1 : Nat) (Option.none : Option Jvm.ClassFile.FieldType), Jvm.Cond.code ({ cls := "java/util/ArrayList", name := "add", desc := "(Ljava/lang/Object;)Z" } : Jvm.MethodName) jdk_38_method_25_code (2 : Nat) (Option.some Jvm.ClassFile.FieldType.boolean), Jvm.Cond.code ({ cls := "java/util/ArrayList", name := "add", desc := "(Ljava/lang/Object;[Ljava/lang/Object;I)V" } : Jvm.MethodName) jdk_38_method_24_code (4 : Nat) (Option.none : Option Jvm.ClassFile.FieldType), Jvm.Cond.code ({ cls := "java/util/ArrayList", name := "grow", desc := "()[Ljava/lang/Object;" } : Jvm.MethodName) jdk_38_method_7_code (1 : Nat) (Option.some (Jvm.ClassFile.FieldType.array (Jvm.ClassFile.FieldType.object "java/lang/Object"))), Jvm.Cond.code ({ cls := "java/util/ArrayList", name := "grow", desc := "(I)[Ljava/lang/Object;" } : Jvm.MethodName) jdk_38_method_6_code (4 : Nat) (Option.some (Jvm.ClassFile.FieldType.array (Jvm.ClassFile.FieldType.object "java/lang/Object"))), Jvm.Cond.code ({ cls := "java/lang/Math", name := "max", desc := "(II)I" } : Jvm.MethodName) jdk_29_method_65_code (2 : Nat) (Option.some Jvm.ClassFile.FieldType.int), Jvm.Cond.code ({ cls := "com/example/stackloom/stackloom/model/KernelLayout", name := "<init>", desc := "(IIILjava/util/List;)V" } : Jvm.MethodName) prog_26_method_2_code (5 : Nat) (Option.none : Option Jvm.ClassFile.FieldType), Jvm.Cond.code ({ cls := "java/util/List", name := "of", desc := "()Ljava/util/List;" } : Jvm.MethodName) jdk_40_method_36_code (0 : Nat) (Option.some (Jvm.ClassFile.FieldType.object "java/util/List")), Jvm.Cond.code ({ cls := "com/example/stackloom/stackloom/model/KernelLayout", name := "<init>", desc := "(IILjava/util/List;IILjava/util/List;)V" } : Jvm.MethodName) prog_26_method_1_code (7 : Nat) (Option.none : Option Jvm.ClassFile.FieldType), Jvm.Cond.code ({ cls := "java/util/List", name := "copyOf", desc := "(Ljava/util/Collection;)Ljava/util/List;" } : Jvm.MethodName) jdk_40_method_48_code (1 : Nat) (Option.some (Jvm.ClassFile.FieldType.object "java/util/List")), Jvm.Cond.code ({ cls := "java/util/ImmutableCollections", name := "listCopy", desc := "(Ljava/util/Collection;)Ljava/util/List;" } : Jvm.MethodName) jdk_56_method_3_code (2 : Nat) (Option.some (Jvm.ClassFile.FieldType.object "java/util/List")), Jvm.Cond.code ({ cls := "java/util/ArrayList", name := "isEmpty", desc := "()Z" } : Jvm.MethodName) jdk_38_method_9_code (1 : Nat) (Option.some Jvm.ClassFile.FieldType.boolean), Jvm.Cond.code ({ cls := "java/util/ArrayList", name := "toArray", desc := "()[Ljava/lang/Object;" } : Jvm.MethodName) jdk_38_method_16_code (1 : Nat) (Option.some (Jvm.ClassFile.FieldType.array (Jvm.ClassFile.FieldType.object "java/lang/Object"))), Jvm.Cond.code ({ cls := "java/util/Arrays", name := "copyOf", desc := "([Ljava/lang/Object;I)[Ljava/lang/Object;" } : Jvm.MethodName) jdk_65_method_119_code (2 : Nat) (Option.some (Jvm.ClassFile.FieldType.array (Jvm.ClassFile.FieldType.object "java/lang/Object"))), Jvm.Cond.code ({ cls := "java/util/Arrays", name := "copyOf", desc := "([Ljava/lang/Object;ILjava/lang/Class;)[Ljava/lang/Object;" } : Jvm.MethodName) jdk_65_method_120_code (4 : Nat) (Option.some (Jvm.ClassFile.FieldType.array (Jvm.ClassFile.FieldType.object "java/lang/Object"))), Jvm.Cond.code ({ cls := "java/lang/Math", name := "min", desc := "(II)I" } : Jvm.MethodName) jdk_29_method_69_code (2 : Nat) (Option.some Jvm.ClassFile.FieldType.int), Jvm.Cond.code ({ cls := "java/util/List", name := "of", desc := "([Ljava/lang/Object;)Ljava/util/List;" } : Jvm.MethodName) jdk_40_method_47_code (2 : Nat) (Option.some (Jvm.ClassFile.FieldType.object "java/util/List")), Jvm.Cond.code ({ cls := "java/util/ImmutableCollections$List12", name := "<init>", desc := "(Ljava/lang/Object;)V" } : Jvm.MethodName) jdk_44_method_1_code (2 : Nat) (Option.none : Option Jvm.ClassFile.FieldType), Jvm.Cond.code ({ cls := "java/util/ImmutableCollections$AbstractImmutableList", name := "<init>", desc := "()V" } : Jvm.MethodName) jdk_46_method_1_code (1 : Nat) (Option.none : Option Jvm.ClassFile.FieldType), Jvm.Cond.code ({ cls := "java/util/ImmutableCollections$AbstractImmutableCollection", name := "<init>", desc := "()V" } : Jvm.MethodName) jdk_47_method_1_code (1 : Nat) (Option.none : Option Jvm.ClassFile.FieldType), Jvm.Cond.code ({ cls := "java/util/Objects", name := "requireNonNull", desc := "(Ljava/lang/Object;)Ljava/lang/Object;" } : Jvm.MethodName) jdk_31_method_10_code (1 : Nat) (Option.some (Jvm.ClassFile.FieldType.object "java/lang/Object")), Jvm.Cond.code ({ cls := "java/util/Optional", name := "of", desc := "(Ljava/lang/Object;)Ljava/util/Optional;" } : Jvm.MethodName) jdk_32_method_3_code (1 : Nat) (Option.some (Jvm.ClassFile.FieldType.object "java/util/Optional")), Jvm.Cond.code ({ cls := "java/util/Optional", name := "<init>", desc := "(Ljava/lang/Object;)V" } : Jvm.MethodName) jdk_32_method_2_code (2 : Nat) (Option.none : Option Jvm.ClassFile.FieldType), Jvm.Cond.code ({ cls := "com/example/stackloom/stackloom/service/KernelWatch", name := "<init>", desc := "(Ljava/util/Optional;)V" } : Jvm.MethodName) prog_35_method_1_code (2 : Nat) (Option.none : Option Jvm.ClassFile.FieldType), Jvm.Cond.code ({ cls := "java/util/HashMap", name := "<init>", desc := "()V" } : Jvm.MethodName) jdk_69_method_7_code (1 : Nat) (Option.none : Option Jvm.ClassFile.FieldType), Jvm.Cond.code ({ cls := "java/util/AbstractMap", name := "<init>", desc := "()V" } : Jvm.MethodName) jdk_71_method_1_code (1 : Nat) (Option.none : Option Jvm.ClassFile.FieldType), Jvm.Cond.code ({ cls := "java/util/BitSet", name := "<init>", desc := "()V" } : Jvm.MethodName) jdk_92_method_4_code (1 : Nat) (Option.none : Option Jvm.ClassFile.FieldType), Jvm.Cond.code ({ cls := "java/util/BitSet", name := "initWords", desc := "(I)V" } : Jvm.MethodName) jdk_92_method_6_code (2 : Nat) (Option.none : Option Jvm.ClassFile.FieldType), Jvm.Cond.code ({ cls := "java/util/BitSet", name := "wordIndex", desc := "(I)I" } : Jvm.MethodName) jdk_92_method_1_code (1 : Nat) (Option.some Jvm.ClassFile.FieldType.int), Jvm.Cond.code ({ cls := "java/util/Optional", name := "map", desc := "(Ljava/util/function/Function;)Ljava/util/Optional;" } : Jvm.MethodName) jdk_32_method_11_code (2 : Nat) (Option.some (Jvm.ClassFile.FieldType.object "java/util/Optional")), Jvm.Cond.code ({ cls := "java/util/Optional", name := "isEmpty", desc := "()Z" } : Jvm.MethodName) jdk_32_method_7_code (1 : Nat) (Option.some Jvm.ClassFile.FieldType.boolean), Jvm.Cond.code ({ cls := "com/example/stackloom/stackloom/model/KernelLayout", name := "keepsTimer0", desc := "()Z" } : Jvm.MethodName) prog_26_method_4_code (1 : Nat) (Option.some Jvm.ClassFile.FieldType.boolean), Jvm.Cond.code ({ cls := "java/lang/Integer", name := "valueOf", desc := "(I)Ljava/lang/Integer;" } : Jvm.MethodName) jdk_33_method_22_code (1 : Nat) (Option.some (Jvm.ClassFile.FieldType.object "java/lang/Integer")), Jvm.Cond.code ({ cls := "java/util/ImmutableCollections$AbstractImmutableList", name := "contains", desc := "(Ljava/lang/Object;)Z" } : Jvm.MethodName) jdk_46_method_15_code (2 : Nat) (Option.some Jvm.ClassFile.FieldType.boolean), Jvm.Cond.code ({ cls := "java/util/ImmutableCollections$ListN", name := "indexOf", desc := "(Ljava/lang/Object;)I" } : Jvm.MethodName) jdk_45_method_9_code (4 : Nat) (Option.some Jvm.ClassFile.FieldType.int), Jvm.Cond.code ({ cls := "java/lang/Boolean", name := "valueOf", desc := "(Z)Ljava/lang/Boolean;" } : Jvm.MethodName) jdk_2055_method_5_code (1 : Nat) (Option.some (Jvm.ClassFile.FieldType.object "java/lang/Boolean")), Jvm.Cond.code ({ cls := "java/util/Optional", name := "ofNullable", desc := "(Ljava/lang/Object;)Ljava/util/Optional;" } : Jvm.MethodName) jdk_32_method_4_code (1 : Nat) (Option.some (Jvm.ClassFile.FieldType.object "java/util/Optional")), Jvm.Cond.code ({ cls := "java/util/Optional", name := "orElse", desc := "(Ljava/lang/Object;)Ljava/lang/Object;" } : Jvm.MethodName) jdk_32_method_15_code (2 : Nat) (Option.some (Jvm.ClassFile.FieldType.object "java/lang/Object")), Jvm.Cond.code ({ cls := "java/lang/Boolean", name := "booleanValue", desc := "()Z" } : Jvm.MethodName) jdk_2055_method_4_code (1 : Nat) (Option.some Jvm.ClassFile.FieldType.boolean), Jvm.Cond.code ({ cls := "com/example/stackloom/stackloom/service/KernelWatch", name := "starting", desc := "(I)V" } : Jvm.MethodName) prog_35_method_10_code (3 : Nat) (Option.none : Option Jvm.ClassFile.FieldType), Jvm.Cond.code ({ cls := "java/util/Optional", name := "isPresent", desc := "()Z" } : Jvm.MethodName) jdk_32_method_6_code (1 : Nat) (Option.some Jvm.ClassFile.FieldType.boolean), Jvm.Cond.code ({ cls := "java/util/Optional", name := "orElseThrow", desc := "()Ljava/lang/Object;" } : Jvm.MethodName) jdk_32_method_17_code (1 : Nat) (Option.some (Jvm.ClassFile.FieldType.object "java/lang/Object")), Jvm.Cond.code ({ cls := "com/example/stackloom/stackloom/model/KernelLayout", name := "holds", desc := "(I)Z" } : Jvm.MethodName) prog_26_method_3_code (5 : Nat) (Option.some Jvm.ClassFile.FieldType.boolean), Jvm.Cond.code ({ cls := "java/util/ImmutableCollections$AbstractImmutableList", name := "iterator", desc := "()Ljava/util/Iterator;" } : Jvm.MethodName) jdk_46_method_10_code (1 : Nat) (Option.some (Jvm.ClassFile.FieldType.object "java/util/Iterator")), Jvm.Cond.code ({ cls := "java/util/ImmutableCollections$ListN", name := "size", desc := "()I" } : Jvm.MethodName) jdk_45_method_3_code (1 : Nat) (Option.some Jvm.ClassFile.FieldType.int), Jvm.Cond.code ({ cls := "java/util/ImmutableCollections$ListItr", name := "<init>", desc := "(Ljava/util/List;I)V" } : Jvm.MethodName) jdk_53_method_1_code (3 : Nat) (Option.none : Option Jvm.ClassFile.FieldType), Jvm.Cond.code ({ cls := "java/util/ImmutableCollections$ListItr", name := "hasNext", desc := "()Z" } : Jvm.MethodName) jdk_53_method_3_code (1 : Nat) (Option.some Jvm.ClassFile.FieldType.boolean), Jvm.Cond.code ({ cls := "com/example/stackloom/stackloom/service/KernelWatch", name := "executed", desc := "(I)V" } : Jvm.MethodName) prog_35_method_11_code (2 : Nat) (Option.none : Option Jvm.ClassFile.FieldType), Jvm.Cond.code ({ cls := "com/example/stackloom/stackloom/service/KernelWatch", name := "counts", desc := "()Lcom/example/stackloom/stackloom/service/Core$KernelCounts;" } : Jvm.MethodName) prog_35_method_13_code (1 : Nat) (Option.some (Jvm.ClassFile.FieldType.object "com/example/stackloom/stackloom/service/Core$KernelCounts")), Jvm.Cond.code ({ cls := "com/example/stackloom/stackloom/service/Core$KernelCounts", name := "<init>", desc := "(JJJJJ)V" } : Jvm.MethodName) prog_33_method_1_code (11 : Nat) (Option.none : Option Jvm.ClassFile.FieldType), Jvm.Cond.code ({ cls := "com/example/stackloom/stackloom/service/Core$KernelCounts", name := "cycles", desc := "()J" } : Jvm.MethodName) prog_33_method_5_code (1 : Nat) (Option.some Jvm.ClassFile.FieldType.long), Jvm.Cond.code ({ cls := "com/example/stackloom/stackloom/service/Core$KernelCounts", name := "initCycles", desc := "()J" } : Jvm.MethodName) prog_33_method_6_code (1 : Nat) (Option.some Jvm.ClassFile.FieldType.long), Jvm.Cond.code ({ cls := "com/example/stackloom/stackloom/service/Core$KernelCounts", name := "dispatches", desc := "()J" } : Jvm.MethodName) prog_33_method_8_code (1 : Nat) (Option.some Jvm.ClassFile.FieldType.long), Jvm.Cond.code ({ cls := "java/util/Optional", name := "empty", desc := "()Ljava/util/Optional;" } : Jvm.MethodName) jdk_32_method_1_code (1 : Nat) (Option.some (Jvm.ClassFile.FieldType.object "java/util/Optional")), Jvm.Cond.code ({ cls := "com/example/stackloom/stackloom/service/KernelWatch", name := "stackRestored", desc := "(III)V" } : Jvm.MethodName) prog_35_method_6_code (5 : Nat) (Option.none : Option Jvm.ClassFile.FieldType), Jvm.Cond.code ({ cls := "java/util/HashMap", name := "get", desc := "(Ljava/lang/Object;)Ljava/lang/Object;" } : Jvm.MethodName) jdk_69_method_12_code (3 : Nat) (Option.some (Jvm.ClassFile.FieldType.object "java/lang/Object")), Jvm.Cond.code ({ cls := "java/util/HashMap", name := "getNode", desc := "(Ljava/lang/Object;)Ljava/util/HashMap$Node;" } : Jvm.MethodName) jdk_69_method_13_code (8 : Nat) (Option.some (Jvm.ClassFile.FieldType.object "java/util/HashMap$Node")), Jvm.Cond.code ({ cls := "java/lang/Integer", name := "intValue", desc := "()I" } : Jvm.MethodName) jdk_33_method_27_code (1 : Nat) (Option.some Jvm.ClassFile.FieldType.int), Jvm.Cond.code ({ cls := "com/example/stackloom/stackloom/service/KernelWatch", name := "lambda$stackRestored$0", desc := "(ILcom/example/stackloom/stackloom/model/KernelLayout;)Ljava/lang/Integer;" } : Jvm.MethodName) prog_35_method_14_code (2 : Nat) (Option.some (Jvm.ClassFile.FieldType.object "java/lang/Integer")), Jvm.Cond.code ({ cls := "com/example/stackloom/stackloom/model/KernelLayout", name := "taskOwning", desc := "(I)I" } : Jvm.MethodName) prog_26_method_6_code (4 : Nat) (Option.some Jvm.ClassFile.FieldType.int), Jvm.Cond.code ({ cls := "java/util/ImmutableCollections$List12", name := "size", desc := "()I" } : Jvm.MethodName) jdk_44_method_3_code (1 : Nat) (Option.some Jvm.ClassFile.FieldType.int), Jvm.Cond.code ({ cls := "java/util/ImmutableCollections$List12", name := "get", desc := "(I)Ljava/lang/Object;" } : Jvm.MethodName) jdk_44_method_5_code (2 : Nat) (Option.some (Jvm.ClassFile.FieldType.object "java/lang/Object")), Jvm.Cond.code ({ cls := "com/example/stackloom/stackloom/model/KernelLayout$Task", name := "spans", desc := "(I)Z" } : Jvm.MethodName) prog_27_method_3_code (2 : Nat) (Option.some Jvm.ClassFile.FieldType.boolean), Jvm.Cond.code ({ cls := "com/example/stackloom/stackloom/model/KernelLayout$Task", name := "top", desc := "()I" } : Jvm.MethodName) prog_27_method_2_code (1 : Nat) (Option.some Jvm.ClassFile.FieldType.int)]
set_option maxRecDepth 65536 in
theorem codes_eq : words1.filter isCode = codes1 := rfl
theorem w_codes : ∀ c ∈ words1.filter isCode, c.before args0 about1 = true := by
  rw [codes_eq]
  intro c hc
  simp only [codes1, List.mem_cons, List.not_mem_nil, or_false] at hc
  rcases hc with rfl | rfl | rfl | rfl | rfl | rfl | rfl | rfl | rfl | rfl | rfl | rfl | rfl | rfl | rfl | rfl | rfl | rfl | rfl | rfl | rfl | rfl | rfl | rfl | rfl | rfl | rfl | rfl | rfl | rfl | rfl | rfl | rfl | rfl | rfl | rfl | rfl | rfl | rfl | rfl | rfl | rfl | rfl | rfl | rfl | rfl | rfl | rfl | rfl | rfl | rfl | rfl | rfl | rfl | rfl | rfl | rfl | rfl | rfl | rfl | rfl | rfl | rfl | rfl | rfl | rfl | rfl | rfl | rfl | rfl
  · exact w_c0
  · exact w_c1
  · exact w_c2
  · exact w_c3
  · exact w_c4
  · exact w_c5
  · exact w_c6
  · exact w_c7
  · exact w_c8
  · exact w_c9
  · exact w_c10
  · exact w_c11
  · exact w_c12
  · exact w_c13
  · exact w_c14
  · exact w_c15
  · exact w_c16
  · exact w_c17
  · exact w_c18
  · exact w_c19
  · exact w_c20
  · exact w_c21
  · exact w_c22
  · exact w_c23
  · exact w_c24
  · exact w_c25
  · exact w_c26
  · exact w_c27
  · exact w_c28
  · exact w_c29
  · exact w_c30
  · exact w_c31
  · exact w_c32
  · exact w_c33
  · exact w_c34
  · exact w_c35
  · exact w_c36
  · exact w_c37
  · exact w_c38
  · exact w_c39
  · exact w_c40
  · exact w_c41
  · exact w_c42
  · exact w_c43
  · exact w_c44
  · exact w_c45
  · exact w_c46
  · exact w_c47
  · exact w_c48
  · exact w_c49
  · exact w_c50
  · exact w_c51
  · exact w_c52
  · exact w_c53
  · exact w_c54
  · exact w_c55
  · exact w_c56
  · exact w_c57
  · exact w_c58
  · exact w_c59
  · exact w_c60
  · exact w_c61
  · exact w_c62
  · exact w_c63
  · exact w_c64
  · exact w_c65
  · exact w_c66
  · exact w_c67
  · exact w_c68
  · exact w_c69
set_option maxRecDepth 65536 in
theorem w_t1 : (words1.take 24).all (fun c => isCode c || c.before args0 about1) = true := by decide +kernel
set_option maxRecDepth 65536 in
theorem w_t2 : ((words1.drop 24).take 24).all (fun c => isCode c || c.before args0 about1) = true := by decide +kernel
set_option maxRecDepth 65536 in
theorem w_t3 : (((words1.drop 24).drop 24).take 24).all (fun c => isCode c || c.before args0 about1) = true := by decide +kernel
set_option maxRecDepth 65536 in
theorem w_t4 : ((((words1.drop 24).drop 24).drop 24).take 24).all (fun c => isCode c || c.before args0 about1) = true := by decide +kernel
set_option maxRecDepth 65536 in
theorem w_t5 : (((((words1.drop 24).drop 24).drop 24).drop 24).take 24).all (fun c => isCode c || c.before args0 about1) = true := by decide +kernel
set_option maxRecDepth 65536 in
theorem w_t6 : ((((((words1.drop 24).drop 24).drop 24).drop 24).drop 24).take 24).all (fun c => isCode c || c.before args0 about1) = true := by decide +kernel
set_option maxRecDepth 65536 in
theorem w_t7 : (((((((words1.drop 24).drop 24).drop 24).drop 24).drop 24).drop 24).take 24).all (fun c => isCode c || c.before args0 about1) = true := by decide +kernel
set_option maxRecDepth 65536 in
theorem w_t8 : ((((((((words1.drop 24).drop 24).drop 24).drop 24).drop 24).drop 24).drop 24).take 24).all (fun c => isCode c || c.before args0 about1) = true := by decide +kernel
set_option maxRecDepth 65536 in
theorem w_t9 : (((((((((words1.drop 24).drop 24).drop 24).drop 24).drop 24).drop 24).drop 24).drop 24).take 24).all (fun c => isCode c || c.before args0 about1) = true := by decide +kernel
set_option maxRecDepth 65536 in
theorem w_t10 : ((((((((((words1.drop 24).drop 24).drop 24).drop 24).drop 24).drop 24).drop 24).drop 24).drop 24).take 24).all (fun c => isCode c || c.before args0 about1) = true := by decide +kernel
set_option maxRecDepth 65536 in
theorem w_t11 : (((((((((((words1.drop 24).drop 24).drop 24).drop 24).drop 24).drop 24).drop 24).drop 24).drop 24).drop 24).take 24).all (fun c => isCode c || c.before args0 about1) = true := by decide +kernel
set_option maxRecDepth 65536 in
theorem w_t12 : ((((((((((((words1.drop 24).drop 24).drop 24).drop 24).drop 24).drop 24).drop 24).drop 24).drop 24).drop 24).drop 24).take 24).all (fun c => isCode c || c.before args0 about1) = true := by decide +kernel
set_option maxRecDepth 65536 in
theorem w_t13 : (((((((((((((words1.drop 24).drop 24).drop 24).drop 24).drop 24).drop 24).drop 24).drop 24).drop 24).drop 24).drop 24).drop 24).take 24).all (fun c => isCode c || c.before args0 about1) = true := by decide +kernel
set_option maxRecDepth 65536 in
theorem w_t14 : ((((((((((((((words1.drop 24).drop 24).drop 24).drop 24).drop 24).drop 24).drop 24).drop 24).drop 24).drop 24).drop 24).drop 24).drop 24).take 24).all (fun c => isCode c || c.before args0 about1) = true := by decide +kernel
set_option maxRecDepth 65536 in
theorem w_t15 : (((((((((((((((words1.drop 24).drop 24).drop 24).drop 24).drop 24).drop 24).drop 24).drop 24).drop 24).drop 24).drop 24).drop 24).drop 24).drop 24).take 24).all (fun c => isCode c || c.before args0 about1) = true := by decide +kernel
set_option maxRecDepth 65536 in
theorem w_t16 : ((((((((((((((((words1.drop 24).drop 24).drop 24).drop 24).drop 24).drop 24).drop 24).drop 24).drop 24).drop 24).drop 24).drop 24).drop 24).drop 24).drop 24).take 24).all (fun c => isCode c || c.before args0 about1) = true := by decide +kernel
set_option maxRecDepth 65536 in
theorem w_t17 : (((((((((((((((((words1.drop 24).drop 24).drop 24).drop 24).drop 24).drop 24).drop 24).drop 24).drop 24).drop 24).drop 24).drop 24).drop 24).drop 24).drop 24).drop 24).take 24).all (fun c => isCode c || c.before args0 about1) = true := by decide +kernel
set_option maxRecDepth 65536 in
theorem w_t18 : ((((((((((((((((((words1.drop 24).drop 24).drop 24).drop 24).drop 24).drop 24).drop 24).drop 24).drop 24).drop 24).drop 24).drop 24).drop 24).drop 24).drop 24).drop 24).drop 24).take 24).all (fun c => isCode c || c.before args0 about1) = true := by decide +kernel
set_option maxRecDepth 65536 in
theorem w_t19 : (((((((((((((((((((words1.drop 24).drop 24).drop 24).drop 24).drop 24).drop 24).drop 24).drop 24).drop 24).drop 24).drop 24).drop 24).drop 24).drop 24).drop 24).drop 24).drop 24).drop 24).take 24).all (fun c => isCode c || c.before args0 about1) = true := by decide +kernel
set_option maxRecDepth 65536 in
theorem w_t20 : ((((((((((((((((((((words1.drop 24).drop 24).drop 24).drop 24).drop 24).drop 24).drop 24).drop 24).drop 24).drop 24).drop 24).drop 24).drop 24).drop 24).drop 24).drop 24).drop 24).drop 24).drop 24).take 24).all (fun c => isCode c || c.before args0 about1) = true := by decide +kernel
set_option maxRecDepth 65536 in
theorem w_t21 : (((((((((((((((((((((words1.drop 24).drop 24).drop 24).drop 24).drop 24).drop 24).drop 24).drop 24).drop 24).drop 24).drop 24).drop 24).drop 24).drop 24).drop 24).drop 24).drop 24).drop 24).drop 24).drop 24).take 24).all (fun c => isCode c || c.before args0 about1) = true := by decide +kernel
set_option maxRecDepth 65536 in
theorem w_t22 : (((((((((((((((((((((words1.drop 24).drop 24).drop 24).drop 24).drop 24).drop 24).drop 24).drop 24).drop 24).drop 24).drop 24).drop 24).drop 24).drop 24).drop 24).drop 24).drop 24).drop 24).drop 24).drop 24).drop 24).all (fun c => isCode c || c.before args0 about1) = true := by decide +kernel
theorem w_tables : (allAtoms (Jvm.Cond.code x code maxLocals ret :: tables_1)).before args0 about1 = true := by
  rw [allAtoms_all]
  show words1.all (fun c => c.before args0 about1) = true
  refine all_split ?_ w_codes
  rw [← List.take_append_drop 24 words1, List.all_append, w_t1, ← List.take_append_drop 24 (words1.drop 24), List.all_append, w_t2, ← List.take_append_drop 24 ((words1.drop 24).drop 24), List.all_append, w_t3, ← List.take_append_drop 24 (((words1.drop 24).drop 24).drop 24), List.all_append, w_t4, ← List.take_append_drop 24 ((((words1.drop 24).drop 24).drop 24).drop 24), List.all_append, w_t5, ← List.take_append_drop 24 (((((words1.drop 24).drop 24).drop 24).drop 24).drop 24), List.all_append, w_t6, ← List.take_append_drop 24 ((((((words1.drop 24).drop 24).drop 24).drop 24).drop 24).drop 24), List.all_append, w_t7, ← List.take_append_drop 24 (((((((words1.drop 24).drop 24).drop 24).drop 24).drop 24).drop 24).drop 24), List.all_append, w_t8, ← List.take_append_drop 24 ((((((((words1.drop 24).drop 24).drop 24).drop 24).drop 24).drop 24).drop 24).drop 24), List.all_append, w_t9, ← List.take_append_drop 24 (((((((((words1.drop 24).drop 24).drop 24).drop 24).drop 24).drop 24).drop 24).drop 24).drop 24), List.all_append, w_t10, ← List.take_append_drop 24 ((((((((((words1.drop 24).drop 24).drop 24).drop 24).drop 24).drop 24).drop 24).drop 24).drop 24).drop 24), List.all_append, w_t11, ← List.take_append_drop 24 (((((((((((words1.drop 24).drop 24).drop 24).drop 24).drop 24).drop 24).drop 24).drop 24).drop 24).drop 24).drop 24), List.all_append, w_t12, ← List.take_append_drop 24 ((((((((((((words1.drop 24).drop 24).drop 24).drop 24).drop 24).drop 24).drop 24).drop 24).drop 24).drop 24).drop 24).drop 24), List.all_append, w_t13, ← List.take_append_drop 24 (((((((((((((words1.drop 24).drop 24).drop 24).drop 24).drop 24).drop 24).drop 24).drop 24).drop 24).drop 24).drop 24).drop 24).drop 24), List.all_append, w_t14, ← List.take_append_drop 24 ((((((((((((((words1.drop 24).drop 24).drop 24).drop 24).drop 24).drop 24).drop 24).drop 24).drop 24).drop 24).drop 24).drop 24).drop 24).drop 24), List.all_append, w_t15, ← List.take_append_drop 24 (((((((((((((((words1.drop 24).drop 24).drop 24).drop 24).drop 24).drop 24).drop 24).drop 24).drop 24).drop 24).drop 24).drop 24).drop 24).drop 24).drop 24), List.all_append, w_t16, ← List.take_append_drop 24 ((((((((((((((((words1.drop 24).drop 24).drop 24).drop 24).drop 24).drop 24).drop 24).drop 24).drop 24).drop 24).drop 24).drop 24).drop 24).drop 24).drop 24).drop 24), List.all_append, w_t17, ← List.take_append_drop 24 (((((((((((((((((words1.drop 24).drop 24).drop 24).drop 24).drop 24).drop 24).drop 24).drop 24).drop 24).drop 24).drop 24).drop 24).drop 24).drop 24).drop 24).drop 24).drop 24), List.all_append, w_t18, ← List.take_append_drop 24 ((((((((((((((((((words1.drop 24).drop 24).drop 24).drop 24).drop 24).drop 24).drop 24).drop 24).drop 24).drop 24).drop 24).drop 24).drop 24).drop 24).drop 24).drop 24).drop 24).drop 24), List.all_append, w_t19, ← List.take_append_drop 24 (((((((((((((((((((words1.drop 24).drop 24).drop 24).drop 24).drop 24).drop 24).drop 24).drop 24).drop 24).drop 24).drop 24).drop 24).drop 24).drop 24).drop 24).drop 24).drop 24).drop 24).drop 24), List.all_append, w_t20, ← List.take_append_drop 24 ((((((((((((((((((((words1.drop 24).drop 24).drop 24).drop 24).drop 24).drop 24).drop 24).drop 24).drop 24).drop 24).drop 24).drop 24).drop 24).drop 24).drop 24).drop 24).drop 24).drop 24).drop 24).drop 24), List.all_append, w_t21, w_t22]
  rfl
set_option maxRecDepth 65536 in
theorem w_rest : rest_1_c.before args0 about1 = true := by decide +kernel
set_option maxRecDepth 65536 in
theorem w_case : (Jvm.Cond.and given_1 narrow_1).before args0 about1 = true := by decide +kernel
theorem w_applies : (headSpec (Jvm.Cond.code x code maxLocals ret :: tables_1) room_1).applies x e0.platform about1 = true :=
  (Spec.applies_iff w_frames).mpr ⟨w_running, w_runnable, w_alone, w_named, w_hears, w_ripe, w_room, w_tables⟩
set_option maxRecDepth 65536 in
theorem atStart : AtStart classFile x code maxLocals ret World_1 tables_1 room_1 Calls_1 rest_1 Pre_1 launch0 p0 e0 about1 theMethod args0 below0 :=
  ⟨lists_1, trivial, launch0.admits_env _ _ _, launch0.least_env, fairChoices_fair.cas, fairChoices_fair.clock, w_frames, w_args, w_heap, w_applies, ⟨⟨51, k51, 6, by decide +kernel, rfl, rfl, _, rfl, rfl⟩, trivial⟩, w_rest, w_case⟩
end start1
theorem witness_1 : WitnessClaimed_1 := ⟨start1.p0, start1.e0, start1.about1, start1.theMethod, start1.args0, start1.below0, start1.atStart⟩
end Jvm.Pilot.@@N@@
