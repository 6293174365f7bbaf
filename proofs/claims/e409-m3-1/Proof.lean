import JvmDerived
import JvmDerived.Pilot.@@N@@Statement
import JvmDerived.Pilot.@@N@@Code
set_option linter.unusedVariables false
set_option linter.unusedSimpArgs false
namespace Jvm.OwnKit
open Sem ClassFile Op Lib Jvm.Stand Jvm.Free Jvm.LawKit Jvm.RoadKit
/-- what stays the same through one method's walk: program, environment, start, method, arguments, frames below, the method's entry and code, the state with which the walk began -/
abbrev Cx := Program × Env × State × MethodId × Array Value × List Frame × Method × Code × State
/-- where a walk stands: heap h, what was written lies at n0 or above, so many new cells and slots, pc, locals, stack -/
def Wk (κ : Cx) (l : Launch) (Z : State) (own nm : String) (code : ByteArray) (ml : Nat) (ret : Option FieldType) (R : Room) (n0 : Nat) (h : Heap) (cells slots pc : Nat) (Ls : Array Slot) (St : List Value) : Prop :=
  match κ with
  | (p, e, s, m, args, below, meth, c, S0) =>
    (p.tables.exec = Jvm.exec ∧ c.code = code ∧ c.maxLocals = ml ∧ meth.sig.returnType = ret ∧ meth.locks = false ∧ meth.name = nm ∧ Z.Warmed39 s.vm ∧ s.vm.findClass own = some m.cls) ∧
    ∃ T locs, Stand p l e R s m args below meth c T locs cells slots ∧ Fr n0 locs ∧ T.heap = h ∧ ∀ t, Steps p.tables e below (T.setTop (mkF m pc Ls St)) t → Steps p.tables e below S0 t
/-- the walk has come to its end -/
def Dn (κ : Cx) (n0 : Nat) (Q : Option Value → Heap → Prop) (cells slots : Nat) : Prop :=
  match κ with
  | (p, e, s, _, _, below, _, _, S0) => ∃ s₂ o, Steps p.tables e below S0 s₂ ∧ s₂.status = .running ∧ Ended s₂ below o ∧ ∃ v L, o = .returned v ∧ (Q v s₂.heap ∧ Fr n0 L) ∧ FrameEnd s o s₂ L cells slots
/-- a method's contract: called with these arguments over this heap it returns, and Q holds of what it returns and of the heap -/
def Met (l : Launch) (Z : State) (y : MethodName) (code : ByteArray) (ml : Nat) (ret : Option FieldType) (R : Room) (n0 : Nat) (as : Array Value) (h0 : Heap) (Q : Option Value → Heap → Prop) : Prop :=
  ∀ ws : List Cond, MetFree l y (head1 (Cond.code y code ml ret :: ws) R) (fun a U => a = as ∧ Z.Warmed39 U.vm ∧ U.heap = h0) (fun _ _ _ _ _ => True) (fun _ U o U' => ∃ v L, o = .returned v ∧ (Q v U'.heap ∧ Fr n0 L) ∧ FrameEnd U o U' L R.cells R.slots)
section Own
variable {κ : Cx} {l : Launch} {Z : State} {own nm : String} {code : ByteArray} {ml : Nat} {ret : Option FieldType} {R : Room} {n0 : Nat} {h : Heap} {cells slots pc q : Nat} {Ls : Array Slot} {St : List Value} {a0 : Array Value}
theorem Met.of {y : MethodName} {as : Array Value} {Q : Option Value → Heap → Prop} (hpl : plainFor y = true) (hef : ∀ m, entryFrame m as ml = mkF m 0 Ls []) (body : ∀ κ, Wk κ l Z y.cls y.name code ml ret R n0 h 0 0 0 Ls [] → Dn κ n0 Q R.cells R.slots) : Met l Z y code ml ret R n0 as h Q := by
  intro ws
  refine MetFree.of_bodySF hpl hisR ?_
  intro p e s m args below meth c s₁ Bd hml0 hP hK
  obtain ⟨ha, hZ, hh⟩ := hP
  have e0 : s₁.heap = h := by rw [← hh, Bd.state]; rfl
  exact body (p, e, s, m, args, below, meth, c, s₁.setTop (entryFrame m args ml)) ⟨⟨Bd.exec, Bd.bytes, hml0, Bd.returns, Bd.notSynchronized, (name_of_methodNamed Bd.named Bd.method).1, hZ, findClass_of_methodNamed Bd.named⟩, s₁, [], Stand.of_body Bd, Fr.nil n0, e0, fun t k => castTop (by rw [ha]; exact hef m) k⟩
theorem Wk.step (w : Wk κ l Z own nm code ml ret R n0 h cells slots pc Ls St) {Ls' : Array Slot} {St' : List Value}
    (f : ∀ {p : Program} {e : Env} {below : List Frame} {m : MethodId} {c : Code} {T t : State}, p.tables.exec = Jvm.exec → c.code = code → At T m c below → Steps p.tables e below (T.setTop (mkF m q Ls' St')) t → Steps p.tables e below (T.setTop (mkF m pc Ls St)) t) : Wk κ l Z own nm code ml ret R n0 h cells slots q Ls' St' := by
  obtain ⟨p, e, s, m, args, below, meth, c, S0⟩ := κ
  obtain ⟨hs, T, locs, X, N, eT, st⟩ := w
  exact ⟨hs, T, locs, X, N, eT, fun t k => st t (f hs.1 hs.2.1 X.here k)⟩
theorem Wk.stepX (w : Wk κ l Z own nm code ml ret R n0 h cells slots pc Ls St) {Ls' : Array Slot} {St' : List Value}
    (f : ∀ {p : Program} {e : Env} {s : State} {m : MethodId} {args : Array Value} {below : List Frame} {meth : Method} {c : Code} {T t : State} {locs : List Loc}, p.tables.exec = Jvm.exec → c.code = code → Z.Warmed39 s.vm → s.vm.findClass own = some m.cls → Stand p l e R s m args below meth c T locs cells slots → T.heap = h → Steps p.tables e below (T.setTop (mkF m q Ls' St')) t → Steps p.tables e below (T.setTop (mkF m pc Ls St)) t) : Wk κ l Z own nm code ml ret R n0 h cells slots q Ls' St' := by
  obtain ⟨p, e, s, m, args, below, meth, c, S0⟩ := κ
  obtain ⟨hs, T, locs, X, N, eT, st⟩ := w
  exact ⟨hs, T, locs, X, N, eT, fun t k => st t (f hs.1 hs.2.1 hs.2.2.2.2.2.2.1 hs.2.2.2.2.2.2.2 X eT k)⟩
theorem Wk.stepT (w : Wk κ l Z own nm code ml ret R n0 h cells slots pc Ls St) {Ls' : Array Slot} {St' : List Value}
    (f : ∀ {p : Program} {e : Env} {s : State} {m : MethodId} {args : Array Value} {below : List Frame} {meth : Method} {c : Code} {T : State} {locs : List Loc}, p.tables.exec = Jvm.exec → c.code = code → c.maxLocals = ml → Z.Warmed39 s.vm → s.vm.findClass own = some m.cls → Stand p l e R s m args below meth c T locs cells slots → T.heap = h → ∃ T', Stand p l e R s m args below meth c T' locs cells slots ∧ T'.heap = h ∧ ∀ t, Steps p.tables e below (T'.setTop (mkF m q Ls' St')) t → Steps p.tables e below (T.setTop (mkF m pc Ls St)) t) : Wk κ l Z own nm code ml ret R n0 h cells slots q Ls' St' := by
  obtain ⟨p, e, s, m, args, below, meth, c, S0⟩ := κ
  obtain ⟨hs, T, locs, X, N, eT, st⟩ := w
  obtain ⟨T', X', eT', st'⟩ := f hs.1 hs.2.1 hs.2.2.1 hs.2.2.2.2.2.2.1 hs.2.2.2.2.2.2.2 X eT
  exact ⟨hs, T', locs, X', N, eT', fun t k => st t (st' t k)⟩
/-! loads, stores, constants -/
theorem Wk.aloadN (w : Wk κ l Z own nm code ml ret R n0 h cells slots pc Ls St) {k : Fin 4} {v : Value} (hd : decode code pc = .ok (.aload_n k, 1)) (hl : Ls[k.val]? = some (.val v)) (hv : v.isRef = true) (hq : pc + 1 = q) : Wk κ l Z own nm code ml ret R n0 h cells slots q Ls (v :: St) := by
  subst hq; exact w.step fun hx hby hat k => XS.aloadN hat hx rfl (hb hby hd) hl hv k
theorem Wk.aload (w : Wk κ l Z own nm code ml ret R n0 h cells slots pc Ls St) {k : Nat} {v : Value} (hd : decode code pc = .ok (.aload k, 2)) (hl : Ls[k]? = some (.val v)) (hv : v.isRef = true) (hq : pc + 2 = q) : Wk κ l Z own nm code ml ret R n0 h cells slots q Ls (v :: St) := by
  subst hq; exact w.step fun hx hby hat k => XS.aload hat hx rfl (hb hby hd) hl hv k
theorem Wk.iloadN (w : Wk κ l Z own nm code ml ret R n0 h cells slots pc Ls St) {k : Fin 4} {v : Int32} (hd : decode code pc = .ok (.iload_n k, 1)) (hl : Ls[k.val]? = some (.val (.int v))) (hq : pc + 1 = q) : Wk κ l Z own nm code ml ret R n0 h cells slots q Ls (.int v :: St) := by
  subst hq; exact w.step fun hx hby hat k => XS.iloadN hat hx rfl (hb hby hd) hl k
theorem Wk.iload (w : Wk κ l Z own nm code ml ret R n0 h cells slots pc Ls St) {k : Nat} {v : Int32} (hd : decode code pc = .ok (.iload k, 2)) (hl : Ls[k]? = some (.val (.int v))) (hq : pc + 2 = q) : Wk κ l Z own nm code ml ret R n0 h cells slots q Ls (.int v :: St) := by
  subst hq; exact w.step fun hx hby hat k => XS.iload hat hx rfl (hb hby hd) hl k
theorem Wk.lloadN (w : Wk κ l Z own nm code ml ret R n0 h cells slots pc Ls St) {k : Fin 4} {v : Int64} (hd : decode code pc = .ok (.lload_n k, 1)) (hl : Ls[k.val]? = some (.val (.long v))) (hq : pc + 1 = q) : Wk κ l Z own nm code ml ret R n0 h cells slots q Ls (.long v :: St) := by
  subst hq; exact w.step fun hx hby hat k => XT.lloadN hat hx rfl (hb hby hd) hl k
theorem Wk.lload (w : Wk κ l Z own nm code ml ret R n0 h cells slots pc Ls St) {k : Nat} {v : Int64} (hd : decode code pc = .ok (.lload k, 2)) (hl : Ls[k]? = some (.val (.long v))) (hq : pc + 2 = q) : Wk κ l Z own nm code ml ret R n0 h cells slots q Ls (.long v :: St) := by
  subst hq; exact w.step fun hx hby hat k => XT.lload hat hx rfl (hb hby hd) hl k
theorem Wk.dloadN (w : Wk κ l Z own nm code ml ret R n0 h cells slots pc Ls St) {k : Fin 4} {v : UInt64} (hd : decode code pc = .ok (.dload_n k, 1)) (hl : Ls[k.val]? = some (.val (.double v))) (hq : pc + 1 = q) : Wk κ l Z own nm code ml ret R n0 h cells slots q Ls (.double v :: St) := by
  subst hq; exact w.step fun hx hby hat k => XS.dloadN hat hx rfl (hb hby hd) hl k
theorem Wk.dload (w : Wk κ l Z own nm code ml ret R n0 h cells slots pc Ls St) {k : Nat} {v : UInt64} (hd : decode code pc = .ok (.dload k, 2)) (hl : Ls[k]? = some (.val (.double v))) (hq : pc + 2 = q) : Wk κ l Z own nm code ml ret R n0 h cells slots q Ls (.double v :: St) := by
  subst hq; exact w.step fun hx hby hat k => XS.dload hat hx rfl (hb hby hd) hl k
theorem Wk.astoreN {v : Value} (w : Wk κ l Z own nm code ml ret R n0 h cells slots pc Ls (v :: St)) {k : Fin 4} {l' : Array Slot} (hd : decode code pc = .ok (.astore_n k, 1)) (hv : v.isRef = true) (hl : storeLocals Ls k.val v = some l') (hq : pc + 1 = q) : Wk κ l Z own nm code ml ret R n0 h cells slots q l' St := by
  subst hq; exact w.step fun hx hby hat k => XS.astoreN hat hx rfl (hb hby hd) rfl hv hl k
theorem Wk.astore {v : Value} (w : Wk κ l Z own nm code ml ret R n0 h cells slots pc Ls (v :: St)) {k : Nat} {l' : Array Slot} (hd : decode code pc = .ok (.astore k, 2)) (hv : v.isRef = true) (hl : storeLocals Ls k v = some l') (hq : pc + 2 = q) : Wk κ l Z own nm code ml ret R n0 h cells slots q l' St := by
  subst hq; exact w.step fun hx hby hat k => XS.astore hat hx rfl (hb hby hd) rfl hv hl k
theorem Wk.istoreN {x : Int32} (w : Wk κ l Z own nm code ml ret R n0 h cells slots pc Ls (.int x :: St)) {k : Fin 4} {l' : Array Slot} (hd : decode code pc = .ok (.istore_n k, 1)) (hl : storeLocals Ls k.val (.int x) = some l') (hq : pc + 1 = q) : Wk κ l Z own nm code ml ret R n0 h cells slots q l' St := by
  subst hq; exact w.step fun hx hby hat k => XS.istoreN hat hx rfl (hb hby hd) rfl hl k
theorem Wk.istore {x : Int32} (w : Wk κ l Z own nm code ml ret R n0 h cells slots pc Ls (.int x :: St)) {k : Nat} {l' : Array Slot} (hd : decode code pc = .ok (.istore k, 2)) (hl : storeLocals Ls k (.int x) = some l') (hq : pc + 2 = q) : Wk κ l Z own nm code ml ret R n0 h cells slots q l' St := by
  subst hq; exact w.step fun hx hby hat k => XS.istore hat hx rfl (hb hby hd) rfl hl k
theorem Wk.lstoreN {x : Int64} (w : Wk κ l Z own nm code ml ret R n0 h cells slots pc Ls (.long x :: St)) {k : Fin 4} {l' : Array Slot} (hd : decode code pc = .ok (.lstore_n k, 1)) (hl : storeLocals Ls k.val (.long x) = some l') (hq : pc + 1 = q) : Wk κ l Z own nm code ml ret R n0 h cells slots q l' St := by
  subst hq; exact w.step fun hx hby hat k => XT.lstoreN hat hx rfl (hb hby hd) rfl hl k
theorem Wk.lstore {x : Int64} (w : Wk κ l Z own nm code ml ret R n0 h cells slots pc Ls (.long x :: St)) {k : Nat} {l' : Array Slot} (hd : decode code pc = .ok (.lstore k, 2)) (hl : storeLocals Ls k (.long x) = some l') (hq : pc + 2 = q) : Wk κ l Z own nm code ml ret R n0 h cells slots q l' St := by
  subst hq; exact w.step fun hx hby hat k => XT.lstore hat hx rfl (hb hby hd) rfl hl k
theorem Wk.dstoreN {x : UInt64} (w : Wk κ l Z own nm code ml ret R n0 h cells slots pc Ls (.double x :: St)) {k : Fin 4} {l' : Array Slot} (hd : decode code pc = .ok (.dstore_n k, 1)) (hl : storeLocals Ls k.val (.double x) = some l') (hq : pc + 1 = q) : Wk κ l Z own nm code ml ret R n0 h cells slots q l' St := by
  subst hq; exact w.step fun hx hby hat k => XS.dstoreN hat hx rfl (hb hby hd) rfl hl k
theorem Wk.dstore {x : UInt64} (w : Wk κ l Z own nm code ml ret R n0 h cells slots pc Ls (.double x :: St)) {k : Nat} {l' : Array Slot} (hd : decode code pc = .ok (.dstore k, 2)) (hl : storeLocals Ls k (.double x) = some l') (hq : pc + 2 = q) : Wk κ l Z own nm code ml ret R n0 h cells slots q l' St := by
  subst hq; exact w.step fun hx hby hat k => XS.dstore hat hx rfl (hb hby hd) rfl hl k
theorem Wk.iconst (w : Wk κ l Z own nm code ml ret R n0 h cells slots pc Ls St) {i : Int} {z : Int32} (hd : decode code pc = .ok (.iconst i, 1)) (hz : Int32.ofInt i = z) (hq : pc + 1 = q) : Wk κ l Z own nm code ml ret R n0 h cells slots q Ls (.int z :: St) := by
  subst hq hz; exact w.step fun hx hby hat k => XS.iconst hat hx rfl (hb hby hd) k
theorem Wk.bipush (w : Wk κ l Z own nm code ml ret R n0 h cells slots pc Ls St) {i : Int} {z : Int32} (hd : decode code pc = .ok (.bipush i, 2)) (hz : (Int8.ofInt i).toInt32 = z) (hq : pc + 2 = q) : Wk κ l Z own nm code ml ret R n0 h cells slots q Ls (.int z :: St) := by
  subst hq hz; exact w.step fun hx hby hat k => XS.bipush hat hx rfl (hb hby hd) k
theorem Wk.sipush (w : Wk κ l Z own nm code ml ret R n0 h cells slots pc Ls St) {i : Int} {z : Int32} (hd : decode code pc = .ok (.sipush i, 3)) (hz : (Int16.ofInt i).toInt32 = z) (hq : pc + 3 = q) : Wk κ l Z own nm code ml ret R n0 h cells slots q Ls (.int z :: St) := by
  subst hq hz; exact w.step fun hx hby hat k => XS.sipush hat hx rfl (hb hby hd) k
theorem Wk.lconst (w : Wk κ l Z own nm code ml ret R n0 h cells slots pc Ls St) {i : Fin 2} {z : Int64} (hd : decode code pc = .ok (.lconst i, 1)) (hz : Int64.ofNat i = z) (hq : pc + 1 = q) : Wk κ l Z own nm code ml ret R n0 h cells slots q Ls (.long z :: St) := by
  subst hq hz; exact w.step fun hx hby hat k => XT.lconst hat hx rfl (hb hby hd) k
theorem Wk.dconst0 (w : Wk κ l Z own nm code ml ret R n0 h cells slots pc Ls St) {z : UInt64} (hd : decode code pc = .ok (.dconst 0, 1)) (hz : FP.dconst0 = z) (hq : pc + 1 = q) : Wk κ l Z own nm code ml ret R n0 h cells slots q Ls (.double z :: St) := by
  subst hq; exact w.step fun hx hby hat k => XS.dconst0 hat hx rfl (hb hby hd) hz k
theorem Wk.ldcI (w : Wk κ l Z own nm code ml ret R n0 h cells slots pc Ls St) {i : Nat} {z : Int32} (wd : (Cond.constant own i z).before a0 Z = true) (hd : decode code pc = .ok (.ldc i, 2)) (hq : pc + 2 = q) : Wk κ l Z own nm code ml ret R n0 h cells slots q Ls (.int z :: St) := by
  subst hq; exact w.stepX fun hx hby hZ hown X _ k => X.ldcInt hx hown (mvT hZ wd) (g := mkF _ pc Ls St) rfl (hb hby hd) _ k
theorem Wk.ldcWI (w : Wk κ l Z own nm code ml ret R n0 h cells slots pc Ls St) {i : Nat} {z : Int32} (wd : (Cond.constant own i z).before a0 Z = true) (hd : decode code pc = .ok (.ldc_w i, 3)) (hq : pc + 3 = q) : Wk κ l Z own nm code ml ret R n0 h cells slots q Ls (.int z :: St) := by
  subst hq; exact w.stepX fun hx hby hZ hown X _ k => X.ldcWI hx hown (mvT hZ wd) (g := mkF _ pc Ls St) rfl (hb hby hd) k
theorem Wk.ldcJ (w : Wk κ l Z own nm code ml ret R n0 h cells slots pc Ls St) {i : Nat} {z : Int64} (wd : (Cond.constantLong own i z).before a0 Z = true) (hd : decode code pc = .ok (.ldc2_w i, 3)) (hq : pc + 3 = q) : Wk κ l Z own nm code ml ret R n0 h cells slots q Ls (.long z :: St) := by
  subst hq; exact w.stepX fun hx hby hZ hown X _ k => X.ldc2Long hx hown (mvT hZ wd) (g := mkF _ pc Ls St) rfl (hb hby hd) _ k
theorem Wk.ldcD (w : Wk κ l Z own nm code ml ret R n0 h cells slots pc Ls St) {i : Nat} {z : UInt64} (wd : (Cond.constantDouble own i z).before a0 Z = true) (hd : decode code pc = .ok (.ldc2_w i, 3)) (hq : pc + 3 = q) : Wk κ l Z own nm code ml ret R n0 h cells slots q Ls (.double z :: St) := by
  subst hq; exact w.stepX fun hx hby hZ hown X _ k => X.ldc2DoubleC hx hown (mvT hZ wd) (g := mkF _ pc Ls St) rfl (hb hby hd) _ k
theorem Wk.dup {v : Value} (w : Wk κ l Z own nm code ml ret R n0 h cells slots pc Ls (v :: St)) (hd : decode code pc = .ok (.dup, 1)) (hc : v.category = 1) (hq : pc + 1 = q) : Wk κ l Z own nm code ml ret R n0 h cells slots q Ls (v :: v :: St) := by
  subst hq; exact w.step fun hx hby hat k => XS.dup hat hx rfl (hb hby hd) rfl hc k
theorem Wk.dupX1 {v u : Value} (w : Wk κ l Z own nm code ml ret R n0 h cells slots pc Ls (v :: u :: St)) (hd : decode code pc = .ok (.dup_x1, 1)) (hc : v.category = 1) (hc' : u.category = 1) (hq : pc + 1 = q) : Wk κ l Z own nm code ml ret R n0 h cells slots q Ls (v :: u :: v :: St) := by
  subst hq; exact w.step fun hx hby hat k => XT.dupX1 hat hx rfl (hb hby hd) rfl hc hc' k
theorem Wk.dup2 {v u : Value} (w : Wk κ l Z own nm code ml ret R n0 h cells slots pc Ls (v :: u :: St)) (hd : decode code pc = .ok (.dup2, 1)) (hc : v.category = 1) (hc' : u.category = 1) (hq : pc + 1 = q) : Wk κ l Z own nm code ml ret R n0 h cells slots q Ls (v :: u :: v :: u :: St) := by
  subst hq; exact w.step fun hx hby hat k => XT.dup2 hat hx rfl (hb hby hd) rfl hc hc' k
theorem Wk.pop {v : Value} (w : Wk κ l Z own nm code ml ret R n0 h cells slots pc Ls (v :: St)) (hd : decode code pc = .ok (.pop, 1)) (hc : v.category = 1) (hq : pc + 1 = q) : Wk κ l Z own nm code ml ret R n0 h cells slots q Ls St := by
  subst hq; exact w.step fun hx hby hat k => XT.pop hat hx rfl (hb hby hd) rfl hc k
theorem Wk.iinc (w : Wk κ l Z own nm code ml ret R n0 h cells slots pc Ls St) {k : Nat} {i : Int} {x z : Int32} {l' : Array Slot} (hd : decode code pc = .ok (.iinc k i, 3)) (hl : Ls[k]? = some (.val (.int x))) (hz : x + Int32.ofInt i = z) (hl' : storeLocals Ls k (.int z) = some l') (hq : pc + 3 = q) : Wk κ l Z own nm code ml ret R n0 h cells slots q l' St := by
  subst hq hz; exact w.step fun hx hby hat k => XS.iinc hat hx rfl (hb hby hd) hl hl' k
theorem Wk.iadd {x y z : Int32} (w : Wk κ l Z own nm code ml ret R n0 h cells slots pc Ls (.int y :: .int x :: St)) (hd : decode code pc = .ok (.iadd, 1)) (hz : x + y = z) (hq : pc + 1 = q) : Wk κ l Z own nm code ml ret R n0 h cells slots q Ls (.int z :: St) := by
  subst hq hz; exact w.step fun hx hby hat k => XS.iadd hat hx rfl (hb hby hd) rfl k
theorem Wk.isub {x y z : Int32} (w : Wk κ l Z own nm code ml ret R n0 h cells slots pc Ls (.int y :: .int x :: St)) (hd : decode code pc = .ok (.isub, 1)) (hz : x - y = z) (hq : pc + 1 = q) : Wk κ l Z own nm code ml ret R n0 h cells slots q Ls (.int z :: St) := by
  subst hq hz; exact w.step fun hx hby hat k => XS.isub hat hx rfl (hb hby hd) rfl k
theorem Wk.imul {x y z : Int32} (w : Wk κ l Z own nm code ml ret R n0 h cells slots pc Ls (.int y :: .int x :: St)) (hd : decode code pc = .ok (.imul, 1)) (hz : x * y = z) (hq : pc + 1 = q) : Wk κ l Z own nm code ml ret R n0 h cells slots q Ls (.int z :: St) := by
  subst hq hz; exact w.step fun hx hby hat k => XS.imul hat hx rfl (hb hby hd) rfl k
theorem Wk.iand {x y z : Int32} (w : Wk κ l Z own nm code ml ret R n0 h cells slots pc Ls (.int y :: .int x :: St)) (hd : decode code pc = .ok (.iand, 1)) (hz : x &&& y = z) (hq : pc + 1 = q) : Wk κ l Z own nm code ml ret R n0 h cells slots q Ls (.int z :: St) := by
  subst hq hz; exact w.step fun hx hby hat k => XS.iand hat hx rfl (hb hby hd) rfl k
theorem Wk.ior {x y z : Int32} (w : Wk κ l Z own nm code ml ret R n0 h cells slots pc Ls (.int y :: .int x :: St)) (hd : decode code pc = .ok (.ior, 1)) (hz : x ||| y = z) (hq : pc + 1 = q) : Wk κ l Z own nm code ml ret R n0 h cells slots q Ls (.int z :: St) := by
  subst hq hz; exact w.step fun hx hby hat k => XT.ior hat hx rfl (hb hby hd) rfl k
theorem Wk.ixor {x y z : Int32} (w : Wk κ l Z own nm code ml ret R n0 h cells slots pc Ls (.int y :: .int x :: St)) (hd : decode code pc = .ok (.ixor, 1)) (hz : x ^^^ y = z) (hq : pc + 1 = q) : Wk κ l Z own nm code ml ret R n0 h cells slots q Ls (.int z :: St) := by
  subst hq hz; exact w.step fun hx hby hat k => XT.ixor hat hx rfl (hb hby hd) rfl k
theorem Wk.ishl {x y z : Int32} (w : Wk κ l Z own nm code ml ret R n0 h cells slots pc Ls (.int y :: .int x :: St)) (hd : decode code pc = .ok (.ishl, 1)) (hz : x <<< (y &&& 31) = z) (hq : pc + 1 = q) : Wk κ l Z own nm code ml ret R n0 h cells slots q Ls (.int z :: St) := by
  subst hq hz; exact w.step fun hx hby hat k => XT.ishl hat hx rfl (hb hby hd) rfl k
theorem Wk.ishr {x y z : Int32} (w : Wk κ l Z own nm code ml ret R n0 h cells slots pc Ls (.int y :: .int x :: St)) (hd : decode code pc = .ok (.ishr, 1)) (hz : x >>> (y &&& 31) = z) (hq : pc + 1 = q) : Wk κ l Z own nm code ml ret R n0 h cells slots q Ls (.int z :: St) := by
  subst hq hz; exact w.step fun hx hby hat k => XT.ishr hat hx rfl (hb hby hd) rfl k
theorem Wk.iushr {x y z : Int32} (w : Wk κ l Z own nm code ml ret R n0 h cells slots pc Ls (.int y :: .int x :: St)) (hd : decode code pc = .ok (.iushr, 1)) (hz : XT.ushr x y = z) (hq : pc + 1 = q) : Wk κ l Z own nm code ml ret R n0 h cells slots q Ls (.int z :: St) := by
  subst hq hz; exact w.step fun hx hby hat k => XT.iushr hat hx rfl (hb hby hd) rfl k
theorem Wk.idiv {x y z : Int32} (w : Wk κ l Z own nm code ml ret R n0 h cells slots pc Ls (.int y :: .int x :: St)) (hd : decode code pc = .ok (.idiv, 1)) (hy : y ≠ 0) (hz : x / y = z) (hq : pc + 1 = q) : Wk κ l Z own nm code ml ret R n0 h cells slots q Ls (.int z :: St) := by
  subst hq hz; exact w.step fun hx hby hat k => XS.idiv hat hx rfl (hb hby hd) rfl hy k
theorem Wk.ladd {x y z : Int64} (w : Wk κ l Z own nm code ml ret R n0 h cells slots pc Ls (.long y :: .long x :: St)) (hd : decode code pc = .ok (.ladd, 1)) (hz : x + y = z) (hq : pc + 1 = q) : Wk κ l Z own nm code ml ret R n0 h cells slots q Ls (.long z :: St) := by
  subst hq hz; exact w.step fun hx hby hat k => XT.ladd hat hx rfl (hb hby hd) rfl k
theorem Wk.lsub {x y z : Int64} (w : Wk κ l Z own nm code ml ret R n0 h cells slots pc Ls (.long y :: .long x :: St)) (hd : decode code pc = .ok (.lsub, 1)) (hz : x - y = z) (hq : pc + 1 = q) : Wk κ l Z own nm code ml ret R n0 h cells slots q Ls (.long z :: St) := by
  subst hq hz; exact w.step fun hx hby hat k => XT.lsub hat hx rfl (hb hby hd) rfl k
theorem Wk.lmul {x y z : Int64} (w : Wk κ l Z own nm code ml ret R n0 h cells slots pc Ls (.long y :: .long x :: St)) (hd : decode code pc = .ok (.lmul, 1)) (hz : x * y = z) (hq : pc + 1 = q) : Wk κ l Z own nm code ml ret R n0 h cells slots q Ls (.long z :: St) := by
  subst hq hz; exact w.step fun hx hby hat k => XT.lmul hat hx rfl (hb hby hd) rfl k
theorem Wk.land {x y z : Int64} (w : Wk κ l Z own nm code ml ret R n0 h cells slots pc Ls (.long y :: .long x :: St)) (hd : decode code pc = .ok (.land, 1)) (hz : x &&& y = z) (hq : pc + 1 = q) : Wk κ l Z own nm code ml ret R n0 h cells slots q Ls (.long z :: St) := by
  subst hq hz; exact w.step fun hx hby hat k => XT.land hat hx rfl (hb hby hd) rfl k
theorem Wk.lor {x y z : Int64} (w : Wk κ l Z own nm code ml ret R n0 h cells slots pc Ls (.long y :: .long x :: St)) (hd : decode code pc = .ok (.lor, 1)) (hz : x ||| y = z) (hq : pc + 1 = q) : Wk κ l Z own nm code ml ret R n0 h cells slots q Ls (.long z :: St) := by
  subst hq hz; exact w.step fun hx hby hat k => XT.lor hat hx rfl (hb hby hd) rfl k
theorem Wk.lxor {x y z : Int64} (w : Wk κ l Z own nm code ml ret R n0 h cells slots pc Ls (.long y :: .long x :: St)) (hd : decode code pc = .ok (.lxor, 1)) (hz : x ^^^ y = z) (hq : pc + 1 = q) : Wk κ l Z own nm code ml ret R n0 h cells slots q Ls (.long z :: St) := by
  subst hq hz; exact w.step fun hx hby hat k => XT.lxor hat hx rfl (hb hby hd) rfl k
theorem Wk.irem {x y z : Int32} (w : Wk κ l Z own nm code ml ret R n0 h cells slots pc Ls (.int y :: .int x :: St)) (hd : decode code pc = .ok (.irem, 1)) (hy : y ≠ 0) (hz : x % y = z) (hq : pc + 1 = q) : Wk κ l Z own nm code ml ret R n0 h cells slots q Ls (.int z :: St) := by
  subst hq hz; exact w.stepX fun hx hby _ _ X _ k => iremM X hx rfl (hb hby hd) rfl hy k
theorem Wk.lshl {x z : Int64} {y : Int32} (w : Wk κ l Z own nm code ml ret R n0 h cells slots pc Ls (.int y :: .long x :: St)) (hd : decode code pc = .ok (.lshl, 1)) (hz : x <<< (y.toInt64 &&& 63) = z) (hq : pc + 1 = q) : Wk κ l Z own nm code ml ret R n0 h cells slots q Ls (.long z :: St) := by
  subst hq hz; exact w.step fun hx hby hat k => XT.lshl hat hx rfl (hb hby hd) rfl k
theorem Wk.lshr {x z : Int64} {y : Int32} (w : Wk κ l Z own nm code ml ret R n0 h cells slots pc Ls (.int y :: .long x :: St)) (hd : decode code pc = .ok (.lshr, 1)) (hz : x >>> (y.toInt64 &&& 63) = z) (hq : pc + 1 = q) : Wk κ l Z own nm code ml ret R n0 h cells slots q Ls (.long z :: St) := by
  subst hq hz; exact w.step fun hx hby hat k => XT.lshr hat hx rfl (hb hby hd) rfl k
theorem Wk.lushr {x z : Int64} {y : Int32} (w : Wk κ l Z own nm code ml ret R n0 h cells slots pc Ls (.int y :: .long x :: St)) (hd : decode code pc = .ok (.lushr, 1)) (hz : XT.ushrL x y = z) (hq : pc + 1 = q) : Wk κ l Z own nm code ml ret R n0 h cells slots q Ls (.long z :: St) := by
  subst hq hz; exact w.step fun hx hby hat k => XT.lushr hat hx rfl (hb hby hd) rfl k
theorem Wk.lcmp {x y : Int64} {z : Int32} (w : Wk κ l Z own nm code ml ret R n0 h cells slots pc Ls (.long y :: .long x :: St)) (hd : decode code pc = .ok (.lcmp, 1)) (hz : XT.cmpL x y = z) (hq : pc + 1 = q) : Wk κ l Z own nm code ml ret R n0 h cells slots q Ls (.int z :: St) := by
  subst hq hz; exact w.step fun hx hby hat k => XT.lcmp hat hx rfl (hb hby hd) rfl k
theorem Wk.i2l {x : Int32} {z : Int64} (w : Wk κ l Z own nm code ml ret R n0 h cells slots pc Ls (.int x :: St)) (hd : decode code pc = .ok (.i2l, 1)) (hz : x.toInt64 = z) (hq : pc + 1 = q) : Wk κ l Z own nm code ml ret R n0 h cells slots q Ls (.long z :: St) := by
  subst hq hz; exact w.step fun hx hby hat k => XT.i2l hat hx rfl (hb hby hd) rfl k
theorem Wk.l2i {x : Int64} {z : Int32} (w : Wk κ l Z own nm code ml ret R n0 h cells slots pc Ls (.long x :: St)) (hd : decode code pc = .ok (.l2i, 1)) (hz : x.toInt32 = z) (hq : pc + 1 = q) : Wk κ l Z own nm code ml ret R n0 h cells slots q Ls (.int z :: St) := by
  subst hq hz; exact w.step fun hx hby hat k => XT.l2i hat hx rfl (hb hby hd) rfl k
theorem Wk.i2b {x : Int32} {z : Int32} (w : Wk κ l Z own nm code ml ret R n0 h cells slots pc Ls (.int x :: St)) (hd : decode code pc = .ok (.i2b, 1)) (hz : x.toInt8.toInt32 = z) (hq : pc + 1 = q) : Wk κ l Z own nm code ml ret R n0 h cells slots q Ls (.int z :: St) := by
  subst hq hz; exact w.step fun hx hby hat k => XT.i2b hat hx rfl (hb hby hd) rfl k
theorem Wk.i2c {x : Int32} {z : Int32} (w : Wk κ l Z own nm code ml ret R n0 h cells slots pc Ls (.int x :: St)) (hd : decode code pc = .ok (.i2c, 1)) (hz : x.toUInt32.toUInt16.toUInt32.toInt32 = z) (hq : pc + 1 = q) : Wk κ l Z own nm code ml ret R n0 h cells slots q Ls (.int z :: St) := by
  subst hq hz; exact w.step fun hx hby hat k => XT.i2c hat hx rfl (hb hby hd) rfl k
theorem Wk.i2d {x : Int32} {z : UInt64} (w : Wk κ l Z own nm code ml ret R n0 h cells slots pc Ls (.int x :: St)) (hd : decode code pc = .ok (.i2d, 1)) (hz : FP.i2d x = z) (hq : pc + 1 = q) : Wk κ l Z own nm code ml ret R n0 h cells slots q Ls (.double z :: St) := by
  subst hq; exact w.step fun hx hby hat k => XS.i2dS hat hx rfl (hb hby hd) rfl hz k
theorem Wk.dcmp {o : CmpOp} {x y : UInt64} {z : Int32} (w : Wk κ l Z own nm code ml ret R n0 h cells slots pc Ls (.double y :: .double x :: St)) (hd : decode code pc = .ok (.dcmp o, 1)) (hz : cmpValue (FP.dcmp x y) o = z) (hq : pc + 1 = q) : Wk κ l Z own nm code ml ret R n0 h cells slots q Ls (.int z :: St) := by
  subst hq; exact w.step fun hx hby hat k => XS.dcmpS hat hx rfl (hb hby hd) rfl hz k
theorem Wk.dadd {x y z : UInt64} (w : Wk κ l Z own nm code ml ret R n0 h cells slots pc Ls (.double y :: .double x :: St)) (hd : decode code pc = .ok (.dadd, 1)) (hn : Jvm.Free.Fl.NoNaN64 (FP.dadd x y)) (hz : FP.dadd x y = z) (hq : pc + 1 = q) : Wk κ l Z own nm code ml ret R n0 h cells slots q Ls (.double z :: St) := by
  subst hq; exact w.step fun hx hby hat k => XS.daddS hat hx rfl (hb hby hd) rfl hn hz k
theorem Wk.dsub {x y z : UInt64} (w : Wk κ l Z own nm code ml ret R n0 h cells slots pc Ls (.double y :: .double x :: St)) (hd : decode code pc = .ok (.dsub, 1)) (hn : Jvm.Free.Fl.NoNaN64 (FP.dsub x y)) (hz : FP.dsub x y = z) (hq : pc + 1 = q) : Wk κ l Z own nm code ml ret R n0 h cells slots q Ls (.double z :: St) := by
  subst hq; exact w.step fun hx hby hat k => XS.dsubS hat hx rfl (hb hby hd) rfl hn hz k
theorem Wk.ddiv {x y z : UInt64} (w : Wk κ l Z own nm code ml ret R n0 h cells slots pc Ls (.double y :: .double x :: St)) (hd : decode code pc = .ok (.ddiv, 1)) (hn : Jvm.Free.Fl.NoNaN64 (FP.ddiv x y)) (hz : FP.ddiv x y = z) (hq : pc + 1 = q) : Wk κ l Z own nm code ml ret R n0 h cells slots q Ls (.double z :: St) := by
  subst hq; exact w.step fun hx hby hat k => XS.ddivS hat hx rfl (hb hby hd) rfl hn hz k
theorem Wk.goto (w : Wk κ l Z own nm code ml ret R n0 h cells slots pc Ls St) {o : Int} (hd : decode code pc = .ok (.goto o, 3)) (ho : 0 ≤ (pc : Int) + o) (hq : ((pc : Int) + o).toNat = q) : Wk κ l Z own nm code ml ret R n0 h cells slots q Ls St :=
  w.step fun hx hby hat k => XS.goto hat hx rfl rfl (hb hby hd) ho hq k
theorem holdEq (x y : Int32) : if_icmp.holds .eq x y = decide (x.toInt = y.toInt) := by
  show (x == y) = _
  rw [Bool.eq_iff_iff, beq_iff_eq, decide_eq_true_iff, Int32.toInt_inj]
theorem holdNe (x y : Int32) : if_icmp.holds .ne x y = decide (x.toInt ≠ y.toInt) := by
  show (x != y) = _
  rw [Bool.eq_iff_iff, bne_iff_ne, decide_eq_true_iff, ne_eq, ne_eq, Int32.toInt_inj]
theorem holdLt (x y : Int32) : if_icmp.holds .lt x y = decide (x.toInt < y.toInt) := by simp [if_icmp.holds, Int32.lt_iff_toInt_lt, Int32.le_iff_toInt_le, ← Int32.toInt_inj]
theorem holdGe (x y : Int32) : if_icmp.holds .ge x y = decide (y.toInt ≤ x.toInt) := by simp [if_icmp.holds, Int32.lt_iff_toInt_lt, Int32.le_iff_toInt_le, ← Int32.toInt_inj]
theorem holdGt (x y : Int32) : if_icmp.holds .gt x y = decide (y.toInt < x.toInt) := by simp [if_icmp.holds, Int32.lt_iff_toInt_lt, Int32.le_iff_toInt_le, ← Int32.toInt_inj]
theorem holdLe (x y : Int32) : if_icmp.holds .le x y = decide (x.toInt ≤ y.toInt) := by simp [if_icmp.holds, Int32.lt_iff_toInt_lt, Int32.le_iff_toInt_le, ← Int32.toInt_inj]
theorem Wk.icmpEq {x y : Int32} (w : Wk κ l Z own nm code ml ret R n0 h cells slots pc Ls (.int y :: .int x :: St)) {o : Int} {q' : Nat} {xi yi : Int} (hd : decode code pc = .ok (.if_icmp .eq o, 3)) (hx0 : x.toInt = xi) (hy0 : y.toInt = yi) (ho : 0 ≤ (pc : Int) + o) (hq : ((pc : Int) + o).toNat = q) (hq' : pc + 3 = q') : (xi = yi ∧ Wk κ l Z own nm code ml ret R n0 h cells slots q Ls St) ∨ (¬ (xi = yi) ∧ Wk κ l Z own nm code ml ret R n0 h cells slots q' Ls St) := by
  subst hx0 hy0 hq'
  by_cases hc : x.toInt = y.toInt
  · exact Or.inl ⟨hc, w.step fun hx hby hat k => XS.icmpYes hat hx rfl rfl (hb hby hd) rfl (by rw [holdEq]; exact decide_eq_true hc) ho hq k⟩
  · exact Or.inr ⟨hc, w.step fun hx hby hat k => XS.icmpNo hat hx rfl (hb hby hd) rfl (by rw [holdEq]; exact decide_eq_false hc) k⟩
theorem Wk.icmpNe {x y : Int32} (w : Wk κ l Z own nm code ml ret R n0 h cells slots pc Ls (.int y :: .int x :: St)) {o : Int} {q' : Nat} {xi yi : Int} (hd : decode code pc = .ok (.if_icmp .ne o, 3)) (hx0 : x.toInt = xi) (hy0 : y.toInt = yi) (ho : 0 ≤ (pc : Int) + o) (hq : ((pc : Int) + o).toNat = q) (hq' : pc + 3 = q') : (xi ≠ yi ∧ Wk κ l Z own nm code ml ret R n0 h cells slots q Ls St) ∨ (¬ (xi ≠ yi) ∧ Wk κ l Z own nm code ml ret R n0 h cells slots q' Ls St) := by
  subst hx0 hy0 hq'
  by_cases hc : x.toInt ≠ y.toInt
  · exact Or.inl ⟨hc, w.step fun hx hby hat k => XS.icmpYes hat hx rfl rfl (hb hby hd) rfl (by rw [holdNe]; exact decide_eq_true hc) ho hq k⟩
  · exact Or.inr ⟨hc, w.step fun hx hby hat k => XS.icmpNo hat hx rfl (hb hby hd) rfl (by rw [holdNe]; exact decide_eq_false hc) k⟩
theorem Wk.icmpLt {x y : Int32} (w : Wk κ l Z own nm code ml ret R n0 h cells slots pc Ls (.int y :: .int x :: St)) {o : Int} {q' : Nat} {xi yi : Int} (hd : decode code pc = .ok (.if_icmp .lt o, 3)) (hx0 : x.toInt = xi) (hy0 : y.toInt = yi) (ho : 0 ≤ (pc : Int) + o) (hq : ((pc : Int) + o).toNat = q) (hq' : pc + 3 = q') : (xi < yi ∧ Wk κ l Z own nm code ml ret R n0 h cells slots q Ls St) ∨ (¬ (xi < yi) ∧ Wk κ l Z own nm code ml ret R n0 h cells slots q' Ls St) := by
  subst hx0 hy0 hq'
  by_cases hc : x.toInt < y.toInt
  · exact Or.inl ⟨hc, w.step fun hx hby hat k => XS.icmpYes hat hx rfl rfl (hb hby hd) rfl (by rw [holdLt]; exact decide_eq_true hc) ho hq k⟩
  · exact Or.inr ⟨hc, w.step fun hx hby hat k => XS.icmpNo hat hx rfl (hb hby hd) rfl (by rw [holdLt]; exact decide_eq_false hc) k⟩
theorem Wk.icmpGe {x y : Int32} (w : Wk κ l Z own nm code ml ret R n0 h cells slots pc Ls (.int y :: .int x :: St)) {o : Int} {q' : Nat} {xi yi : Int} (hd : decode code pc = .ok (.if_icmp .ge o, 3)) (hx0 : x.toInt = xi) (hy0 : y.toInt = yi) (ho : 0 ≤ (pc : Int) + o) (hq : ((pc : Int) + o).toNat = q) (hq' : pc + 3 = q') : (yi ≤ xi ∧ Wk κ l Z own nm code ml ret R n0 h cells slots q Ls St) ∨ (¬ (yi ≤ xi) ∧ Wk κ l Z own nm code ml ret R n0 h cells slots q' Ls St) := by
  subst hx0 hy0 hq'
  by_cases hc : y.toInt ≤ x.toInt
  · exact Or.inl ⟨hc, w.step fun hx hby hat k => XS.icmpYes hat hx rfl rfl (hb hby hd) rfl (by rw [holdGe]; exact decide_eq_true hc) ho hq k⟩
  · exact Or.inr ⟨hc, w.step fun hx hby hat k => XS.icmpNo hat hx rfl (hb hby hd) rfl (by rw [holdGe]; exact decide_eq_false hc) k⟩
theorem Wk.icmpGt {x y : Int32} (w : Wk κ l Z own nm code ml ret R n0 h cells slots pc Ls (.int y :: .int x :: St)) {o : Int} {q' : Nat} {xi yi : Int} (hd : decode code pc = .ok (.if_icmp .gt o, 3)) (hx0 : x.toInt = xi) (hy0 : y.toInt = yi) (ho : 0 ≤ (pc : Int) + o) (hq : ((pc : Int) + o).toNat = q) (hq' : pc + 3 = q') : (yi < xi ∧ Wk κ l Z own nm code ml ret R n0 h cells slots q Ls St) ∨ (¬ (yi < xi) ∧ Wk κ l Z own nm code ml ret R n0 h cells slots q' Ls St) := by
  subst hx0 hy0 hq'
  by_cases hc : y.toInt < x.toInt
  · exact Or.inl ⟨hc, w.step fun hx hby hat k => XS.icmpYes hat hx rfl rfl (hb hby hd) rfl (by rw [holdGt]; exact decide_eq_true hc) ho hq k⟩
  · exact Or.inr ⟨hc, w.step fun hx hby hat k => XS.icmpNo hat hx rfl (hb hby hd) rfl (by rw [holdGt]; exact decide_eq_false hc) k⟩
theorem Wk.icmpLe {x y : Int32} (w : Wk κ l Z own nm code ml ret R n0 h cells slots pc Ls (.int y :: .int x :: St)) {o : Int} {q' : Nat} {xi yi : Int} (hd : decode code pc = .ok (.if_icmp .le o, 3)) (hx0 : x.toInt = xi) (hy0 : y.toInt = yi) (ho : 0 ≤ (pc : Int) + o) (hq : ((pc : Int) + o).toNat = q) (hq' : pc + 3 = q') : (xi ≤ yi ∧ Wk κ l Z own nm code ml ret R n0 h cells slots q Ls St) ∨ (¬ (xi ≤ yi) ∧ Wk κ l Z own nm code ml ret R n0 h cells slots q' Ls St) := by
  subst hx0 hy0 hq'
  by_cases hc : x.toInt ≤ y.toInt
  · exact Or.inl ⟨hc, w.step fun hx hby hat k => XS.icmpYes hat hx rfl rfl (hb hby hd) rfl (by rw [holdLe]; exact decide_eq_true hc) ho hq k⟩
  · exact Or.inr ⟨hc, w.step fun hx hby hat k => XS.icmpNo hat hx rfl (hb hby hd) rfl (by rw [holdLe]; exact decide_eq_false hc) k⟩
theorem Wk.ifEq {x : Int32} (w : Wk κ l Z own nm code ml ret R n0 h cells slots pc Ls (.int x :: St)) {o : Int} {q' : Nat} {xi : Int} (hd : decode code pc = .ok (.ifCond .eq o, 3)) (hx0 : x.toInt = xi) (ho : 0 ≤ (pc : Int) + o) (hq : ((pc : Int) + o).toNat = q) (hq' : pc + 3 = q') : (xi = 0 ∧ Wk κ l Z own nm code ml ret R n0 h cells slots q Ls St) ∨ (¬ (xi = 0) ∧ Wk κ l Z own nm code ml ret R n0 h cells slots q' Ls St) := by
  subst hx0 hq'
  have h0 : (0 : Int32).toInt = 0 := rfl
  by_cases hc : x.toInt = 0
  · exact Or.inl ⟨hc, w.step fun hx hby hat k => XS.ifYes hat hx rfl rfl (hb hby hd) rfl (by rw [if0, holdEq, h0]; exact decide_eq_true hc) ho hq k⟩
  · exact Or.inr ⟨hc, w.step fun hx hby hat k => XS.ifNo hat hx rfl (hb hby hd) rfl (by rw [if0, holdEq, h0]; exact decide_eq_false hc) k⟩
theorem Wk.ifNe {x : Int32} (w : Wk κ l Z own nm code ml ret R n0 h cells slots pc Ls (.int x :: St)) {o : Int} {q' : Nat} {xi : Int} (hd : decode code pc = .ok (.ifCond .ne o, 3)) (hx0 : x.toInt = xi) (ho : 0 ≤ (pc : Int) + o) (hq : ((pc : Int) + o).toNat = q) (hq' : pc + 3 = q') : (xi ≠ 0 ∧ Wk κ l Z own nm code ml ret R n0 h cells slots q Ls St) ∨ (¬ (xi ≠ 0) ∧ Wk κ l Z own nm code ml ret R n0 h cells slots q' Ls St) := by
  subst hx0 hq'
  have h0 : (0 : Int32).toInt = 0 := rfl
  by_cases hc : x.toInt ≠ 0
  · exact Or.inl ⟨hc, w.step fun hx hby hat k => XS.ifYes hat hx rfl rfl (hb hby hd) rfl (by rw [if0, holdNe, h0]; exact decide_eq_true hc) ho hq k⟩
  · exact Or.inr ⟨hc, w.step fun hx hby hat k => XS.ifNo hat hx rfl (hb hby hd) rfl (by rw [if0, holdNe, h0]; exact decide_eq_false hc) k⟩
theorem Wk.ifLt {x : Int32} (w : Wk κ l Z own nm code ml ret R n0 h cells slots pc Ls (.int x :: St)) {o : Int} {q' : Nat} {xi : Int} (hd : decode code pc = .ok (.ifCond .lt o, 3)) (hx0 : x.toInt = xi) (ho : 0 ≤ (pc : Int) + o) (hq : ((pc : Int) + o).toNat = q) (hq' : pc + 3 = q') : (xi < 0 ∧ Wk κ l Z own nm code ml ret R n0 h cells slots q Ls St) ∨ (¬ (xi < 0) ∧ Wk κ l Z own nm code ml ret R n0 h cells slots q' Ls St) := by
  subst hx0 hq'
  have h0 : (0 : Int32).toInt = 0 := rfl
  by_cases hc : x.toInt < 0
  · exact Or.inl ⟨hc, w.step fun hx hby hat k => XS.ifYes hat hx rfl rfl (hb hby hd) rfl (by rw [if0, holdLt, h0]; exact decide_eq_true hc) ho hq k⟩
  · exact Or.inr ⟨hc, w.step fun hx hby hat k => XS.ifNo hat hx rfl (hb hby hd) rfl (by rw [if0, holdLt, h0]; exact decide_eq_false hc) k⟩
theorem Wk.ifGe {x : Int32} (w : Wk κ l Z own nm code ml ret R n0 h cells slots pc Ls (.int x :: St)) {o : Int} {q' : Nat} {xi : Int} (hd : decode code pc = .ok (.ifCond .ge o, 3)) (hx0 : x.toInt = xi) (ho : 0 ≤ (pc : Int) + o) (hq : ((pc : Int) + o).toNat = q) (hq' : pc + 3 = q') : (0 ≤ xi ∧ Wk κ l Z own nm code ml ret R n0 h cells slots q Ls St) ∨ (¬ (0 ≤ xi) ∧ Wk κ l Z own nm code ml ret R n0 h cells slots q' Ls St) := by
  subst hx0 hq'
  have h0 : (0 : Int32).toInt = 0 := rfl
  by_cases hc : 0 ≤ x.toInt
  · exact Or.inl ⟨hc, w.step fun hx hby hat k => XS.ifYes hat hx rfl rfl (hb hby hd) rfl (by rw [if0, holdGe, h0]; exact decide_eq_true hc) ho hq k⟩
  · exact Or.inr ⟨hc, w.step fun hx hby hat k => XS.ifNo hat hx rfl (hb hby hd) rfl (by rw [if0, holdGe, h0]; exact decide_eq_false hc) k⟩
theorem Wk.ifGt {x : Int32} (w : Wk κ l Z own nm code ml ret R n0 h cells slots pc Ls (.int x :: St)) {o : Int} {q' : Nat} {xi : Int} (hd : decode code pc = .ok (.ifCond .gt o, 3)) (hx0 : x.toInt = xi) (ho : 0 ≤ (pc : Int) + o) (hq : ((pc : Int) + o).toNat = q) (hq' : pc + 3 = q') : (0 < xi ∧ Wk κ l Z own nm code ml ret R n0 h cells slots q Ls St) ∨ (¬ (0 < xi) ∧ Wk κ l Z own nm code ml ret R n0 h cells slots q' Ls St) := by
  subst hx0 hq'
  have h0 : (0 : Int32).toInt = 0 := rfl
  by_cases hc : 0 < x.toInt
  · exact Or.inl ⟨hc, w.step fun hx hby hat k => XS.ifYes hat hx rfl rfl (hb hby hd) rfl (by rw [if0, holdGt, h0]; exact decide_eq_true hc) ho hq k⟩
  · exact Or.inr ⟨hc, w.step fun hx hby hat k => XS.ifNo hat hx rfl (hb hby hd) rfl (by rw [if0, holdGt, h0]; exact decide_eq_false hc) k⟩
theorem Wk.ifLe {x : Int32} (w : Wk κ l Z own nm code ml ret R n0 h cells slots pc Ls (.int x :: St)) {o : Int} {q' : Nat} {xi : Int} (hd : decode code pc = .ok (.ifCond .le o, 3)) (hx0 : x.toInt = xi) (ho : 0 ≤ (pc : Int) + o) (hq : ((pc : Int) + o).toNat = q) (hq' : pc + 3 = q') : (xi ≤ 0 ∧ Wk κ l Z own nm code ml ret R n0 h cells slots q Ls St) ∨ (¬ (xi ≤ 0) ∧ Wk κ l Z own nm code ml ret R n0 h cells slots q' Ls St) := by
  subst hx0 hq'
  have h0 : (0 : Int32).toInt = 0 := rfl
  by_cases hc : x.toInt ≤ 0
  · exact Or.inl ⟨hc, w.step fun hx hby hat k => XS.ifYes hat hx rfl rfl (hb hby hd) rfl (by rw [if0, holdLe, h0]; exact decide_eq_true hc) ho hq k⟩
  · exact Or.inr ⟨hc, w.step fun hx hby hat k => XS.ifNo hat hx rfl (hb hby hd) rfl (by rw [if0, holdLe, h0]; exact decide_eq_false hc) k⟩
theorem Wk.acmpEq {x y : Value} (w : Wk κ l Z own nm code ml ret R n0 h cells slots pc Ls (y :: x :: St)) {o : Int} {q' : Nat} (hd : decode code pc = .ok (.if_acmp .eq o, 3)) (hx' : x.isRef = true) (hy' : y.isRef = true) (ho : 0 ≤ (pc : Int) + o) (hq : ((pc : Int) + o).toNat = q) (hq' : pc + 3 = q') : (x = y ∧ Wk κ l Z own nm code ml ret R n0 h cells slots q Ls St) ∨ (¬ (x = y) ∧ Wk κ l Z own nm code ml ret R n0 h cells slots q' Ls St) := by
  subst hq'
  by_cases hc : x = y
  · exact Or.inl ⟨hc, w.step fun hx hby hat k => XT.acmpYes hat hx rfl rfl (hb hby hd) rfl hx' hy' (by simpa [XT.acmp] using hc) ho hq k⟩
  · exact Or.inr ⟨hc, w.step fun hx hby hat k => XT.acmpNo hat hx rfl (hb hby hd) rfl hx' hy' (by simpa [XT.acmp] using hc) k⟩
theorem Wk.acmpNe {x y : Value} (w : Wk κ l Z own nm code ml ret R n0 h cells slots pc Ls (y :: x :: St)) {o : Int} {q' : Nat} (hd : decode code pc = .ok (.if_acmp .ne o, 3)) (hx' : x.isRef = true) (hy' : y.isRef = true) (ho : 0 ≤ (pc : Int) + o) (hq : ((pc : Int) + o).toNat = q) (hq' : pc + 3 = q') : (x ≠ y ∧ Wk κ l Z own nm code ml ret R n0 h cells slots q Ls St) ∨ (¬ (x ≠ y) ∧ Wk κ l Z own nm code ml ret R n0 h cells slots q' Ls St) := by
  subst hq'
  by_cases hc : x ≠ y
  · exact Or.inl ⟨hc, w.step fun hx hby hat k => XT.acmpYes hat hx rfl rfl (hb hby hd) rfl hx' hy' (by simpa [XT.acmp] using hc) ho hq k⟩
  · exact Or.inr ⟨hc, w.step fun hx hby hat k => XT.acmpNo hat hx rfl (hb hby hd) rfl hx' hy' (by simpa [XT.acmp] using hc) k⟩
theorem Wk.acmpEqR {a b : Nat} (w : Wk κ l Z own nm code ml ret R n0 h cells slots pc Ls (.ref b :: .ref a :: St)) {o : Int} {q' : Nat} (hd : decode code pc = .ok (.if_acmp .eq o, 3)) (ho : 0 ≤ (pc : Int) + o) (hq : ((pc : Int) + o).toNat = q) (hq' : pc + 3 = q') : (a = b ∧ Wk κ l Z own nm code ml ret R n0 h cells slots q Ls St) ∨ (¬ (a = b) ∧ Wk κ l Z own nm code ml ret R n0 h cells slots q' Ls St) :=
  (w.acmpEq hd rfl rfl ho hq hq').imp (fun g => ⟨Value.ref.inj g.1, g.2⟩) (fun g => ⟨fun e => g.1 (congrArg Value.ref e), g.2⟩)
theorem Wk.acmpNeR {a b : Nat} (w : Wk κ l Z own nm code ml ret R n0 h cells slots pc Ls (.ref b :: .ref a :: St)) {o : Int} {q' : Nat} (hd : decode code pc = .ok (.if_acmp .ne o, 3)) (ho : 0 ≤ (pc : Int) + o) (hq : ((pc : Int) + o).toNat = q) (hq' : pc + 3 = q') : (a ≠ b ∧ Wk κ l Z own nm code ml ret R n0 h cells slots q Ls St) ∨ (¬ (a ≠ b) ∧ Wk κ l Z own nm code ml ret R n0 h cells slots q' Ls St) :=
  (w.acmpNe hd rfl rfl ho hq hq').imp (fun g => ⟨fun e => g.1 (congrArg Value.ref e), g.2⟩) (fun g => ⟨fun e => g.1 fun e' => e (Value.ref.inj e'), g.2⟩)
/-- a field of the start, by the case's own words -/
theorem fld_of_eq {args : Array Value} {s : State} {t : Term} {C n d : String} {k : Int32} {a : Nat} (hh : (Cond.eq (Term.field t C n d) (Term.int k)).value args s none s [] = some true) (ht : t.eval args s none [] s = some (.ref a)) : Fld s s.heap a C n d (.int k) := by
  obtain ⟨x, y, ex, ey, k1, k2⟩ := cmp_v (Or.inl hh)
  obtain rfl : y = .int k := (Option.some.inj (ey.symm.trans (Term.int_eval k)))
  obtain ⟨z, rfl⟩ := k2
  obtain rfl : z = k := gotT (Cond.eq_ints ex ey) hh
  exact Fld.start (by rw [← fld_at ht]; exact ex)
/-! returns -/
theorem Wk.retI {x : Int32} (w : Wk κ l Z own nm code ml (some .int) R n0 h cells slots pc Ls (.int x :: St)) {Q : Option Value → Heap → Prop} {C S : Nat} (hd : decode code pc = .ok (.ireturn, 1)) (hQ : Q (some (.int x)) h) (hc : cells ≤ C) (hs : slots ≤ S) : Dn κ n0 Q C S := by
  obtain ⟨p, e, s, m, args, below, meth, c, S0⟩ := κ
  obtain ⟨⟨hx, hby, hml, hret, hlk, hnm, hZ, hown⟩, T, locs, X, N, eT, st⟩ := w
  obtain ⟨fs, hr, hrun, hended, hW, hsame⟩ := X.leave (v := some (.int x)) (fun hh => by rw [hret] at hh; cases hh) hlk
  exact ⟨_, _, st _ (retOut X hx hret rfl (Or.inl ⟨rfl, Or.inl rfl, _, rfl⟩) (hb hby hd) hr), hrun, hended, _, _, rfl, ⟨by rw [show (T.setFrames fs).heap = h from eT]; exact hQ, N⟩, ⟨_, rfl⟩, hW, hsame.mono hc hs⟩
theorem Wk.retZ {x z : Int32} (w : Wk κ l Z own nm code ml (some .boolean) R n0 h cells slots pc Ls (.int x :: St)) {Q : Option Value → Heap → Prop} {C S : Nat} (hd : decode code pc = .ok (.ireturn, 1)) (hz : x &&& 1 = z) (hQ : Q (some (.int z)) h) (hc : cells ≤ C) (hs : slots ≤ S) : Dn κ n0 Q C S := by
  obtain ⟨p, e, s, m, args, below, meth, c, S0⟩ := κ
  obtain ⟨⟨hx, hby, hml, hret, hlk, hnm, hZ, hown⟩, T, locs, X, N, eT, st⟩ := w
  subst hz
  obtain ⟨fs, hr, hrun, hended, hW, hsame⟩ := X.leave (v := some (.int (nar .boolean x))) (fun hh => by rw [hret] at hh; cases hh) hlk
  exact ⟨_, _, st _ (retN X hx hret (by simp) (hb hby hd) hr), hrun, hended, _, _, rfl, ⟨by rw [show (T.setFrames fs).heap = h from eT]; exact hQ, N⟩, ⟨_, rfl⟩, hW, hsame.mono hc hs⟩
theorem Wk.retJ {x : Int64} (w : Wk κ l Z own nm code ml (some .long) R n0 h cells slots pc Ls (.long x :: St)) {Q : Option Value → Heap → Prop} {C S : Nat} (hd : decode code pc = .ok (.lreturn, 1)) (hQ : Q (some (.long x)) h) (hc : cells ≤ C) (hs : slots ≤ S) : Dn κ n0 Q C S := by
  obtain ⟨p, e, s, m, args, below, meth, c, S0⟩ := κ
  obtain ⟨⟨hx, hby, hml, hret, hlk, hnm, hZ, hown⟩, T, locs, X, N, eT, st⟩ := w
  obtain ⟨fs, hr, hrun, hended, hW, hsame⟩ := X.leave (v := some (.long x)) (fun hh => by rw [hret] at hh; cases hh) hlk
  exact ⟨_, _, st _ (retOut X hx hret rfl (Or.inr (Or.inl ⟨rfl, rfl, _, rfl⟩)) (hb hby hd) hr), hrun, hended, _, _, rfl, ⟨by rw [show (T.setFrames fs).heap = h from eT]; exact hQ, N⟩, ⟨_, rfl⟩, hW, hsame.mono hc hs⟩
theorem Wk.retD {x : UInt64} (w : Wk κ l Z own nm code ml (some .double) R n0 h cells slots pc Ls (.double x :: St)) {Q : Option Value → Heap → Prop} {C S : Nat} (hd : decode code pc = .ok (.dreturn, 1)) (hQ : Q (some (.double x)) h) (hc : cells ≤ C) (hs : slots ≤ S) : Dn κ n0 Q C S := by
  obtain ⟨p, e, s, m, args, below, meth, c, S0⟩ := κ
  obtain ⟨⟨hx, hby, hml, hret, hlk, hnm, hZ, hown⟩, T, locs, X, N, eT, st⟩ := w
  obtain ⟨fs, hr, hrun, hended, hW, hsame⟩ := X.leave (v := some (.double x)) (fun hh => by rw [hret] at hh; cases hh) hlk
  exact ⟨_, _, st _ (retOut X hx hret rfl (Or.inr (Or.inr (Or.inl ⟨rfl, rfl, _, rfl⟩))) (hb hby hd) hr), hrun, hended, _, _, rfl, ⟨by rw [show (T.setFrames fs).heap = h from eT]; exact hQ, N⟩, ⟨_, rfl⟩, hW, hsame.mono hc hs⟩
theorem Wk.retA {rt : FieldType} {v : Value} (w : Wk κ l Z own nm code ml (some rt) R n0 h cells slots pc Ls (v :: St)) {Q : Option Value → Heap → Prop} {C S : Nat} (hd : decode code pc = .ok (.areturn, 1)) (hrt : rt.isReference = true) (hn : narrow rt v = v) (hv : v.isRef = true) (hQ : Q (some v) h) (hc : cells ≤ C) (hs : slots ≤ S) : Dn κ n0 Q C S := by
  obtain ⟨p, e, s, m, args, below, meth, c, S0⟩ := κ
  obtain ⟨⟨hx, hby, hml, hret, hlk, hnm, hZ, hown⟩, T, locs, X, N, eT, st⟩ := w
  obtain ⟨fs, hr, hrun, hended, hW, hsame⟩ := X.leave (v := some v) (fun hh => by rw [hret] at hh; cases hh) hlk
  exact ⟨_, _, st _ (retOut X hx hret hn (Or.inr (Or.inr (Or.inr (Or.inr ⟨rfl, hrt, hv⟩)))) (hb hby hd) hr), hrun, hended, _, _, rfl, ⟨by rw [show (T.setFrames fs).heap = h from eT]; exact hQ, N⟩, ⟨_, rfl⟩, hW, hsame.mono hc hs⟩
theorem Wk.retV (w : Wk κ l Z own nm code ml none R n0 h cells slots pc Ls []) {Q : Option Value → Heap → Prop} {C S : Nat} (hd : decode code pc = .ok (.return_, 1)) (hQ : Q none h) (hc : cells ≤ C) (hs : slots ≤ S) : Dn κ n0 Q C S := by
  obtain ⟨p, e, s, m, args, below, meth, c, S0⟩ := κ
  obtain ⟨⟨hx, hby, hml, hret, hlk, hnm, hZ, hown⟩, T, locs, X, N, eT, st⟩ := w
  obtain ⟨fs, hr, hrun, hended, hW, hsame⟩ := X.leave (v := none) (fun hh => rfl) hlk
  exact ⟨_, _, st _ (X.returnOut hx hret (hb hby hd) hr), hrun, hended, _, _, rfl, ⟨by rw [show (T.setFrames fs).heap = h from eT]; exact hQ, N⟩, ⟨_, rfl⟩, hW, hsame.mono hc hs⟩
/-! the heap -/
theorem Wk.getF {a : Nat} (w : Wk κ l Z own nm code ml ret R n0 h cells slots pc Ls (.ref a :: St)) {O n d : String} {i : Nat} {v : Value} (wd : (Cond.fieldLink own i O n d).before a0 Z = true) (F : Fld Z h a O n d v) (hd : decode code pc = .ok (.getfield i, 3)) (hq : pc + 3 = q) : Wk κ l Z own nm code ml ret R n0 h cells slots q Ls (v :: St) := by
  subst hq; exact w.stepT fun hx hby _ hZ hown X eT => Jvm.RoadKit.getF X hx hZ hown (host := "") (Or.inl wd) Via.refl eT F (g := mkF _ pc Ls _) rfl rfl (hb hby hd)
theorem Wk.getS (w : Wk κ l Z own nm code ml ret R n0 h cells slots pc Ls St) {O n d : String} {i : Nat} {v : Value} (wd : (Cond.fieldLink own i O n d).before a0 Z = true) (F : Sta Z h O n d v) (hd : decode code pc = .ok (.getstatic i, 3)) (hq : pc + 3 = q) : Wk κ l Z own nm code ml ret R n0 h cells slots q Ls (v :: St) := by
  subst hq; exact w.stepT fun hx hby _ hZ hown X eT => Jvm.RoadKit.getS X hx hZ hown (host := "") wd Via.refl eT F (g := mkF _ pc Ls _) rfl (hb hby hd)
theorem Wk.putF {a : Nat} {v old : Value} (w : Wk κ l Z own nm code ml ret R n0 h cells slots pc Ls (v :: .ref a :: St)) {O n d C : String} {i kk : Nat} {ty : FieldType} (wd : (Cond.fieldLink own i O n d).before a0 Z = true) (F : Fld Z h a O n d old) (E : Exa Z h a C) (L : (Cond.lays C O n d).before a0 Z = true ∨ ((Cond.laysFinal C O n d).before a0 Z = true ∧ own = O ∧ nm = "<init>")) (wi : (Cond.instantiable C kk).before a0 Z = true)
    (hty : parseFieldDescriptor d = some ty) (hn : narrow ty v = v) (hf : fits ty v = true) (hd : decode code pc = .ok (.putfield i, 3)) (ge : n0 ≤ a) (hq : pc + 3 = q) : ∃ h', Wr h h' a (Jvm.RoadKit.slotOf Z O n d) v ∧ Wk κ l Z own nm code ml ret R n0 h' cells slots q Ls St := by
  obtain ⟨p, e, s, m, args, below, meth, c, S0⟩ := κ
  obtain ⟨hs, T, locs, X, N, eT, st⟩ := w
  subst hq
  obtain ⟨T', h', X', e', W, st'⟩ := Jvm.RoadKit.putF X hs.1 hs.2.2.2.2.2.2.1 hs.2.2.2.2.2.2.2 (host := "") (Or.inl wd) Via.refl eT F E (L.imp id fun q => ⟨q.1, q.2.1, hs.2.2.2.2.2.1.trans q.2.2⟩) wi hty hn hf (g := mkF m pc Ls _) rfl rfl (hb hs.2.1 hd)
  exact ⟨h', W, hs, T', _, X', Fr.snoc X' N ge, e', fun t k => st t (st' t k)⟩
theorem Wk.newO (w : Wk κ l Z own nm code ml ret R n0 h cells slots pc Ls St) {C : String} {i n : Nat} (w1 : (Cond.classLink own i C).before a0 Z = true) (w2 : (Cond.instantiable C n).before a0 Z = true) (w3 : (Cond.initialized C).before a0 Z = true) (hd : decode code pc = .ok (.new i, 3)) (hc : cells + 1 ≤ R.cells) (hl : slots + n ≤ R.slots) (hq : pc + 3 = q) :
    ∃ (h' : Heap) (a : Nat), a = h.size ∧ Ext h h' ∧ Exa Z h' a C ∧ (∀ {O nm d : String} {ty : FieldType}, Laid Z a0 C O nm d → parseFieldDescriptor d = some ty → Fld Z h' a O nm d (defaultValue ty)) ∧ Wk κ l Z own nm code ml ret R n0 h' (cells + 1) (slots + n) q Ls (.ref a :: St) := by
  obtain ⟨p, e, s, m, args, below, meth, c, S0⟩ := κ
  obtain ⟨hs, T, locs, X, N, eT, st⟩ := w
  subst hq
  obtain ⟨T', h', X', e', E, A, D, -, st'⟩ := Jvm.RoadKit.newO X hs.1 hs.2.2.2.2.2.2.1 hs.2.2.2.2.2.2.2 w1 w2 w3 eT (g := mkF m pc Ls St) rfl (hb hs.2.1 hd) hc hl
  exact ⟨h', _, rfl, E, A, D, hs, T', _, X', N, e', fun t k => st t (st' t k)⟩
theorem Wk.newP {z : Int32} (w : Wk κ l Z own nm code ml ret R n0 h cells slots pc Ls (.int z :: St)) {aty : ArrayType} {ty : FieldType} (w1 : (Cond.arrayClass ty).before a0 Z = true) (hty : newarray.typeOf aty = ty) (hd : decode code pc = .ok (.newarray aty, 2)) (hn : ¬ z < 0) {cap : Nat} (hcap : z.toNatClampNeg ≤ cap) (hbig : cap * 8 ≤ 536870912) (hc : cells + 1 ≤ R.cells) (hl : slots + cap ≤ R.slots) (hq : pc + 2 = q) :
    ∃ (h' : Heap) (a : Nat) (cA : ClassId), a = h.size ∧ Ext h h' ∧ Arr Z h' a (newA cA ty z) ty ∧ Wk κ l Z own nm code ml ret R n0 h' (cells + 1) (slots + cap) q Ls (.ref a :: St) := by
  obtain ⟨p, e, s, m, args, below, meth, c, S0⟩ := κ
  obtain ⟨hs, T, locs, X, N, eT, st⟩ := w
  subst hq hty
  obtain ⟨T', h', cA, X', e', E, A, st'⟩ := Jvm.RoadKit.newP X hs.1 hs.2.2.2.2.2.2.1 w1 eT (g := mkF m pc Ls _) rfl (hb hs.2.1 hd) rfl hn hcap hbig hc hl
  exact ⟨h', _, cA, rfl, E, A, hs, T', _, X', N, e', fun t k => st t (st' t k)⟩
theorem Wk.newR {z : Int32} (w : Wk κ l Z own nm code ml ret R n0 h cells slots pc Ls (.int z :: St)) {C : String} {i : Nat} (w1 : (Cond.classLink own i C).before a0 Z = true) (w2 : (Cond.arrayOver (.object C)).before a0 Z = true) (hd : decode code pc = .ok (.anewarray i, 3)) (hn : ¬ z < 0) {cap : Nat} (hcap : z.toNatClampNeg ≤ cap) (hbig : cap * 8 ≤ 536870912) (hc : cells + 1 ≤ R.cells) (hl : slots + cap ≤ R.slots) (hq : pc + 3 = q) :
    ∃ (h' : Heap) (a : Nat) (cA : ClassId), a = h.size ∧ Ext h h' ∧ Arr Z h' a (newA cA (.object C) z) (.object C) ∧ Ovr Z cA C ∧ Wk κ l Z own nm code ml ret R n0 h' (cells + 1) (slots + cap) q Ls (.ref a :: St) := by
  obtain ⟨p, e, s, m, args, below, meth, c, S0⟩ := κ
  obtain ⟨hs, T, locs, X, N, eT, st⟩ := w
  subst hq
  obtain ⟨T', h', cA, X', e', E, A, O, st'⟩ := Jvm.RoadKit.newR X hs.1 hs.2.2.2.2.2.2.1 hs.2.2.2.2.2.2.2 w1 w2 eT (g := mkF m pc Ls _) rfl (hb hs.2.1 hd) rfl hn hcap hbig hc hl
  exact ⟨h', _, cA, rfl, E, A, O, hs, T', _, X', N, e', fun t k => st t (st' t k)⟩
theorem Wk.stI {a : Nat} {j x : Int32} (w : Wk κ l Z own nm code ml ret R n0 h cells slots pc Ls (.int x :: .int j :: .ref a :: St)) {cl : Cell} (A : Arr Z h a cl .int) (hj : ¬ (j < 0 ∨ cl.slots.size ≤ j.toNatClampNeg)) (hd : decode code pc = .ok (.iastore, 1)) (ge : n0 ≤ a) (hq : pc + 1 = q) : ∃ h', Wr h h' a j.toNatClampNeg (.int x) ∧ Wk κ l Z own nm code ml ret R n0 h' cells slots q Ls St := by
  obtain ⟨p, e, s, m, args, below, meth, c, S0⟩ := κ
  obtain ⟨hs, T, locs, X, N, eT, st⟩ := w
  subst hq
  obtain ⟨T', h', X', e', W, st'⟩ := Jvm.RoadKit.stI X hs.1 hs.2.2.2.2.2.2.1 eT A hj (g := mkF m pc Ls _) rfl rfl (hb hs.2.1 hd)
  exact ⟨h', W, hs, T', _, X', Fr.snoc X' N ge, e', fun t k => st t (st' t k)⟩
theorem Wk.stB {a : Nat} {j x : Int32} (w : Wk κ l Z own nm code ml ret R n0 h cells slots pc Ls (.int x :: .int j :: .ref a :: St)) {cl : Cell} (A : Arr Z h a cl .byte) (hj : ¬ (j < 0 ∨ cl.slots.size ≤ j.toNatClampNeg)) (hd : decode code pc = .ok (.bastore, 1)) (ge : n0 ≤ a) (hq : pc + 1 = q) : ∃ h', Wr h h' a j.toNatClampNeg (.int (nar .byte x)) ∧ Wk κ l Z own nm code ml ret R n0 h' cells slots q Ls St := by
  obtain ⟨p, e, s, m, args, below, meth, c, S0⟩ := κ
  obtain ⟨hs, T, locs, X, N, eT, st⟩ := w
  subst hq
  obtain ⟨T', h', X', e', W, st'⟩ := Jvm.RoadKit.stB X hs.1 hs.2.2.2.2.2.2.1 eT A hj (g := mkF m pc Ls _) rfl rfl (hb hs.2.1 hd)
  exact ⟨h', W, hs, T', _, X', Fr.snoc X' N ge, e', fun t k => st t (st' t k)⟩
theorem Wk.stD {a : Nat} {j : Int32} {x : UInt64} (w : Wk κ l Z own nm code ml ret R n0 h cells slots pc Ls (.double x :: .int j :: .ref a :: St)) {cl : Cell} (A : Arr Z h a cl .double) (hj : ¬ (j < 0 ∨ cl.slots.size ≤ j.toNatClampNeg)) (hd : decode code pc = .ok (.dastore, 1)) (ge : n0 ≤ a) (hq : pc + 1 = q) : ∃ h', Wr h h' a j.toNatClampNeg (.double x) ∧ Wk κ l Z own nm code ml ret R n0 h' cells slots q Ls St := by
  obtain ⟨p, e, s, m, args, below, meth, c, S0⟩ := κ
  obtain ⟨hs, T, locs, X, N, eT, st⟩ := w
  subst hq
  obtain ⟨T', h', X', e', W, st'⟩ := Jvm.RoadKit.stD X hs.1 hs.2.2.2.2.2.2.1 eT A hj (g := mkF m pc Ls _) rfl rfl (hb hs.2.1 hd)
  exact ⟨h', W, hs, T', _, X', Fr.snoc X' N ge, e', fun t k => st t (st' t k)⟩
theorem Wk.stR {a : Nat} {j : Int32} {v : Value} (w : Wk κ l Z own nm code ml ret R n0 h cells slots pc Ls (v :: .int j :: .ref a :: St)) {cl : Cell} {ty : FieldType} (A : Arr Z h a cl ty) (hj : ¬ (j < 0 ∨ cl.slots.size ≤ j.toNatClampNeg)) (hty : ty.isReference = true) (F : Sto Z h a v) (hd : decode code pc = .ok (.aastore, 1)) (ge : n0 ≤ a) (hq : pc + 1 = q) : ∃ h', Wr h h' a j.toNatClampNeg v ∧ Wk κ l Z own nm code ml ret R n0 h' cells slots q Ls St := by
  obtain ⟨p, e, s, m, args, below, meth, c, S0⟩ := κ
  obtain ⟨hs, T, locs, X, N, eT, st⟩ := w
  subst hq
  obtain ⟨T', h', X', e', W, st'⟩ := Jvm.RoadKit.stR X hs.1 hs.2.2.2.2.2.2.1 eT A hj hty F (g := mkF m pc Ls _) rfl rfl (hb hs.2.1 hd)
  exact ⟨h', W, hs, T', _, X', Fr.snoc X' N ge, e', fun t k => st t (st' t k)⟩
theorem Wk.ldI {a : Nat} {j : Int32} {v : Value} (w : Wk κ l Z own nm code ml ret R n0 h cells slots pc Ls (.int j :: .ref a :: St)) {cl : Cell} (A : Arr Z h a cl .int) (hj : ¬ (j < 0 ∨ cl.slots.size ≤ j.toNatClampNeg)) (hv : cl.slots[j.toNatClampNeg]? = some v) (hd : decode code pc = .ok (.iaload, 1)) (hq : pc + 1 = q) : Wk κ l Z own nm code ml ret R n0 h cells slots q Ls (v :: St) := by
  subst hq; exact w.stepX fun hx hby hZ _ X eT k => X.iaload hx (j := j) (v := v) (by rw [eT]; exact A.1) (State.isArrayOf_alike hZ.alike A.2.1) A.2.2 hj hv (g := mkF _ pc Ls _) rfl rfl (hb hby hd) _ k
theorem Wk.ldB {a : Nat} {j : Int32} {v : Value} (w : Wk κ l Z own nm code ml ret R n0 h cells slots pc Ls (.int j :: .ref a :: St)) {cl : Cell} (A : Arr Z h a cl .byte) (hj : ¬ (j < 0 ∨ cl.slots.size ≤ j.toNatClampNeg)) (hv : cl.slots[j.toNatClampNeg]? = some v) (hd : decode code pc = .ok (.baload, 1)) (hq : pc + 1 = q) : Wk κ l Z own nm code ml ret R n0 h cells slots q Ls (v :: St) := by
  subst hq; exact w.stepX fun hx hby hZ _ X eT k => X.baloadBytes hx (j := j) (v := v) (by rw [eT]; exact A.1) (State.isArrayOf_alike hZ.alike A.2.1) A.2.2 hj hv (g := mkF _ pc Ls _) rfl rfl (hb hby hd) _ k
theorem Wk.ldD {a : Nat} {j : Int32} {v : Value} (w : Wk κ l Z own nm code ml ret R n0 h cells slots pc Ls (.int j :: .ref a :: St)) {cl : Cell} (A : Arr Z h a cl .double) (hj : ¬ (j < 0 ∨ cl.slots.size ≤ j.toNatClampNeg)) (hv : cl.slots[j.toNatClampNeg]? = some v) (hd : decode code pc = .ok (.daload, 1)) (hq : pc + 1 = q) : Wk κ l Z own nm code ml ret R n0 h cells slots q Ls (v :: St) := by
  subst hq; exact w.stepX fun hx hby hZ _ X eT k => X.daload hx (j := j) (v := v) (by rw [eT]; exact A.1) (State.isArrayOf_alike hZ.alike A.2.1) A.2.2 hj hv (g := mkF _ pc Ls _) rfl rfl (hb hby hd) _ k
theorem Wk.ldR {a : Nat} {j : Int32} {v : Value} (w : Wk κ l Z own nm code ml ret R n0 h cells slots pc Ls (.int j :: .ref a :: St)) {cl : Cell} {ty : FieldType} (A : Arr Z h a cl ty) (hty : ty.isReference = true) (hj : ¬ (j < 0 ∨ cl.slots.size ≤ j.toNatClampNeg)) (hv : cl.slots[j.toNatClampNeg]? = some v) (hd : decode code pc = .ok (.aaload, 1)) (hq : pc + 1 = q) : Wk κ l Z own nm code ml ret R n0 h cells slots q Ls (v :: St) := by
  subst hq; exact w.stepX fun hx hby hZ _ X eT k => X.aaload hx (j := j) (v := v) (by rw [eT]; exact A.1) (State.isArrayOf_alike hZ.alike A.2.1) hty A.2.2 hj hv (g := mkF _ pc Ls _) rfl rfl (hb hby hd) _ k
theorem Wk.len {a : Nat} {z : Int32} (w : Wk κ l Z own nm code ml ret R n0 h cells slots pc Ls (.ref a :: St)) {cl : Cell} {ty : FieldType} (A : Arr Z h a cl ty) (hz : cl.slots.size.toInt32 = z) (hd : decode code pc = .ok (.arraylength, 1)) (hq : pc + 1 = q) : Wk κ l Z own nm code ml ret R n0 h cells slots q Ls (.int z :: St) := by
  subst hq hz; exact w.stepX fun hx hby hZ _ X eT k => X.arraylength hx (by rw [eT]; exact A.1) (State.isArrayOf_alike hZ.alike A.2.1) (g := mkF _ pc Ls _) rfl rfl (hb hby hd) _ k
/-! calls -/
theorem Wk.initO {a : Nat} (w : Wk κ l Z own nm code ml ret R n0 h cells slots pc Ls (.ref a :: St)) {i : Nat} (w1 : (Cond.methodLink own i Lib.objectInit).before a0 Z = true) (w2 : (Cond.instanceMethod Lib.objectInit).before a0 Z = true) (w3 : (Cond.code Lib.objectInit ⟨#[0xb1]⟩ 1 none).before a0 Z = true) (hd : decode code pc = .ok (.invokespecial i, 3)) (hsz : Ls.size = ml) (hf : 1 ≤ R.frames) {W : Nat} (hW : (St.map fun v => v.category).sum ≤ W) (hl : W + 12 ≤ R.locals) (hq : pc + 3 = q) : Wk κ l Z own nm code ml ret R n0 h cells slots q Ls St := by
  subst hq; exact w.stepT fun hx hby hml hZ hown X eT => Jvm.RoadKit.initO X hx hZ hown w1 w2 w3 eT (g := mkF _ pc Ls _) rfl (hsz.trans hml.symm) rfl (hb hby hd) hf (W := W) (by show 2 * 0 + _ ≤ _; omega) hl
theorem Wk.callS (w : Wk κ l Z own nm code ml ret R n0 h cells slots pc Ls St) {y : MethodName} {i : Nat} {by0 : ByteArray} {ml' : Nat} {rt : Option FieldType} {rm : Room} {Q : Option Value → Heap → Prop} {argsL rest : List Value} (hM : Met l Z y by0 ml' rt rm n0 argsL.toArray h Q)
    (w1 : (Cond.methodLink own i y).before a0 Z = true) (w2 : (Cond.static y).before a0 Z = true) (w3 : (Cond.initialized y.cls).before a0 Z = true) (w4 : (Cond.code y by0 ml' rt).before a0 Z = true) (hy : y.cls ≠ "java/lang/invoke/MethodHandle" ∧ y.cls ≠ "java/lang/invoke/VarHandle")
    (hd : decode code pc = .ok (.invokestatic i, 3)) (hlen : ∀ sig, parseMethodDescriptor y.desc = some sig → argsL.length = sig.parameters.length) (hst : St = argsL.reverse ++ rest) (hsz : Ls.size = ml) (hf : rm.frames + 1 ≤ R.frames) {W : Nat} (hW : (rest.map fun v => v.category).sum ≤ W) (hl : W + (ml' + 11) + rm.locals ≤ R.locals) (hc : cells + rm.cells ≤ R.cells) (hs : slots + rm.slots ≤ R.slots) (hq : pc + 3 = q) :
    ∃ v h', Q v h' ∧ ∀ St', v.toList ++ rest = St' → Wk κ l Z own nm code ml ret R n0 h' (cells + rm.cells) (slots + rm.slots) q Ls St' := by
  obtain ⟨p, e, s, m, args, below, meth, c, S0⟩ := κ
  obtain ⟨g1, T, locs, X, N, eT, st⟩ := w
  subst hq hst
  have hZ := g1.2.2.2.2.2.2.1
  obtain ⟨v, _, ⟨T', L', k', n'⟩, -, X', ⟨Lc, hQ, l1, y1, z1⟩, st'⟩ := Jvm.LawKit.callS X g1.1 (y := y) g1.2.2.2.2.2.2.2 (mvT hZ w1) (mvT hZ w2) (mvT hZ w3) (mvT hZ w4) hy (backOf (W := W) (Q := fun v h L => Q v h ∧ Fr n0 L) (hM []) hZ w4 w3 hf hl) (g := mkF m pc Ls _) rfl (hsz.trans g1.2.2.1.symm) (argsL := argsL) (rest := rest) hlen rfl (by show 2 * 0 + _ ≤ _; omega) (hb g1.2.1 hd) (fun _ _ => ⟨rfl, eT, hc, hs⟩)
  dsimp only [Pt.U, Pt.locs, Pt.cells, Pt.slots] at X' l1 y1 z1 st' hQ
  subst l1 y1 z1
  exact ⟨v, _, hQ.1, fun St' hS => by subst hS; exact ⟨g1, T', _, X', N.app hQ.2, rfl, fun t k => st t (st' t k)⟩⟩
theorem Wk.callI {a : Nat} (w : Wk κ l Z own nm code ml ret R n0 h cells slots pc Ls St) {y : MethodName} {i : Nat} {by0 : ByteArray} {ml' : Nat} {rm : Room} {Q : Option Value → Heap → Prop} {argsL rest : List Value} (hM : Met l Z y by0 ml' none rm n0 (.ref a :: argsL).toArray h Q) (hy1 : y.name = "<init>")
    (w1 : (Cond.methodLink own i y).before a0 Z = true) (w2 : (Cond.instanceMethod y).before a0 Z = true) (w3 : (Cond.initialized y.cls).before a0 Z = true) (w4 : (Cond.code y by0 ml' none).before a0 Z = true) (hy : y.cls ≠ "java/lang/invoke/MethodHandle" ∧ y.cls ≠ "java/lang/invoke/VarHandle")
    (hd : decode code pc = .ok (.invokespecial i, 3)) (hlen : ∀ sig, parseMethodDescriptor y.desc = some sig → argsL.length = sig.parameters.length) (hst : St = argsL.reverse ++ .ref a :: rest) (hsz : Ls.size = ml) (hf : rm.frames + 1 ≤ R.frames) {W : Nat} (hW : (rest.map fun v => v.category).sum ≤ W) (hl : W + (ml' + 11) + rm.locals ≤ R.locals) (hc : cells + rm.cells ≤ R.cells) (hs : slots + rm.slots ≤ R.slots) (hq : pc + 3 = q) :
    ∃ v h', Q v h' ∧ ∀ St', v.toList ++ rest = St' → Wk κ l Z own nm code ml ret R n0 h' (cells + rm.cells) (slots + rm.slots) q Ls St' := by
  obtain ⟨p, e, s, m, args, below, meth, c, S0⟩ := κ
  obtain ⟨g1, T, locs, X, N, eT, st⟩ := w
  subst hq hst
  have hZ := g1.2.2.2.2.2.2.1
  obtain ⟨v, _, ⟨T', L', k', n'⟩, -, X', ⟨Lc, hQ, l1, y1, z1⟩, st'⟩ := X.specialBack g1.1 (y := y) hy1 g1.2.2.2.2.2.2.2 (mvT hZ w1) (mvT hZ w2) (mvT hZ w4) hy (backOf (W := W) (Q := fun v h L => Q v h ∧ Fr n0 L) (hM []) hZ w4 w3 hf hl) (g := mkF m pc Ls _) rfl (hsz.trans g1.2.2.1.symm) (Steps.refl _) (a := a) (argsL := argsL) (rest := rest) hlen rfl (by show 2 * 0 + _ ≤ _; omega) (hb g1.2.1 hd) (fun _ _ => ⟨rfl, eT, hc, hs⟩)
  dsimp only [Pt.U, Pt.locs, Pt.cells, Pt.slots] at X' l1 y1 z1 st' hQ
  subst l1 y1 z1
  exact ⟨v, _, hQ.1, fun St' hS => by subst hS; exact ⟨g1, T', _, X', N.app hQ.2, rfl, fun t k => st t (st'.trans k)⟩⟩
theorem Wk.callV {a : Nat} (w : Wk κ l Z own nm code ml ret R n0 h cells slots pc Ls St) {y : MethodName} {C : String} {i : Nat} {by0 : ByteArray} {ml' : Nat} {rt : Option FieldType} {rm : Room} {Q : Option Value → Heap → Prop} {argsL rest : List Value} (hM : Met l Z y by0 ml' rt rm n0 (.ref a :: argsL).toArray h Q) (E : Exa Z h a C)
    (w1 : (Cond.methodLink own i y).before a0 Z = true) (w5 : (Cond.declares y).before a0 Z = true) (w6 : (Cond.selects C y y).before a0 Z = true) (w2 : (Cond.instanceMethod y).before a0 Z = true) (w3 : (Cond.initialized y.cls).before a0 Z = true) (w4 : (Cond.code y by0 ml' rt).before a0 Z = true) (hy : y.cls ≠ "java/lang/invoke/MethodHandle" ∧ y.cls ≠ "java/lang/invoke/VarHandle")
    (hd : decode code pc = .ok (.invokevirtual i, 3)) (hlen : ∀ sig, parseMethodDescriptor y.desc = some sig → argsL.length = sig.parameters.length) (hst : St = argsL.reverse ++ .ref a :: rest) (hsz : Ls.size = ml) (hf : rm.frames + 1 ≤ R.frames) {W : Nat} (hW : (rest.map fun v => v.category).sum ≤ W) (hl : W + (ml' + 11) + rm.locals ≤ R.locals) (hc : cells + rm.cells ≤ R.cells) (hs : slots + rm.slots ≤ R.slots) (hq : pc + 3 = q) :
    ∃ v h', Q v h' ∧ ∀ St', v.toList ++ rest = St' → Wk κ l Z own nm code ml ret R n0 h' (cells + rm.cells) (slots + rm.slots) q Ls St' := by
  obtain ⟨p, e, s, m, args, below, meth, c, S0⟩ := κ
  obtain ⟨g1, T, locs, X, N, eT, st⟩ := w
  subst hq hst
  have hZ := g1.2.2.2.2.2.2.1
  obtain ⟨cq, kq, qa, qb, qc⟩ := isOf hZ eT E
  obtain ⟨v, _, ⟨T', L', k', n'⟩, -, X', ⟨Lc, hQ, l1, y1, z1⟩, st'⟩ := X.virtualBack g1.1 (y := y) (z := y) g1.2.2.2.2.2.2.2 (mvT hZ w1) (mvT hZ w5) (notFace_of_selects (args := #[]) (mvT hZ w6)) (mvT hZ w6) (mvT hZ w2) hy (backOf (W := W) (Q := fun v h L => Q v h ∧ Fr n0 L) (hM []) hZ w4 w3 hf hl) qa qc (g := mkF m pc Ls _) rfl (hsz.trans g1.2.2.1.symm) (Steps.refl _) (argsL := argsL) (rest := rest) hlen rfl (by show 2 * 0 + _ ≤ _; omega) (hb g1.2.1 hd) (fun _ _ => ⟨rfl, eT, hc, hs⟩)
  dsimp only [Pt.U, Pt.locs, Pt.cells, Pt.slots] at X' l1 y1 z1 st' hQ
  subst l1 y1 z1
  exact ⟨v, _, hQ.1, fun St' hS => by subst hS; exact ⟨g1, T', _, X', N.app hQ.2, rfl, fun t k => st t (st'.trans k)⟩⟩
end Own
end Jvm.OwnKit
namespace Jvm.Pilot.@@N@@
open Jvm Jvm.ClassFile Sem Op Lib Jvm.Free Jvm.Stand Jvm.LawKit Jvm.RoadKit Jvm.OwnKit Bundle Jvm.Pilot.@@N@@.Jvm.D
theorem pn_0 : plainName "com/example/weaverbird/weaverbird/alignment/Subgradient" = true := by first | (simp [plainName, overriddenIn]; done) | decide +kernel
theorem pn_1 : plainName "com/example/weaverbird/weaverbird/alignment/SubgradientLowersPinLaw" = true := by first | (simp [plainName, overriddenIn]; done) | decide +kernel
theorem pd_0 : parseMethodDescriptor "(DIID)V" = some ⟨[.double, .int, .int, .double], none⟩ := by decide +kernel
theorem pd_1 : parseMethodDescriptor "(DI)V" = some ⟨[.double, .int], none⟩ := by decide +kernel
theorem pd_2 : parseMethodDescriptor "(D)Z" = some ⟨[.double], (some .boolean)⟩ := by decide +kernel
theorem pd_3 : parseMethodDescriptor "(II)I" = some ⟨[.int, .int], (some .int)⟩ := by decide +kernel
theorem pd_4 : parseMethodDescriptor "()D" = some ⟨[], (some .double)⟩ := by decide +kernel
theorem pd_5 : parseMethodDescriptor "()I" = some ⟨[], (some .int)⟩ := by decide +kernel
theorem dp86m1_0 : decode prog_86_method_1_code 0 = .ok (.aload_n 0, 1) := by decide +kernel
theorem dp86m1_1 : decode prog_86_method_1_code 1 = .ok (.dload_n 1, 1) := by decide +kernel
theorem dp86m1_2 : decode prog_86_method_1_code 2 = .ok (.iload_n 3, 1) := by decide +kernel
theorem dp86m1_3 : decode prog_86_method_1_code 3 = .ok (.bipush 30, 2) := by decide +kernel
theorem dp86m1_5 : decode prog_86_method_1_code 5 = .ok (.ldc2_w 3, 3) := by decide +kernel
theorem dp86m1_8 : decode prog_86_method_1_code 8 = .ok (.invokespecial 5, 3) := by decide +kernel
theorem dp86m1_11 : decode prog_86_method_1_code 11 = .ok (.return_, 1) := by decide +kernel
theorem dp86m2_0 : decode prog_86_method_2_code 0 = .ok (.aload_n 0, 1) := by decide +kernel
theorem dp86m2_1 : decode prog_86_method_2_code 1 = .ok (.invokespecial 9, 3) := by decide +kernel
theorem dp86m2_4 : decode prog_86_method_2_code 4 = .ok (.aload_n 0, 1) := by decide +kernel
theorem dp86m2_5 : decode prog_86_method_2_code 5 = .ok (.ldc2_w 16, 3) := by decide +kernel
theorem dp86m2_8 : decode prog_86_method_2_code 8 = .ok (.putfield 18, 3) := by decide +kernel
theorem dp86m2_11 : decode prog_86_method_2_code 11 = .ok (.aload_n 0, 1) := by decide +kernel
theorem dp86m2_12 : decode prog_86_method_2_code 12 = .ok (.ldc2_w 22, 3) := by decide +kernel
theorem dp86m2_15 : decode prog_86_method_2_code 15 = .ok (.putfield 24, 3) := by decide +kernel
theorem dp86m2_18 : decode prog_86_method_2_code 18 = .ok (.aload_n 0, 1) := by decide +kernel
theorem dp86m2_19 : decode prog_86_method_2_code 19 = .ok (.dload_n 1, 1) := by decide +kernel
theorem dp86m2_20 : decode prog_86_method_2_code 20 = .ok (.putfield 27, 3) := by decide +kernel
theorem dp86m2_23 : decode prog_86_method_2_code 23 = .ok (.aload_n 0, 1) := by decide +kernel
theorem dp86m2_24 : decode prog_86_method_2_code 24 = .ok (.iload_n 3, 1) := by decide +kernel
theorem dp86m2_25 : decode prog_86_method_2_code 25 = .ok (.putfield 30, 3) := by decide +kernel
theorem dp86m2_28 : decode prog_86_method_2_code 28 = .ok (.aload_n 0, 1) := by decide +kernel
theorem dp86m2_29 : decode prog_86_method_2_code 29 = .ok (.iload 4, 2) := by decide +kernel
theorem dp86m2_31 : decode prog_86_method_2_code 31 = .ok (.putfield 34, 3) := by decide +kernel
theorem dp86m2_34 : decode prog_86_method_2_code 34 = .ok (.aload_n 0, 1) := by decide +kernel
theorem dp86m2_35 : decode prog_86_method_2_code 35 = .ok (.dload 5, 2) := by decide +kernel
theorem dp86m2_37 : decode prog_86_method_2_code 37 = .ok (.putfield 37, 3) := by decide +kernel
theorem dp86m2_40 : decode prog_86_method_2_code 40 = .ok (.return_, 1) := by decide +kernel
theorem dp86m6_0 : decode prog_86_method_6_code 0 = .ok (.aload_n 0, 1) := by decide +kernel
theorem dp86m6_1 : decode prog_86_method_6_code 1 = .ok (.dup, 1) := by decide +kernel
theorem dp86m6_2 : decode prog_86_method_6_code 2 = .ok (.getfield 42, 3) := by decide +kernel
theorem dp86m6_5 : decode prog_86_method_6_code 5 = .ok (.iconst 1, 1) := by decide +kernel
theorem dp86m6_6 : decode prog_86_method_6_code 6 = .ok (.iadd, 1) := by decide +kernel
theorem dp86m6_7 : decode prog_86_method_6_code 7 = .ok (.putfield 42, 3) := by decide +kernel
theorem dp86m6_10 : decode prog_86_method_6_code 10 = .ok (.dload_n 1, 1) := by decide +kernel
theorem dp86m6_11 : decode prog_86_method_6_code 11 = .ok (.aload_n 0, 1) := by decide +kernel
theorem dp86m6_12 : decode prog_86_method_6_code 12 = .ok (.getfield 18, 3) := by decide +kernel
theorem dp86m6_15 : decode prog_86_method_6_code 15 = .ok (.dcmp .g, 1) := by decide +kernel
theorem dp86m6_16 : decode prog_86_method_6_code 16 = .ok (.ifCond .ge 7, 3) := by decide +kernel
theorem dp86m6_19 : decode prog_86_method_6_code 19 = .ok (.iconst 1, 1) := by decide +kernel
theorem dp86m6_20 : decode prog_86_method_6_code 20 = .ok (.goto 4, 3) := by decide +kernel
theorem dp86m6_23 : decode prog_86_method_6_code 23 = .ok (.iconst 0, 1) := by decide +kernel
theorem dp86m6_24 : decode prog_86_method_6_code 24 = .ok (.istore_n 3, 1) := by decide +kernel
theorem dp86m6_25 : decode prog_86_method_6_code 25 = .ok (.dload_n 1, 1) := by decide +kernel
theorem dp86m6_26 : decode prog_86_method_6_code 26 = .ok (.aload_n 0, 1) := by decide +kernel
theorem dp86m6_27 : decode prog_86_method_6_code 27 = .ok (.getfield 18, 3) := by decide +kernel
theorem dp86m6_30 : decode prog_86_method_6_code 30 = .ok (.aload_n 0, 1) := by decide +kernel
theorem dp86m6_31 : decode prog_86_method_6_code 31 = .ok (.getfield 27, 3) := by decide +kernel
theorem dp86m6_34 : decode prog_86_method_6_code 34 = .ok (.dsub, 1) := by decide +kernel
theorem dp86m6_35 : decode prog_86_method_6_code 35 = .ok (.dcmp .g, 1) := by decide +kernel
theorem dp86m6_36 : decode prog_86_method_6_code 36 = .ok (.ifCond .ge 7, 3) := by decide +kernel
theorem dp86m6_39 : decode prog_86_method_6_code 39 = .ok (.iconst 1, 1) := by decide +kernel
theorem dp86m6_40 : decode prog_86_method_6_code 40 = .ok (.goto 4, 3) := by decide +kernel
theorem dp86m6_43 : decode prog_86_method_6_code 43 = .ok (.iconst 0, 1) := by decide +kernel
theorem dp86m6_44 : decode prog_86_method_6_code 44 = .ok (.istore 4, 2) := by decide +kernel
theorem dp86m6_46 : decode prog_86_method_6_code 46 = .ok (.iload_n 3, 1) := by decide +kernel
theorem dp86m6_47 : decode prog_86_method_6_code 47 = .ok (.ifCond .eq 8, 3) := by decide +kernel
theorem dp86m6_50 : decode prog_86_method_6_code 50 = .ok (.aload_n 0, 1) := by decide +kernel
theorem dp86m6_51 : decode prog_86_method_6_code 51 = .ok (.dload_n 1, 1) := by decide +kernel
theorem dp86m6_52 : decode prog_86_method_6_code 52 = .ok (.putfield 18, 3) := by decide +kernel
theorem dp86m6_55 : decode prog_86_method_6_code 55 = .ok (.iload 4, 2) := by decide +kernel
theorem dp86m6_57 : decode prog_86_method_6_code 57 = .ok (.ifCond .eq 11, 3) := by decide +kernel
theorem dp86m6_60 : decode prog_86_method_6_code 60 = .ok (.aload_n 0, 1) := by decide +kernel
theorem dp86m6_61 : decode prog_86_method_6_code 61 = .ok (.iconst 0, 1) := by decide +kernel
theorem dp86m6_62 : decode prog_86_method_6_code 62 = .ok (.putfield 45, 3) := by decide +kernel
theorem dp86m6_65 : decode prog_86_method_6_code 65 = .ok (.goto 38, 3) := by decide +kernel
theorem dp86m6_68 : decode prog_86_method_6_code 68 = .ok (.aload_n 0, 1) := by decide +kernel
theorem dp86m6_69 : decode prog_86_method_6_code 69 = .ok (.dup, 1) := by decide +kernel
theorem dp86m6_70 : decode prog_86_method_6_code 70 = .ok (.getfield 45, 3) := by decide +kernel
theorem dp86m6_73 : decode prog_86_method_6_code 73 = .ok (.iconst 1, 1) := by decide +kernel
theorem dp86m6_74 : decode prog_86_method_6_code 74 = .ok (.iadd, 1) := by decide +kernel
theorem dp86m6_75 : decode prog_86_method_6_code 75 = .ok (.dup_x1, 1) := by decide +kernel
theorem dp86m6_76 : decode prog_86_method_6_code 76 = .ok (.putfield 45, 3) := by decide +kernel
theorem dp86m6_79 : decode prog_86_method_6_code 79 = .ok (.aload_n 0, 1) := by decide +kernel
theorem dp86m6_80 : decode prog_86_method_6_code 80 = .ok (.getfield 34, 3) := by decide +kernel
theorem dp86m6_83 : decode prog_86_method_6_code 83 = .ok (.if_icmp .lt 20, 3) := by decide +kernel
theorem dp86m6_86 : decode prog_86_method_6_code 86 = .ok (.aload_n 0, 1) := by decide +kernel
theorem dp86m6_87 : decode prog_86_method_6_code 87 = .ok (.dup, 1) := by decide +kernel
theorem dp86m6_88 : decode prog_86_method_6_code 88 = .ok (.getfield 24, 3) := by decide +kernel
theorem dp86m6_91 : decode prog_86_method_6_code 91 = .ok (.ldc2_w 22, 3) := by decide +kernel
theorem dp86m6_94 : decode prog_86_method_6_code 94 = .ok (.ddiv, 1) := by decide +kernel
theorem dp86m6_95 : decode prog_86_method_6_code 95 = .ok (.putfield 24, 3) := by decide +kernel
theorem dp86m6_98 : decode prog_86_method_6_code 98 = .ok (.aload_n 0, 1) := by decide +kernel
theorem dp86m6_99 : decode prog_86_method_6_code 99 = .ok (.iconst 0, 1) := by decide +kernel
theorem dp86m6_100 : decode prog_86_method_6_code 100 = .ok (.putfield 45, 3) := by decide +kernel
theorem dp86m6_103 : decode prog_86_method_6_code 103 = .ok (.iload_n 3, 1) := by decide +kernel
theorem dp86m6_104 : decode prog_86_method_6_code 104 = .ok (.ireturn, 1) := by decide +kernel
theorem dj29m69_0 : decode jdk_29_method_69_code 0 = .ok (.iload_n 0, 1) := by decide +kernel
theorem dj29m69_1 : decode jdk_29_method_69_code 1 = .ok (.iload_n 1, 1) := by decide +kernel
theorem dj29m69_2 : decode jdk_29_method_69_code 2 = .ok (.if_icmp .gt 7, 3) := by decide +kernel
theorem dj29m69_5 : decode jdk_29_method_69_code 5 = .ok (.iload_n 0, 1) := by decide +kernel
theorem dj29m69_6 : decode jdk_29_method_69_code 6 = .ok (.goto 4, 3) := by decide +kernel
theorem dj29m69_9 : decode jdk_29_method_69_code 9 = .ok (.iload_n 1, 1) := by decide +kernel
theorem dj29m69_10 : decode jdk_29_method_69_code 10 = .ok (.ireturn, 1) := by decide +kernel
theorem dp86m10_0 : decode prog_86_method_10_code 0 = .ok (.aload_n 0, 1) := by decide +kernel
theorem dp86m10_1 : decode prog_86_method_10_code 1 = .ok (.getfield 18, 3) := by decide +kernel
theorem dp86m10_4 : decode prog_86_method_10_code 4 = .ok (.dreturn, 1) := by decide +kernel
theorem dp86m9_0 : decode prog_86_method_9_code 0 = .ok (.aload_n 0, 1) := by decide +kernel
theorem dp86m9_1 : decode prog_86_method_9_code 1 = .ok (.getfield 42, 3) := by decide +kernel
theorem dp86m9_4 : decode prog_86_method_9_code 4 = .ok (.ireturn, 1) := by decide +kernel
theorem dp86m11_0 : decode prog_86_method_11_code 0 = .ok (.aload_n 0, 1) := by decide +kernel
theorem dp86m11_1 : decode prog_86_method_11_code 1 = .ok (.getfield 24, 3) := by decide +kernel
theorem dp86m11_4 : decode prog_86_method_11_code 4 = .ok (.dreturn, 1) := by decide +kernel
def Sg (Z : State) (h : Heap) (a : Nat) (u_least u_factor u_leastProgress u_mostRounds u_stalledRounds u_leastFactor u_rounds u_stalled : Value) : Prop := Exa Z h a "com/example/weaverbird/weaverbird/alignment/Subgradient" ∧ Fld Z h a "com/example/weaverbird/weaverbird/alignment/Subgradient" "least" "D" u_least ∧ Fld Z h a "com/example/weaverbird/weaverbird/alignment/Subgradient" "factor" "D" u_factor ∧ Fld Z h a "com/example/weaverbird/weaverbird/alignment/Subgradient" "leastProgress" "D" u_leastProgress ∧ Fld Z h a "com/example/weaverbird/weaverbird/alignment/Subgradient" "mostRounds" "I" u_mostRounds ∧ Fld Z h a "com/example/weaverbird/weaverbird/alignment/Subgradient" "stalledRounds" "I" u_stalledRounds ∧ Fld Z h a "com/example/weaverbird/weaverbird/alignment/Subgradient" "leastFactor" "D" u_leastFactor ∧ Fld Z h a "com/example/weaverbird/weaverbird/alignment/Subgradient" "rounds" "I" u_rounds ∧ Fld Z h a "com/example/weaverbird/weaverbird/alignment/Subgradient" "stalled" "I" u_stalled
theorem Sg.ext {Z : State} {h h' : Heap} {a : Nat} {u_least u_factor u_leastProgress u_mostRounds u_stalledRounds u_leastFactor u_rounds u_stalled : Value} (S : Sg Z h a u_least u_factor u_leastProgress u_mostRounds u_stalledRounds u_leastFactor u_rounds u_stalled) (E : Ext h h') : Sg Z h' a u_least u_factor u_leastProgress u_mostRounds u_stalledRounds u_leastFactor u_rounds u_stalled := ⟨Exa.ext E S.1, Fld.ext E (S.2.1), Fld.ext E (S.2.2.1), Fld.ext E (S.2.2.2.1), Fld.ext E (S.2.2.2.2.1), Fld.ext E (S.2.2.2.2.2.1), Fld.ext E (S.2.2.2.2.2.2.1), Fld.ext E (S.2.2.2.2.2.2.2.1), Fld.ext E (S.2.2.2.2.2.2.2.2)⟩
theorem Sg.far {Z : State} {h h' : Heap} {a b : Nat} {u_least u_factor u_leastProgress u_mostRounds u_stalledRounds u_leastFactor u_rounds u_stalled u : Value} {sl : Nat} (S : Sg Z h a u_least u_factor u_leastProgress u_mostRounds u_stalledRounds u_leastFactor u_rounds u_stalled) (W : Wr h h' b sl u) (ne : a ≠ b) : Sg Z h' a u_least u_factor u_leastProgress u_mostRounds u_stalledRounds u_leastFactor u_rounds u_stalled := ⟨Exa.wr W S.1, Fld.other W (S.2.1) (Or.inl ne), Fld.other W (S.2.2.1) (Or.inl ne), Fld.other W (S.2.2.2.1) (Or.inl ne), Fld.other W (S.2.2.2.2.1) (Or.inl ne), Fld.other W (S.2.2.2.2.2.1) (Or.inl ne), Fld.other W (S.2.2.2.2.2.2.1) (Or.inl ne), Fld.other W (S.2.2.2.2.2.2.2.1) (Or.inl ne), Fld.other W (S.2.2.2.2.2.2.2.2) (Or.inl ne)⟩
theorem Sg.lt {Z : State} {h : Heap} {a : Nat} {u_least u_factor u_leastProgress u_mostRounds u_stalledRounds u_leastFactor u_rounds u_stalled : Value} (S : Sg Z h a u_least u_factor u_leastProgress u_mostRounds u_stalledRounds u_leastFactor u_rounds u_stalled) : a < h.size := S.1.lt
theorem Sg.put_least {Z : State} {h h' : Heap} {a : Nat} {u_least u_factor u_leastProgress u_mostRounds u_stalledRounds u_leastFactor u_rounds u_stalled u : Value} {a0 : Array Value} (S : Sg Z h a u_least u_factor u_leastProgress u_mostRounds u_stalledRounds u_leastFactor u_rounds u_stalled) (hw : ∀ d ∈ tables_1, d.before a0 Z = true) (W : Wr h h' a (Jvm.RoadKit.slotOf Z "com/example/weaverbird/weaverbird/alignment/Subgradient" "least" "D") u) : Sg Z h' a u u_factor u_leastProgress u_mostRounds u_stalledRounds u_leastFactor u_rounds u_stalled := ⟨Exa.wr W S.1, Fld.same W (S.2.1), Fld.other W (S.2.2.1) (Or.inr (slot_ne (C := "com/example/weaverbird/weaverbird/alignment/Subgradient") (Or.inl (hw _ (List.mem_of_getElem? (i := 18) rfl))) (Or.inl (hw _ (List.mem_of_getElem? (i := 15) rfl))) (by decide) (t := .double) (by decide) (t' := .double) (by decide))), Fld.other W (S.2.2.2.1) (Or.inr (slot_ne (C := "com/example/weaverbird/weaverbird/alignment/Subgradient") (Or.inr (hw _ (List.mem_of_getElem? (i := 20) rfl))) (Or.inl (hw _ (List.mem_of_getElem? (i := 15) rfl))) (by decide) (t := .double) (by decide) (t' := .double) (by decide))), Fld.other W (S.2.2.2.2.1) (Or.inr (slot_ne (C := "com/example/weaverbird/weaverbird/alignment/Subgradient") (Or.inr (hw _ (List.mem_of_getElem? (i := 22) rfl))) (Or.inl (hw _ (List.mem_of_getElem? (i := 15) rfl))) (by decide) (t := .int) (by decide) (t' := .double) (by decide))), Fld.other W (S.2.2.2.2.2.1) (Or.inr (slot_ne (C := "com/example/weaverbird/weaverbird/alignment/Subgradient") (Or.inr (hw _ (List.mem_of_getElem? (i := 24) rfl))) (Or.inl (hw _ (List.mem_of_getElem? (i := 15) rfl))) (by decide) (t := .int) (by decide) (t' := .double) (by decide))), Fld.other W (S.2.2.2.2.2.2.1) (Or.inr (slot_ne (C := "com/example/weaverbird/weaverbird/alignment/Subgradient") (Or.inr (hw _ (List.mem_of_getElem? (i := 26) rfl))) (Or.inl (hw _ (List.mem_of_getElem? (i := 15) rfl))) (by decide) (t := .double) (by decide) (t' := .double) (by decide))), Fld.other W (S.2.2.2.2.2.2.2.1) (Or.inr (slot_ne (C := "com/example/weaverbird/weaverbird/alignment/Subgradient") (Or.inl (hw _ (List.mem_of_getElem? (i := 33) rfl))) (Or.inl (hw _ (List.mem_of_getElem? (i := 15) rfl))) (by decide) (t := .int) (by decide) (t' := .double) (by decide))), Fld.other W (S.2.2.2.2.2.2.2.2) (Or.inr (slot_ne (C := "com/example/weaverbird/weaverbird/alignment/Subgradient") (Or.inl (hw _ (List.mem_of_getElem? (i := 35) rfl))) (Or.inl (hw _ (List.mem_of_getElem? (i := 15) rfl))) (by decide) (t := .int) (by decide) (t' := .double) (by decide)))⟩
theorem Sg.put_factor {Z : State} {h h' : Heap} {a : Nat} {u_least u_factor u_leastProgress u_mostRounds u_stalledRounds u_leastFactor u_rounds u_stalled u : Value} {a0 : Array Value} (S : Sg Z h a u_least u_factor u_leastProgress u_mostRounds u_stalledRounds u_leastFactor u_rounds u_stalled) (hw : ∀ d ∈ tables_1, d.before a0 Z = true) (W : Wr h h' a (Jvm.RoadKit.slotOf Z "com/example/weaverbird/weaverbird/alignment/Subgradient" "factor" "D") u) : Sg Z h' a u_least u u_leastProgress u_mostRounds u_stalledRounds u_leastFactor u_rounds u_stalled := ⟨Exa.wr W S.1, Fld.other W (S.2.1) (Or.inr (slot_ne (C := "com/example/weaverbird/weaverbird/alignment/Subgradient") (Or.inl (hw _ (List.mem_of_getElem? (i := 15) rfl))) (Or.inl (hw _ (List.mem_of_getElem? (i := 18) rfl))) (by decide) (t := .double) (by decide) (t' := .double) (by decide))), Fld.same W (S.2.2.1), Fld.other W (S.2.2.2.1) (Or.inr (slot_ne (C := "com/example/weaverbird/weaverbird/alignment/Subgradient") (Or.inr (hw _ (List.mem_of_getElem? (i := 20) rfl))) (Or.inl (hw _ (List.mem_of_getElem? (i := 18) rfl))) (by decide) (t := .double) (by decide) (t' := .double) (by decide))), Fld.other W (S.2.2.2.2.1) (Or.inr (slot_ne (C := "com/example/weaverbird/weaverbird/alignment/Subgradient") (Or.inr (hw _ (List.mem_of_getElem? (i := 22) rfl))) (Or.inl (hw _ (List.mem_of_getElem? (i := 18) rfl))) (by decide) (t := .int) (by decide) (t' := .double) (by decide))), Fld.other W (S.2.2.2.2.2.1) (Or.inr (slot_ne (C := "com/example/weaverbird/weaverbird/alignment/Subgradient") (Or.inr (hw _ (List.mem_of_getElem? (i := 24) rfl))) (Or.inl (hw _ (List.mem_of_getElem? (i := 18) rfl))) (by decide) (t := .int) (by decide) (t' := .double) (by decide))), Fld.other W (S.2.2.2.2.2.2.1) (Or.inr (slot_ne (C := "com/example/weaverbird/weaverbird/alignment/Subgradient") (Or.inr (hw _ (List.mem_of_getElem? (i := 26) rfl))) (Or.inl (hw _ (List.mem_of_getElem? (i := 18) rfl))) (by decide) (t := .double) (by decide) (t' := .double) (by decide))), Fld.other W (S.2.2.2.2.2.2.2.1) (Or.inr (slot_ne (C := "com/example/weaverbird/weaverbird/alignment/Subgradient") (Or.inl (hw _ (List.mem_of_getElem? (i := 33) rfl))) (Or.inl (hw _ (List.mem_of_getElem? (i := 18) rfl))) (by decide) (t := .int) (by decide) (t' := .double) (by decide))), Fld.other W (S.2.2.2.2.2.2.2.2) (Or.inr (slot_ne (C := "com/example/weaverbird/weaverbird/alignment/Subgradient") (Or.inl (hw _ (List.mem_of_getElem? (i := 35) rfl))) (Or.inl (hw _ (List.mem_of_getElem? (i := 18) rfl))) (by decide) (t := .int) (by decide) (t' := .double) (by decide)))⟩
theorem Sg.put_leastProgress {Z : State} {h h' : Heap} {a : Nat} {u_least u_factor u_leastProgress u_mostRounds u_stalledRounds u_leastFactor u_rounds u_stalled u : Value} {a0 : Array Value} (S : Sg Z h a u_least u_factor u_leastProgress u_mostRounds u_stalledRounds u_leastFactor u_rounds u_stalled) (hw : ∀ d ∈ tables_1, d.before a0 Z = true) (W : Wr h h' a (Jvm.RoadKit.slotOf Z "com/example/weaverbird/weaverbird/alignment/Subgradient" "leastProgress" "D") u) : Sg Z h' a u_least u_factor u u_mostRounds u_stalledRounds u_leastFactor u_rounds u_stalled := ⟨Exa.wr W S.1, Fld.other W (S.2.1) (Or.inr (slot_ne (C := "com/example/weaverbird/weaverbird/alignment/Subgradient") (Or.inl (hw _ (List.mem_of_getElem? (i := 15) rfl))) (Or.inr (hw _ (List.mem_of_getElem? (i := 20) rfl))) (by decide) (t := .double) (by decide) (t' := .double) (by decide))), Fld.other W (S.2.2.1) (Or.inr (slot_ne (C := "com/example/weaverbird/weaverbird/alignment/Subgradient") (Or.inl (hw _ (List.mem_of_getElem? (i := 18) rfl))) (Or.inr (hw _ (List.mem_of_getElem? (i := 20) rfl))) (by decide) (t := .double) (by decide) (t' := .double) (by decide))), Fld.same W (S.2.2.2.1), Fld.other W (S.2.2.2.2.1) (Or.inr (slot_ne (C := "com/example/weaverbird/weaverbird/alignment/Subgradient") (Or.inr (hw _ (List.mem_of_getElem? (i := 22) rfl))) (Or.inr (hw _ (List.mem_of_getElem? (i := 20) rfl))) (by decide) (t := .int) (by decide) (t' := .double) (by decide))), Fld.other W (S.2.2.2.2.2.1) (Or.inr (slot_ne (C := "com/example/weaverbird/weaverbird/alignment/Subgradient") (Or.inr (hw _ (List.mem_of_getElem? (i := 24) rfl))) (Or.inr (hw _ (List.mem_of_getElem? (i := 20) rfl))) (by decide) (t := .int) (by decide) (t' := .double) (by decide))), Fld.other W (S.2.2.2.2.2.2.1) (Or.inr (slot_ne (C := "com/example/weaverbird/weaverbird/alignment/Subgradient") (Or.inr (hw _ (List.mem_of_getElem? (i := 26) rfl))) (Or.inr (hw _ (List.mem_of_getElem? (i := 20) rfl))) (by decide) (t := .double) (by decide) (t' := .double) (by decide))), Fld.other W (S.2.2.2.2.2.2.2.1) (Or.inr (slot_ne (C := "com/example/weaverbird/weaverbird/alignment/Subgradient") (Or.inl (hw _ (List.mem_of_getElem? (i := 33) rfl))) (Or.inr (hw _ (List.mem_of_getElem? (i := 20) rfl))) (by decide) (t := .int) (by decide) (t' := .double) (by decide))), Fld.other W (S.2.2.2.2.2.2.2.2) (Or.inr (slot_ne (C := "com/example/weaverbird/weaverbird/alignment/Subgradient") (Or.inl (hw _ (List.mem_of_getElem? (i := 35) rfl))) (Or.inr (hw _ (List.mem_of_getElem? (i := 20) rfl))) (by decide) (t := .int) (by decide) (t' := .double) (by decide)))⟩
theorem Sg.put_mostRounds {Z : State} {h h' : Heap} {a : Nat} {u_least u_factor u_leastProgress u_mostRounds u_stalledRounds u_leastFactor u_rounds u_stalled u : Value} {a0 : Array Value} (S : Sg Z h a u_least u_factor u_leastProgress u_mostRounds u_stalledRounds u_leastFactor u_rounds u_stalled) (hw : ∀ d ∈ tables_1, d.before a0 Z = true) (W : Wr h h' a (Jvm.RoadKit.slotOf Z "com/example/weaverbird/weaverbird/alignment/Subgradient" "mostRounds" "I") u) : Sg Z h' a u_least u_factor u_leastProgress u u_stalledRounds u_leastFactor u_rounds u_stalled := ⟨Exa.wr W S.1, Fld.other W (S.2.1) (Or.inr (slot_ne (C := "com/example/weaverbird/weaverbird/alignment/Subgradient") (Or.inl (hw _ (List.mem_of_getElem? (i := 15) rfl))) (Or.inr (hw _ (List.mem_of_getElem? (i := 22) rfl))) (by decide) (t := .double) (by decide) (t' := .int) (by decide))), Fld.other W (S.2.2.1) (Or.inr (slot_ne (C := "com/example/weaverbird/weaverbird/alignment/Subgradient") (Or.inl (hw _ (List.mem_of_getElem? (i := 18) rfl))) (Or.inr (hw _ (List.mem_of_getElem? (i := 22) rfl))) (by decide) (t := .double) (by decide) (t' := .int) (by decide))), Fld.other W (S.2.2.2.1) (Or.inr (slot_ne (C := "com/example/weaverbird/weaverbird/alignment/Subgradient") (Or.inr (hw _ (List.mem_of_getElem? (i := 20) rfl))) (Or.inr (hw _ (List.mem_of_getElem? (i := 22) rfl))) (by decide) (t := .double) (by decide) (t' := .int) (by decide))), Fld.same W (S.2.2.2.2.1), Fld.other W (S.2.2.2.2.2.1) (Or.inr (slot_ne (C := "com/example/weaverbird/weaverbird/alignment/Subgradient") (Or.inr (hw _ (List.mem_of_getElem? (i := 24) rfl))) (Or.inr (hw _ (List.mem_of_getElem? (i := 22) rfl))) (by decide) (t := .int) (by decide) (t' := .int) (by decide))), Fld.other W (S.2.2.2.2.2.2.1) (Or.inr (slot_ne (C := "com/example/weaverbird/weaverbird/alignment/Subgradient") (Or.inr (hw _ (List.mem_of_getElem? (i := 26) rfl))) (Or.inr (hw _ (List.mem_of_getElem? (i := 22) rfl))) (by decide) (t := .double) (by decide) (t' := .int) (by decide))), Fld.other W (S.2.2.2.2.2.2.2.1) (Or.inr (slot_ne (C := "com/example/weaverbird/weaverbird/alignment/Subgradient") (Or.inl (hw _ (List.mem_of_getElem? (i := 33) rfl))) (Or.inr (hw _ (List.mem_of_getElem? (i := 22) rfl))) (by decide) (t := .int) (by decide) (t' := .int) (by decide))), Fld.other W (S.2.2.2.2.2.2.2.2) (Or.inr (slot_ne (C := "com/example/weaverbird/weaverbird/alignment/Subgradient") (Or.inl (hw _ (List.mem_of_getElem? (i := 35) rfl))) (Or.inr (hw _ (List.mem_of_getElem? (i := 22) rfl))) (by decide) (t := .int) (by decide) (t' := .int) (by decide)))⟩
theorem Sg.put_stalledRounds {Z : State} {h h' : Heap} {a : Nat} {u_least u_factor u_leastProgress u_mostRounds u_stalledRounds u_leastFactor u_rounds u_stalled u : Value} {a0 : Array Value} (S : Sg Z h a u_least u_factor u_leastProgress u_mostRounds u_stalledRounds u_leastFactor u_rounds u_stalled) (hw : ∀ d ∈ tables_1, d.before a0 Z = true) (W : Wr h h' a (Jvm.RoadKit.slotOf Z "com/example/weaverbird/weaverbird/alignment/Subgradient" "stalledRounds" "I") u) : Sg Z h' a u_least u_factor u_leastProgress u_mostRounds u u_leastFactor u_rounds u_stalled := ⟨Exa.wr W S.1, Fld.other W (S.2.1) (Or.inr (slot_ne (C := "com/example/weaverbird/weaverbird/alignment/Subgradient") (Or.inl (hw _ (List.mem_of_getElem? (i := 15) rfl))) (Or.inr (hw _ (List.mem_of_getElem? (i := 24) rfl))) (by decide) (t := .double) (by decide) (t' := .int) (by decide))), Fld.other W (S.2.2.1) (Or.inr (slot_ne (C := "com/example/weaverbird/weaverbird/alignment/Subgradient") (Or.inl (hw _ (List.mem_of_getElem? (i := 18) rfl))) (Or.inr (hw _ (List.mem_of_getElem? (i := 24) rfl))) (by decide) (t := .double) (by decide) (t' := .int) (by decide))), Fld.other W (S.2.2.2.1) (Or.inr (slot_ne (C := "com/example/weaverbird/weaverbird/alignment/Subgradient") (Or.inr (hw _ (List.mem_of_getElem? (i := 20) rfl))) (Or.inr (hw _ (List.mem_of_getElem? (i := 24) rfl))) (by decide) (t := .double) (by decide) (t' := .int) (by decide))), Fld.other W (S.2.2.2.2.1) (Or.inr (slot_ne (C := "com/example/weaverbird/weaverbird/alignment/Subgradient") (Or.inr (hw _ (List.mem_of_getElem? (i := 22) rfl))) (Or.inr (hw _ (List.mem_of_getElem? (i := 24) rfl))) (by decide) (t := .int) (by decide) (t' := .int) (by decide))), Fld.same W (S.2.2.2.2.2.1), Fld.other W (S.2.2.2.2.2.2.1) (Or.inr (slot_ne (C := "com/example/weaverbird/weaverbird/alignment/Subgradient") (Or.inr (hw _ (List.mem_of_getElem? (i := 26) rfl))) (Or.inr (hw _ (List.mem_of_getElem? (i := 24) rfl))) (by decide) (t := .double) (by decide) (t' := .int) (by decide))), Fld.other W (S.2.2.2.2.2.2.2.1) (Or.inr (slot_ne (C := "com/example/weaverbird/weaverbird/alignment/Subgradient") (Or.inl (hw _ (List.mem_of_getElem? (i := 33) rfl))) (Or.inr (hw _ (List.mem_of_getElem? (i := 24) rfl))) (by decide) (t := .int) (by decide) (t' := .int) (by decide))), Fld.other W (S.2.2.2.2.2.2.2.2) (Or.inr (slot_ne (C := "com/example/weaverbird/weaverbird/alignment/Subgradient") (Or.inl (hw _ (List.mem_of_getElem? (i := 35) rfl))) (Or.inr (hw _ (List.mem_of_getElem? (i := 24) rfl))) (by decide) (t := .int) (by decide) (t' := .int) (by decide)))⟩
theorem Sg.put_leastFactor {Z : State} {h h' : Heap} {a : Nat} {u_least u_factor u_leastProgress u_mostRounds u_stalledRounds u_leastFactor u_rounds u_stalled u : Value} {a0 : Array Value} (S : Sg Z h a u_least u_factor u_leastProgress u_mostRounds u_stalledRounds u_leastFactor u_rounds u_stalled) (hw : ∀ d ∈ tables_1, d.before a0 Z = true) (W : Wr h h' a (Jvm.RoadKit.slotOf Z "com/example/weaverbird/weaverbird/alignment/Subgradient" "leastFactor" "D") u) : Sg Z h' a u_least u_factor u_leastProgress u_mostRounds u_stalledRounds u u_rounds u_stalled := ⟨Exa.wr W S.1, Fld.other W (S.2.1) (Or.inr (slot_ne (C := "com/example/weaverbird/weaverbird/alignment/Subgradient") (Or.inl (hw _ (List.mem_of_getElem? (i := 15) rfl))) (Or.inr (hw _ (List.mem_of_getElem? (i := 26) rfl))) (by decide) (t := .double) (by decide) (t' := .double) (by decide))), Fld.other W (S.2.2.1) (Or.inr (slot_ne (C := "com/example/weaverbird/weaverbird/alignment/Subgradient") (Or.inl (hw _ (List.mem_of_getElem? (i := 18) rfl))) (Or.inr (hw _ (List.mem_of_getElem? (i := 26) rfl))) (by decide) (t := .double) (by decide) (t' := .double) (by decide))), Fld.other W (S.2.2.2.1) (Or.inr (slot_ne (C := "com/example/weaverbird/weaverbird/alignment/Subgradient") (Or.inr (hw _ (List.mem_of_getElem? (i := 20) rfl))) (Or.inr (hw _ (List.mem_of_getElem? (i := 26) rfl))) (by decide) (t := .double) (by decide) (t' := .double) (by decide))), Fld.other W (S.2.2.2.2.1) (Or.inr (slot_ne (C := "com/example/weaverbird/weaverbird/alignment/Subgradient") (Or.inr (hw _ (List.mem_of_getElem? (i := 22) rfl))) (Or.inr (hw _ (List.mem_of_getElem? (i := 26) rfl))) (by decide) (t := .int) (by decide) (t' := .double) (by decide))), Fld.other W (S.2.2.2.2.2.1) (Or.inr (slot_ne (C := "com/example/weaverbird/weaverbird/alignment/Subgradient") (Or.inr (hw _ (List.mem_of_getElem? (i := 24) rfl))) (Or.inr (hw _ (List.mem_of_getElem? (i := 26) rfl))) (by decide) (t := .int) (by decide) (t' := .double) (by decide))), Fld.same W (S.2.2.2.2.2.2.1), Fld.other W (S.2.2.2.2.2.2.2.1) (Or.inr (slot_ne (C := "com/example/weaverbird/weaverbird/alignment/Subgradient") (Or.inl (hw _ (List.mem_of_getElem? (i := 33) rfl))) (Or.inr (hw _ (List.mem_of_getElem? (i := 26) rfl))) (by decide) (t := .int) (by decide) (t' := .double) (by decide))), Fld.other W (S.2.2.2.2.2.2.2.2) (Or.inr (slot_ne (C := "com/example/weaverbird/weaverbird/alignment/Subgradient") (Or.inl (hw _ (List.mem_of_getElem? (i := 35) rfl))) (Or.inr (hw _ (List.mem_of_getElem? (i := 26) rfl))) (by decide) (t := .int) (by decide) (t' := .double) (by decide)))⟩
theorem Sg.put_rounds {Z : State} {h h' : Heap} {a : Nat} {u_least u_factor u_leastProgress u_mostRounds u_stalledRounds u_leastFactor u_rounds u_stalled u : Value} {a0 : Array Value} (S : Sg Z h a u_least u_factor u_leastProgress u_mostRounds u_stalledRounds u_leastFactor u_rounds u_stalled) (hw : ∀ d ∈ tables_1, d.before a0 Z = true) (W : Wr h h' a (Jvm.RoadKit.slotOf Z "com/example/weaverbird/weaverbird/alignment/Subgradient" "rounds" "I") u) : Sg Z h' a u_least u_factor u_leastProgress u_mostRounds u_stalledRounds u_leastFactor u u_stalled := ⟨Exa.wr W S.1, Fld.other W (S.2.1) (Or.inr (slot_ne (C := "com/example/weaverbird/weaverbird/alignment/Subgradient") (Or.inl (hw _ (List.mem_of_getElem? (i := 15) rfl))) (Or.inl (hw _ (List.mem_of_getElem? (i := 33) rfl))) (by decide) (t := .double) (by decide) (t' := .int) (by decide))), Fld.other W (S.2.2.1) (Or.inr (slot_ne (C := "com/example/weaverbird/weaverbird/alignment/Subgradient") (Or.inl (hw _ (List.mem_of_getElem? (i := 18) rfl))) (Or.inl (hw _ (List.mem_of_getElem? (i := 33) rfl))) (by decide) (t := .double) (by decide) (t' := .int) (by decide))), Fld.other W (S.2.2.2.1) (Or.inr (slot_ne (C := "com/example/weaverbird/weaverbird/alignment/Subgradient") (Or.inr (hw _ (List.mem_of_getElem? (i := 20) rfl))) (Or.inl (hw _ (List.mem_of_getElem? (i := 33) rfl))) (by decide) (t := .double) (by decide) (t' := .int) (by decide))), Fld.other W (S.2.2.2.2.1) (Or.inr (slot_ne (C := "com/example/weaverbird/weaverbird/alignment/Subgradient") (Or.inr (hw _ (List.mem_of_getElem? (i := 22) rfl))) (Or.inl (hw _ (List.mem_of_getElem? (i := 33) rfl))) (by decide) (t := .int) (by decide) (t' := .int) (by decide))), Fld.other W (S.2.2.2.2.2.1) (Or.inr (slot_ne (C := "com/example/weaverbird/weaverbird/alignment/Subgradient") (Or.inr (hw _ (List.mem_of_getElem? (i := 24) rfl))) (Or.inl (hw _ (List.mem_of_getElem? (i := 33) rfl))) (by decide) (t := .int) (by decide) (t' := .int) (by decide))), Fld.other W (S.2.2.2.2.2.2.1) (Or.inr (slot_ne (C := "com/example/weaverbird/weaverbird/alignment/Subgradient") (Or.inr (hw _ (List.mem_of_getElem? (i := 26) rfl))) (Or.inl (hw _ (List.mem_of_getElem? (i := 33) rfl))) (by decide) (t := .double) (by decide) (t' := .int) (by decide))), Fld.same W (S.2.2.2.2.2.2.2.1), Fld.other W (S.2.2.2.2.2.2.2.2) (Or.inr (slot_ne (C := "com/example/weaverbird/weaverbird/alignment/Subgradient") (Or.inl (hw _ (List.mem_of_getElem? (i := 35) rfl))) (Or.inl (hw _ (List.mem_of_getElem? (i := 33) rfl))) (by decide) (t := .int) (by decide) (t' := .int) (by decide)))⟩
theorem Sg.put_stalled {Z : State} {h h' : Heap} {a : Nat} {u_least u_factor u_leastProgress u_mostRounds u_stalledRounds u_leastFactor u_rounds u_stalled u : Value} {a0 : Array Value} (S : Sg Z h a u_least u_factor u_leastProgress u_mostRounds u_stalledRounds u_leastFactor u_rounds u_stalled) (hw : ∀ d ∈ tables_1, d.before a0 Z = true) (W : Wr h h' a (Jvm.RoadKit.slotOf Z "com/example/weaverbird/weaverbird/alignment/Subgradient" "stalled" "I") u) : Sg Z h' a u_least u_factor u_leastProgress u_mostRounds u_stalledRounds u_leastFactor u_rounds u := ⟨Exa.wr W S.1, Fld.other W (S.2.1) (Or.inr (slot_ne (C := "com/example/weaverbird/weaverbird/alignment/Subgradient") (Or.inl (hw _ (List.mem_of_getElem? (i := 15) rfl))) (Or.inl (hw _ (List.mem_of_getElem? (i := 35) rfl))) (by decide) (t := .double) (by decide) (t' := .int) (by decide))), Fld.other W (S.2.2.1) (Or.inr (slot_ne (C := "com/example/weaverbird/weaverbird/alignment/Subgradient") (Or.inl (hw _ (List.mem_of_getElem? (i := 18) rfl))) (Or.inl (hw _ (List.mem_of_getElem? (i := 35) rfl))) (by decide) (t := .double) (by decide) (t' := .int) (by decide))), Fld.other W (S.2.2.2.1) (Or.inr (slot_ne (C := "com/example/weaverbird/weaverbird/alignment/Subgradient") (Or.inr (hw _ (List.mem_of_getElem? (i := 20) rfl))) (Or.inl (hw _ (List.mem_of_getElem? (i := 35) rfl))) (by decide) (t := .double) (by decide) (t' := .int) (by decide))), Fld.other W (S.2.2.2.2.1) (Or.inr (slot_ne (C := "com/example/weaverbird/weaverbird/alignment/Subgradient") (Or.inr (hw _ (List.mem_of_getElem? (i := 22) rfl))) (Or.inl (hw _ (List.mem_of_getElem? (i := 35) rfl))) (by decide) (t := .int) (by decide) (t' := .int) (by decide))), Fld.other W (S.2.2.2.2.2.1) (Or.inr (slot_ne (C := "com/example/weaverbird/weaverbird/alignment/Subgradient") (Or.inr (hw _ (List.mem_of_getElem? (i := 24) rfl))) (Or.inl (hw _ (List.mem_of_getElem? (i := 35) rfl))) (by decide) (t := .int) (by decide) (t' := .int) (by decide))), Fld.other W (S.2.2.2.2.2.2.1) (Or.inr (slot_ne (C := "com/example/weaverbird/weaverbird/alignment/Subgradient") (Or.inr (hw _ (List.mem_of_getElem? (i := 26) rfl))) (Or.inl (hw _ (List.mem_of_getElem? (i := 35) rfl))) (by decide) (t := .double) (by decide) (t' := .int) (by decide))), Fld.other W (S.2.2.2.2.2.2.2.1) (Or.inr (slot_ne (C := "com/example/weaverbird/weaverbird/alignment/Subgradient") (Or.inl (hw _ (List.mem_of_getElem? (i := 33) rfl))) (Or.inl (hw _ (List.mem_of_getElem? (i := 35) rfl))) (by decide) (t := .int) (by decide) (t' := .int) (by decide))), Fld.same W (S.2.2.2.2.2.2.2.2)⟩
theorem own_b53 (x : Int32) : B53 x.toInt64 := by
  have h := c_i2l x
  have r := rng32 x
  exact ⟨by omega, by omega⟩
theorem own_lcmp (a b : Int64) : (lcmpW a b).toInt < 0 ∧ a.toInt < b.toInt ∨ (lcmpW a b).toInt = 0 ∧ a.toInt = b.toInt ∨ 0 < (lcmpW a b).toInt ∧ b.toInt < a.toInt := by
  unfold lcmpW
  have e1 : (1 : Int32).toInt = 1 := rfl
  have e2 : (0 : Int32).toInt = 0 := rfl
  have e3 : (-1 : Int32).toInt = -1 := rfl
  by_cases h1 : a > b
  · rw [if_pos h1]; have := Int64.lt_iff_toInt_lt.mp h1; omega
  · rw [if_neg h1]
    have g1 : ¬ b.toInt < a.toInt := fun q => h1 (Int64.lt_iff_toInt_lt.mpr q)
    by_cases h2 : a = b
    · rw [if_pos h2]; subst h2; omega
    · rw [if_neg h2]
      have g2 : ¬ a.toInt = b.toInt := fun q => h2 (Int64.toInt_inj.mp q)
      omega
theorem own_dcmp (x y : Int32) (o : CmpOp) : (cmpValue (FP.dcmp (FP.i2d x) (FP.i2d y)) o).toInt < 0 ∧ x.toInt < y.toInt ∨ (cmpValue (FP.dcmp (FP.i2d x) (FP.i2d y)) o).toInt = 0 ∧ x.toInt = y.toInt ∨ 0 < (cmpValue (FP.dcmp (FP.i2d x) (FP.i2d y)) o).toInt ∧ y.toInt < x.toInt := by
  rw [i2d_w, i2d_w, dcmpV_w (own_b53 x) (own_b53 y) o]
  have h := own_lcmp x.toInt64 y.toInt64
  rw [c_i2l, c_i2l] at h
  exact h
theorem own_inf : Jvm.Free.Fl.NoNaN64 (9218868437227405312 : UInt64) := by unfold Jvm.Free.Fl.NoNaN64; decide
theorem own_sub (x y : Int32) : Jvm.Free.Fl.NoNaN64 (FP.dsub (FP.i2d x) (FP.i2d y)) := Jvm.Free.Fl.dsub_out (Jvm.Free.Fl.i2d_fin x).noNaN (Jvm.Free.Fl.i2d_fin y)
theorem own_subI (y : Int32) : Jvm.Free.Fl.NoNaN64 (FP.dsub (9218868437227405312 : UInt64) (FP.i2d y)) := Jvm.Free.Fl.dsub_out own_inf (Jvm.Free.Fl.i2d_fin y)
theorem own_two : cmpValue (FP.dcmp (4611686018427387904 : UInt64) (4611686018427387904 : UInt64)) .l = 0 := by decide +kernel
set_option maxRecDepth 65536 in
set_option maxHeartbeats 40000000 in
theorem own_i2 (l : Launch) (Z : State) (a0 : Array Value) (hw : ∀ d ∈ tables_1, d.before a0 Z = true) (h0 : Heap) (n0 : Nat) (Z0 : n0 ≤ h0.size) (a : Nat) (p : UInt64) (mr sr : Int32) (lf : UInt64) (ge : n0 ≤ a) (S : Sg Z h0 a (.double 0) (.double 0) (.double 0) (.int 0) (.int 0) (.double 0) (.int 0) (.int 0)) :
    Met l Z (⟨"com/example/weaverbird/weaverbird/alignment/Subgradient", "<init>", "(DIID)V"⟩ : MethodName) prog_86_method_2_code 7 none ({ frames := 1, cells := 0, slots := 0, locals := 12 } : Room) n0 #[(.ref a), (.double p), (.int mr), (.int sr), (.double lf)] h0 (fun v h => v = none ∧ Sg Z h a (.double (9218868437227405312 : UInt64)) (.double (4611686018427387904 : UInt64)) (.double p) (.int mr) (.int sr) (.double lf) (.int 0) (.int 0)) := by
  refine Met.of (Ls := #[.val (.ref a), .val (.double p), .second, .val (.int mr), .val (.int sr), .val (.double lf), .second]) (plainFor_of_name pn_0) (fun m => by first | (simp [entryFrame, mkF, argsToLocals, Value.category, maxLocals]; done) | rfl) (fun κ w => ?_)
  replace w : Wk κ l Z "com/example/weaverbird/weaverbird/alignment/Subgradient" "<init>" prog_86_method_2_code 7 none ({ frames := 1, cells := 0, slots := 0, locals := 12 } : Room) n0 h0 0 0 0 #[.val (.ref a), .val (.double p), .second, .val (.int mr), .val (.int sr), .val (.double lf), .second] [] := w
  replace w := w.aloadN (q := 1) (v := (.ref a)) dp86m2_0 rfl rfl rfl
  replace w := w.initO (q := 4) (hw _ (List.mem_of_getElem? (i := 10) rfl)) (hw _ (List.mem_of_getElem? (i := 11) rfl)) (hw _ (List.mem_of_getElem? (i := 12) rfl)) dp86m2_1 rfl (by decide) (W := 0) (Nat.le_of_eq rfl) (by decide) rfl
  replace w := w.aloadN (q := 5) (v := (.ref a)) dp86m2_4 rfl rfl rfl
  replace w := w.ldcD (q := 8) (z := (9218868437227405312 : UInt64)) (hw _ (List.mem_of_getElem? (i := 13) rfl)) dp86m2_5 rfl
  obtain ⟨h1, W1, w⟩ := w.putF (q := 11) (C := "com/example/weaverbird/weaverbird/alignment/Subgradient") (hw _ (List.mem_of_getElem? (i := 14) rfl)) (S.2.1) (S.1) (Or.inl (hw _ (List.mem_of_getElem? (i := 15) rfl))) (hw _ (List.mem_of_getElem? (i := 1) rfl)) (ty := .double) (by decide) rfl rfl dp86m2_8 (ge) rfl
  replace S := S.put_least hw W1
  replace w := w.aloadN (q := 12) (v := (.ref a)) dp86m2_11 rfl rfl rfl
  replace w := w.ldcD (q := 15) (z := (4611686018427387904 : UInt64)) (hw _ (List.mem_of_getElem? (i := 16) rfl)) dp86m2_12 rfl
  obtain ⟨h2, W2, w⟩ := w.putF (q := 18) (C := "com/example/weaverbird/weaverbird/alignment/Subgradient") (hw _ (List.mem_of_getElem? (i := 17) rfl)) (S.2.2.1) (S.1) (Or.inl (hw _ (List.mem_of_getElem? (i := 18) rfl))) (hw _ (List.mem_of_getElem? (i := 1) rfl)) (ty := .double) (by decide) rfl rfl dp86m2_15 (ge) rfl
  replace S := S.put_factor hw W2
  replace w := w.aloadN (q := 19) (v := (.ref a)) dp86m2_18 rfl rfl rfl
  replace w := w.dloadN (q := 20) (v := p) dp86m2_19 rfl rfl
  obtain ⟨h3, W3, w⟩ := w.putF (q := 23) (C := "com/example/weaverbird/weaverbird/alignment/Subgradient") (hw _ (List.mem_of_getElem? (i := 19) rfl)) (S.2.2.2.1) (S.1) (Or.inr ⟨(hw _ (List.mem_of_getElem? (i := 20) rfl)), rfl, rfl⟩) (hw _ (List.mem_of_getElem? (i := 1) rfl)) (ty := .double) (by decide) rfl rfl dp86m2_20 (ge) rfl
  replace S := S.put_leastProgress hw W3
  replace w := w.aloadN (q := 24) (v := (.ref a)) dp86m2_23 rfl rfl rfl
  replace w := w.iloadN (q := 25) (v := mr) dp86m2_24 rfl rfl
  obtain ⟨h4, W4, w⟩ := w.putF (q := 28) (C := "com/example/weaverbird/weaverbird/alignment/Subgradient") (hw _ (List.mem_of_getElem? (i := 21) rfl)) (S.2.2.2.2.1) (S.1) (Or.inr ⟨(hw _ (List.mem_of_getElem? (i := 22) rfl)), rfl, rfl⟩) (hw _ (List.mem_of_getElem? (i := 1) rfl)) (ty := .int) (by decide) rfl rfl dp86m2_25 (ge) rfl
  replace S := S.put_mostRounds hw W4
  replace w := w.aloadN (q := 29) (v := (.ref a)) dp86m2_28 rfl rfl rfl
  replace w := w.iload (q := 31) (v := sr) dp86m2_29 rfl rfl
  obtain ⟨h5, W5, w⟩ := w.putF (q := 34) (C := "com/example/weaverbird/weaverbird/alignment/Subgradient") (hw _ (List.mem_of_getElem? (i := 23) rfl)) (S.2.2.2.2.2.1) (S.1) (Or.inr ⟨(hw _ (List.mem_of_getElem? (i := 24) rfl)), rfl, rfl⟩) (hw _ (List.mem_of_getElem? (i := 1) rfl)) (ty := .int) (by decide) rfl rfl dp86m2_31 (ge) rfl
  replace S := S.put_stalledRounds hw W5
  replace w := w.aloadN (q := 35) (v := (.ref a)) dp86m2_34 rfl rfl rfl
  replace w := w.dload (q := 37) (v := lf) dp86m2_35 rfl rfl
  obtain ⟨h6, W6, w⟩ := w.putF (q := 40) (C := "com/example/weaverbird/weaverbird/alignment/Subgradient") (hw _ (List.mem_of_getElem? (i := 25) rfl)) (S.2.2.2.2.2.2.1) (S.1) (Or.inr ⟨(hw _ (List.mem_of_getElem? (i := 26) rfl)), rfl, rfl⟩) (hw _ (List.mem_of_getElem? (i := 1) rfl)) (ty := .double) (by decide) rfl rfl dp86m2_37 (ge) rfl
  replace S := S.put_leastFactor hw W6
  exact w.retV dp86m2_40 ⟨rfl, S⟩ (by decide) (by decide)
set_option maxRecDepth 65536 in
set_option maxHeartbeats 40000000 in
theorem own_i1 (l : Launch) (Z : State) (a0 : Array Value) (hw : ∀ d ∈ tables_1, d.before a0 Z = true) (h0 : Heap) (n0 : Nat) (Z0 : n0 ≤ h0.size) (a : Nat) (p : UInt64) (mr : Int32) (ge : n0 ≤ a) (S : Sg Z h0 a (.double 0) (.double 0) (.double 0) (.int 0) (.int 0) (.double 0) (.int 0) (.int 0)) :
    Met l Z (⟨"com/example/weaverbird/weaverbird/alignment/Subgradient", "<init>", "(DI)V"⟩ : MethodName) prog_86_method_1_code 4 none ({ frames := 2, cells := 0, slots := 0, locals := 30 } : Room) n0 #[(.ref a), (.double p), (.int mr)] h0 (fun v h => v = none ∧ Sg Z h a (.double (9218868437227405312 : UInt64)) (.double (4611686018427387904 : UInt64)) (.double p) (.int mr) (.int 30) (.double (4572414629676717179 : UInt64)) (.int 0) (.int 0)) := by
  refine Met.of (Ls := #[.val (.ref a), .val (.double p), .second, .val (.int mr)]) (plainFor_of_name pn_0) (fun m => by first | (simp [entryFrame, mkF, argsToLocals, Value.category, maxLocals]; done) | rfl) (fun κ w => ?_)
  replace w : Wk κ l Z "com/example/weaverbird/weaverbird/alignment/Subgradient" "<init>" prog_86_method_1_code 4 none ({ frames := 2, cells := 0, slots := 0, locals := 30 } : Room) n0 h0 0 0 0 #[.val (.ref a), .val (.double p), .second, .val (.int mr)] [] := w
  replace w := w.aloadN (q := 1) (v := (.ref a)) dp86m1_0 rfl rfl rfl
  replace w := w.dloadN (q := 2) (v := p) dp86m1_1 rfl rfl
  replace w := w.iloadN (q := 3) (v := mr) dp86m1_2 rfl rfl
  replace w := w.bipush (q := 5) (z := (30 : Int32)) dp86m1_3 (by decide) rfl
  replace w := w.ldcD (q := 8) (z := (4572414629676717179 : UInt64)) (hw _ (List.mem_of_getElem? (i := 6) rfl)) dp86m1_5 rfl
  obtain ⟨_, h1, ⟨rfl, S1⟩, w⟩ := w.callI (a := a) (y := (⟨"com/example/weaverbird/weaverbird/alignment/Subgradient", "<init>", "(DIID)V"⟩ : MethodName)) (argsL := [(.double p), (.int mr), (.int (30 : Int32)), (.double (4572414629676717179 : UInt64))]) (rest := []) (own_i2 l Z a0 hw h0 n0 Z0 a p mr 30 (4572414629676717179 : UInt64) ge S) rfl (hw _ (List.mem_of_getElem? (i := 7) rfl)) (hw _ (List.mem_of_getElem? (i := 8) rfl)) (hw _ (List.mem_of_getElem? (i := 2) rfl)) (hw _ (List.mem_of_getElem? (i := 9) rfl)) (by decide) dp86m1_8 (lenOf pd_0 rfl) rfl rfl (by decide) (W := 0) (Nat.le_of_eq rfl) (by decide) (by decide) (by decide) (q := 11) rfl
  replace w := w [] rfl
  exact w.retV dp86m1_11 ⟨rfl, S1⟩ (by decide) (by decide)
theorem own_inc {x z : Int32} (e : x + (1 : Int32) = z) (h0 : 0 ≤ x.toInt) (h1 : x.toInt < 1000) : z.toInt = x.toInt + 1 := by
  have g1 := c_iadd x 1
  have g2 := rng32 (x + 1)
  have e1 : (1 : Int32).toInt = 1 := rfl
  rw [e] at g1 g2
  omega
set_option maxRecDepth 65536 in
set_option maxHeartbeats 40000000 in
theorem own_lo (l : Launch) (Z : State) (a0 : Array Value) (hw : ∀ d ∈ tables_1, d.before a0 Z = true) (h0 : Heap) (n0 : Nat) (Z0 : n0 ≤ h0.size) (a : Nat) (x ls fa lp lf : UInt64) (mr rd sd : Int32) (ge : n0 ≤ a) (S : Sg Z h0 a (.double ls) (.double fa) (.double lp) (.int mr) (.int 30) (.double lf) (.int rd) (.int sd)) (hnn : Jvm.Free.Fl.NoNaN64 (FP.dsub ls lp)) (s0 : 0 ≤ sd.toInt) (s1 : sd.toInt < 20) :
    Met l Z (⟨"com/example/weaverbird/weaverbird/alignment/Subgradient", "lowers", "(D)Z"⟩ : MethodName) prog_86_method_6_code 5 (some .boolean) ({ frames := 0, cells := 0, slots := 0, locals := 0 } : Room) n0 #[(.ref a), (.double x)] h0 (fun v h => ∃ (r : Int32) (ls' : UInt64) (sd' : Int32), v = some (.int r) ∧ Sg Z h a (.double ls') (.double fa) (.double lp) (.int mr) (.int 30) (.double lf) (.int (rd + 1)) (.int sd') ∧ ((cmpValue (FP.dcmp x ls) .g).toInt < 0 ∧ r.toInt = 1 ∧ ls' = x ∨ 0 ≤ (cmpValue (FP.dcmp x ls) .g).toInt ∧ r.toInt = 0 ∧ ls' = ls) ∧ 0 ≤ sd'.toInt ∧ sd'.toInt ≤ sd.toInt + 1) := by
  refine Met.of (Ls := #[.val (.ref a), .val (.double x), .second, .unset, .unset]) (plainFor_of_name pn_0) (fun m => by first | (simp [entryFrame, mkF, argsToLocals, Value.category, maxLocals]; done) | rfl) (fun κ w => ?_)
  replace w : Wk κ l Z "com/example/weaverbird/weaverbird/alignment/Subgradient" "lowers" prog_86_method_6_code 5 (some .boolean) ({ frames := 0, cells := 0, slots := 0, locals := 0 } : Room) n0 h0 0 0 0 #[.val (.ref a), .val (.double x), .second, .unset, .unset] [] := w
  replace w := w.aloadN (q := 1) (v := (.ref a)) dp86m6_0 rfl rfl rfl
  replace w := w.dup (q := 2) dp86m6_1 rfl rfl
  replace w := w.getF (q := 5) (v := (.int rd)) (hw _ (List.mem_of_getElem? (i := 32) rfl)) (S.2.2.2.2.2.2.2.1) dp86m6_2 rfl
  replace w := w.iconst (q := 6) (z := (1 : Int32)) dp86m6_5 (by decide) rfl
  obtain ⟨rd1, hrd1⟩ : ∃ z : Int32, rd + (1 : Int32) = z := ⟨_, rfl⟩
  replace w := w.iadd (q := 7) dp86m6_6 hrd1 rfl
  have hrd := hrd1
  obtain ⟨h7, W8, w⟩ := w.putF (q := 10) (C := "com/example/weaverbird/weaverbird/alignment/Subgradient") (hw _ (List.mem_of_getElem? (i := 32) rfl)) (S.2.2.2.2.2.2.2.1) (S.1) (Or.inl (hw _ (List.mem_of_getElem? (i := 33) rfl))) (hw _ (List.mem_of_getElem? (i := 1) rfl)) (ty := .int) (by decide) rfl rfl dp86m6_7 (ge) rfl
  replace S := S.put_rounds hw W8
  replace w := w.dloadN (q := 11) (v := x) dp86m6_10 rfl rfl
  replace w := w.aloadN (q := 12) (v := (.ref a)) dp86m6_11 rfl rfl rfl
  replace w := w.getF (q := 15) (v := (.double ls)) (hw _ (List.mem_of_getElem? (i := 14) rfl)) (S.2.1) dp86m6_12 rfl
  obtain ⟨k1, hk1⟩ : ∃ z : Int32, cmpValue (FP.dcmp x ls) .g = z := ⟨_, rfl⟩
  replace w := w.dcmp (q := 16) dp86m6_15 hk1 rfl
  rcases w.ifGe (q := 23) (q' := 19) (xi := k1.toInt) dp86m6_16 rfl (by decide) (by decide) rfl with ⟨hc16, w⟩ | ⟨hc16, w⟩
  · replace w := w.iconst (q := 24) (z := (0 : Int32)) dp86m6_23 (by decide) rfl
    replace w := w.istoreN (q := 25) (l' := #[.val (.ref a), .val (.double x), .second, .val (.int (0 : Int32)), .unset]) dp86m6_24 rfl rfl
    replace w := w.dloadN (q := 26) (v := x) dp86m6_25 rfl rfl
    replace w := w.aloadN (q := 27) (v := (.ref a)) dp86m6_26 rfl rfl rfl
    replace w := w.getF (q := 30) (v := (.double ls)) (hw _ (List.mem_of_getElem? (i := 14) rfl)) (S.2.1) dp86m6_27 rfl
    replace w := w.aloadN (q := 31) (v := (.ref a)) dp86m6_30 rfl rfl rfl
    replace w := w.getF (q := 34) (v := (.double lp)) (hw _ (List.mem_of_getElem? (i := 19) rfl)) (S.2.2.2.1) dp86m6_31 rfl
    obtain ⟨df, hdf⟩ : ∃ z : UInt64, FP.dsub ls lp = z := ⟨_, rfl⟩
    replace w := w.dsub (q := 35) dp86m6_34 hnn hdf rfl
    obtain ⟨k2, hk2⟩ : ∃ z : Int32, cmpValue (FP.dcmp x df) .g = z := ⟨_, rfl⟩
    replace w := w.dcmp (q := 36) dp86m6_35 hk2 rfl
    rcases w.ifGe (q := 43) (q' := 39) (xi := k2.toInt) dp86m6_36 rfl (by decide) (by decide) rfl with ⟨hc36, w⟩ | ⟨hc36, w⟩
    · replace w := w.iconst (q := 44) (z := (0 : Int32)) dp86m6_43 (by decide) rfl
      replace w := w.istore (q := 46) (l' := #[.val (.ref a), .val (.double x), .second, .val (.int (0 : Int32)), .val (.int (0 : Int32))]) dp86m6_44 rfl rfl
      replace w := w.iloadN (q := 47) (v := (0 : Int32)) dp86m6_46 rfl rfl
      obtain ⟨-, w⟩ := (w.ifEq (q := 55) (q' := 50) (xi := 0) dp86m6_47 rfl (by decide) (by decide) rfl).resolve_right (fun g => by have hc47 := g.1; revert hc47; decide)
      replace w := w.iload (q := 57) (v := (0 : Int32)) dp86m6_55 rfl rfl
      obtain ⟨-, w⟩ := (w.ifEq (q := 68) (q' := 60) (xi := 0) dp86m6_57 rfl (by decide) (by decide) rfl).resolve_right (fun g => by have hc57 := g.1; revert hc57; decide)
      replace w := w.aloadN (q := 69) (v := (.ref a)) dp86m6_68 rfl rfl rfl
      replace w := w.dup (q := 70) dp86m6_69 rfl rfl
      replace w := w.getF (q := 73) (v := (.int sd)) (hw _ (List.mem_of_getElem? (i := 34) rfl)) (S.2.2.2.2.2.2.2.2) dp86m6_70 rfl
      replace w := w.iconst (q := 74) (z := (1 : Int32)) dp86m6_73 (by decide) rfl
      obtain ⟨sd1, hsd1⟩ : ∃ z : Int32, sd + (1 : Int32) = z := ⟨_, rfl⟩
      replace w := w.iadd (q := 75) dp86m6_74 hsd1 rfl
      have hs1 := own_inc hsd1 s0 (by omega)
      replace w := w.dupX1 (q := 76) dp86m6_75 rfl rfl rfl
      obtain ⟨h9, W10, w⟩ := w.putF (q := 79) (C := "com/example/weaverbird/weaverbird/alignment/Subgradient") (hw _ (List.mem_of_getElem? (i := 34) rfl)) (S.2.2.2.2.2.2.2.2) (S.1) (Or.inl (hw _ (List.mem_of_getElem? (i := 35) rfl))) (hw _ (List.mem_of_getElem? (i := 1) rfl)) (ty := .int) (by decide) rfl rfl dp86m6_76 (ge) rfl
      replace S := S.put_stalled hw W10
      replace w := w.aloadN (q := 80) (v := (.ref a)) dp86m6_79 rfl rfl rfl
      replace w := w.getF (q := 83) (v := (.int (30 : Int32))) (hw _ (List.mem_of_getElem? (i := 23) rfl)) (S.2.2.2.2.2.1) dp86m6_80 rfl
      obtain ⟨hc83, w⟩ := (w.icmpLt (q := 103) (q' := 86) (xi := sd1.toInt) (yi := 30) dp86m6_83 rfl rfl (by decide) (by decide) rfl).resolve_right (fun g => by have hc83 := g.1; have e1 : (30 : Int32).toInt = 30 := rfl; omega)
      replace w := w.iloadN (q := 104) (v := (0 : Int32)) dp86m6_103 rfl rfl
      refine w.retZ dp86m6_104 (z := (0 : Int32)) (by decide) ⟨(0 : Int32), ls, sd1, rfl, by rw [hrd]; exact S, ?_, ?_⟩ (by decide) (by decide)
      · rw [hk1]; first | exact Or.inl ⟨by omega, rfl, rfl⟩ | exact Or.inr ⟨by omega, rfl, rfl⟩
      · have e1 : (0 : Int32).toInt = 0 := rfl
        omega
    · replace w := w.iconst (q := 40) (z := (1 : Int32)) dp86m6_39 (by decide) rfl
      replace w := w.goto (q := 44) dp86m6_40 (by decide) (by decide)
      replace w := w.istore (q := 46) (l' := #[.val (.ref a), .val (.double x), .second, .val (.int (0 : Int32)), .val (.int (1 : Int32))]) dp86m6_44 rfl rfl
      replace w := w.iloadN (q := 47) (v := (0 : Int32)) dp86m6_46 rfl rfl
      obtain ⟨-, w⟩ := (w.ifEq (q := 55) (q' := 50) (xi := 0) dp86m6_47 rfl (by decide) (by decide) rfl).resolve_right (fun g => by have hc47 := g.1; revert hc47; decide)
      replace w := w.iload (q := 57) (v := (1 : Int32)) dp86m6_55 rfl rfl
      obtain ⟨-, w⟩ := (w.ifEq (q := 68) (q' := 60) (xi := 1) dp86m6_57 rfl (by decide) (by decide) rfl).resolve_left (fun g => by have hc57 := g.1; revert hc57; decide)
      replace w := w.aloadN (q := 61) (v := (.ref a)) dp86m6_60 rfl rfl rfl
      replace w := w.iconst (q := 62) (z := (0 : Int32)) dp86m6_61 (by decide) rfl
      obtain ⟨h11, W12, w⟩ := w.putF (q := 65) (C := "com/example/weaverbird/weaverbird/alignment/Subgradient") (hw _ (List.mem_of_getElem? (i := 34) rfl)) (S.2.2.2.2.2.2.2.2) (S.1) (Or.inl (hw _ (List.mem_of_getElem? (i := 35) rfl))) (hw _ (List.mem_of_getElem? (i := 1) rfl)) (ty := .int) (by decide) rfl rfl dp86m6_62 (ge) rfl
      replace S := S.put_stalled hw W12
      replace w := w.goto (q := 103) dp86m6_65 (by decide) (by decide)
      replace w := w.iloadN (q := 104) (v := (0 : Int32)) dp86m6_103 rfl rfl
      refine w.retZ dp86m6_104 (z := (0 : Int32)) (by decide) ⟨(0 : Int32), ls, (0 : Int32), rfl, by rw [hrd]; exact S, ?_, ?_⟩ (by decide) (by decide)
      · rw [hk1]; first | exact Or.inl ⟨by omega, rfl, rfl⟩ | exact Or.inr ⟨by omega, rfl, rfl⟩
      · have e1 : (0 : Int32).toInt = 0 := rfl
        omega
  · replace w := w.iconst (q := 20) (z := (1 : Int32)) dp86m6_19 (by decide) rfl
    replace w := w.goto (q := 24) dp86m6_20 (by decide) (by decide)
    replace w := w.istoreN (q := 25) (l' := #[.val (.ref a), .val (.double x), .second, .val (.int (1 : Int32)), .unset]) dp86m6_24 rfl rfl
    replace w := w.dloadN (q := 26) (v := x) dp86m6_25 rfl rfl
    replace w := w.aloadN (q := 27) (v := (.ref a)) dp86m6_26 rfl rfl rfl
    replace w := w.getF (q := 30) (v := (.double ls)) (hw _ (List.mem_of_getElem? (i := 14) rfl)) (S.2.1) dp86m6_27 rfl
    replace w := w.aloadN (q := 31) (v := (.ref a)) dp86m6_30 rfl rfl rfl
    replace w := w.getF (q := 34) (v := (.double lp)) (hw _ (List.mem_of_getElem? (i := 19) rfl)) (S.2.2.2.1) dp86m6_31 rfl
    obtain ⟨df, hdf⟩ : ∃ z : UInt64, FP.dsub ls lp = z := ⟨_, rfl⟩
    replace w := w.dsub (q := 35) dp86m6_34 hnn hdf rfl
    obtain ⟨k2, hk2⟩ : ∃ z : Int32, cmpValue (FP.dcmp x df) .g = z := ⟨_, rfl⟩
    replace w := w.dcmp (q := 36) dp86m6_35 hk2 rfl
    rcases w.ifGe (q := 43) (q' := 39) (xi := k2.toInt) dp86m6_36 rfl (by decide) (by decide) rfl with ⟨hc36, w⟩ | ⟨hc36, w⟩
    · replace w := w.iconst (q := 44) (z := (0 : Int32)) dp86m6_43 (by decide) rfl
      replace w := w.istore (q := 46) (l' := #[.val (.ref a), .val (.double x), .second, .val (.int (1 : Int32)), .val (.int (0 : Int32))]) dp86m6_44 rfl rfl
      replace w := w.iloadN (q := 47) (v := (1 : Int32)) dp86m6_46 rfl rfl
      obtain ⟨-, w⟩ := (w.ifEq (q := 55) (q' := 50) (xi := 1) dp86m6_47 rfl (by decide) (by decide) rfl).resolve_left (fun g => by have hc47 := g.1; revert hc47; decide)
      replace w := w.aloadN (q := 51) (v := (.ref a)) dp86m6_50 rfl rfl rfl
      replace w := w.dloadN (q := 52) (v := x) dp86m6_51 rfl rfl
      obtain ⟨h13, W14, w⟩ := w.putF (q := 55) (C := "com/example/weaverbird/weaverbird/alignment/Subgradient") (hw _ (List.mem_of_getElem? (i := 14) rfl)) (S.2.1) (S.1) (Or.inl (hw _ (List.mem_of_getElem? (i := 15) rfl))) (hw _ (List.mem_of_getElem? (i := 1) rfl)) (ty := .double) (by decide) rfl rfl dp86m6_52 (ge) rfl
      replace S := S.put_least hw W14
      replace w := w.iload (q := 57) (v := (0 : Int32)) dp86m6_55 rfl rfl
      obtain ⟨-, w⟩ := (w.ifEq (q := 68) (q' := 60) (xi := 0) dp86m6_57 rfl (by decide) (by decide) rfl).resolve_right (fun g => by have hc57 := g.1; revert hc57; decide)
      replace w := w.aloadN (q := 69) (v := (.ref a)) dp86m6_68 rfl rfl rfl
      replace w := w.dup (q := 70) dp86m6_69 rfl rfl
      replace w := w.getF (q := 73) (v := (.int sd)) (hw _ (List.mem_of_getElem? (i := 34) rfl)) (S.2.2.2.2.2.2.2.2) dp86m6_70 rfl
      replace w := w.iconst (q := 74) (z := (1 : Int32)) dp86m6_73 (by decide) rfl
      obtain ⟨sd1, hsd1⟩ : ∃ z : Int32, sd + (1 : Int32) = z := ⟨_, rfl⟩
      replace w := w.iadd (q := 75) dp86m6_74 hsd1 rfl
      have hs1 := own_inc hsd1 s0 (by omega)
      replace w := w.dupX1 (q := 76) dp86m6_75 rfl rfl rfl
      obtain ⟨h15, W16, w⟩ := w.putF (q := 79) (C := "com/example/weaverbird/weaverbird/alignment/Subgradient") (hw _ (List.mem_of_getElem? (i := 34) rfl)) (S.2.2.2.2.2.2.2.2) (S.1) (Or.inl (hw _ (List.mem_of_getElem? (i := 35) rfl))) (hw _ (List.mem_of_getElem? (i := 1) rfl)) (ty := .int) (by decide) rfl rfl dp86m6_76 (ge) rfl
      replace S := S.put_stalled hw W16
      replace w := w.aloadN (q := 80) (v := (.ref a)) dp86m6_79 rfl rfl rfl
      replace w := w.getF (q := 83) (v := (.int (30 : Int32))) (hw _ (List.mem_of_getElem? (i := 23) rfl)) (S.2.2.2.2.2.1) dp86m6_80 rfl
      obtain ⟨hc83, w⟩ := (w.icmpLt (q := 103) (q' := 86) (xi := sd1.toInt) (yi := 30) dp86m6_83 rfl rfl (by decide) (by decide) rfl).resolve_right (fun g => by have hc83 := g.1; have e1 : (30 : Int32).toInt = 30 := rfl; omega)
      replace w := w.iloadN (q := 104) (v := (1 : Int32)) dp86m6_103 rfl rfl
      refine w.retZ dp86m6_104 (z := (1 : Int32)) (by decide) ⟨(1 : Int32), x, sd1, rfl, by rw [hrd]; exact S, ?_, ?_⟩ (by decide) (by decide)
      · rw [hk1]; first | exact Or.inl ⟨by omega, rfl, rfl⟩ | exact Or.inr ⟨by omega, rfl, rfl⟩
      · have e1 : (0 : Int32).toInt = 0 := rfl
        omega
    · replace w := w.iconst (q := 40) (z := (1 : Int32)) dp86m6_39 (by decide) rfl
      replace w := w.goto (q := 44) dp86m6_40 (by decide) (by decide)
      replace w := w.istore (q := 46) (l' := #[.val (.ref a), .val (.double x), .second, .val (.int (1 : Int32)), .val (.int (1 : Int32))]) dp86m6_44 rfl rfl
      replace w := w.iloadN (q := 47) (v := (1 : Int32)) dp86m6_46 rfl rfl
      obtain ⟨-, w⟩ := (w.ifEq (q := 55) (q' := 50) (xi := 1) dp86m6_47 rfl (by decide) (by decide) rfl).resolve_left (fun g => by have hc47 := g.1; revert hc47; decide)
      replace w := w.aloadN (q := 51) (v := (.ref a)) dp86m6_50 rfl rfl rfl
      replace w := w.dloadN (q := 52) (v := x) dp86m6_51 rfl rfl
      obtain ⟨h17, W18, w⟩ := w.putF (q := 55) (C := "com/example/weaverbird/weaverbird/alignment/Subgradient") (hw _ (List.mem_of_getElem? (i := 14) rfl)) (S.2.1) (S.1) (Or.inl (hw _ (List.mem_of_getElem? (i := 15) rfl))) (hw _ (List.mem_of_getElem? (i := 1) rfl)) (ty := .double) (by decide) rfl rfl dp86m6_52 (ge) rfl
      replace S := S.put_least hw W18
      replace w := w.iload (q := 57) (v := (1 : Int32)) dp86m6_55 rfl rfl
      obtain ⟨-, w⟩ := (w.ifEq (q := 68) (q' := 60) (xi := 1) dp86m6_57 rfl (by decide) (by decide) rfl).resolve_left (fun g => by have hc57 := g.1; revert hc57; decide)
      replace w := w.aloadN (q := 61) (v := (.ref a)) dp86m6_60 rfl rfl rfl
      replace w := w.iconst (q := 62) (z := (0 : Int32)) dp86m6_61 (by decide) rfl
      obtain ⟨h19, W20, w⟩ := w.putF (q := 65) (C := "com/example/weaverbird/weaverbird/alignment/Subgradient") (hw _ (List.mem_of_getElem? (i := 34) rfl)) (S.2.2.2.2.2.2.2.2) (S.1) (Or.inl (hw _ (List.mem_of_getElem? (i := 35) rfl))) (hw _ (List.mem_of_getElem? (i := 1) rfl)) (ty := .int) (by decide) rfl rfl dp86m6_62 (ge) rfl
      replace S := S.put_stalled hw W20
      replace w := w.goto (q := 103) dp86m6_65 (by decide) (by decide)
      replace w := w.iloadN (q := 104) (v := (1 : Int32)) dp86m6_103 rfl rfl
      refine w.retZ dp86m6_104 (z := (1 : Int32)) (by decide) ⟨(1 : Int32), x, (0 : Int32), rfl, by rw [hrd]; exact S, ?_, ?_⟩ (by decide) (by decide)
      · rw [hk1]; first | exact Or.inl ⟨by omega, rfl, rfl⟩ | exact Or.inr ⟨by omega, rfl, rfl⟩
      · have e1 : (0 : Int32).toInt = 0 := rfl
        omega
set_option maxRecDepth 65536 in
set_option maxHeartbeats 40000000 in
theorem own_mn (l : Launch) (Z : State) (a0 : Array Value) (hw : ∀ d ∈ tables_1, d.before a0 Z = true) (h0 : Heap) (n0 : Nat) (Z0 : n0 ≤ h0.size) (x y : Int32) :
    Met l Z (⟨"java/lang/Math", "min", "(II)I"⟩ : MethodName) jdk_29_method_69_code 2 (some .int) ({ frames := 0, cells := 0, slots := 0, locals := 0 } : Room) n0 #[(.int x), (.int y)] h0 (fun v h => h = h0 ∧ ∃ r : Int32, v = some (.int r) ∧ (x.toInt ≤ y.toInt ∧ r.toInt = x.toInt ∨ y.toInt < x.toInt ∧ r.toInt = y.toInt)) := by
  refine Met.of (Ls := #[.val (.int x), .val (.int y)]) (Jvm.Free.JP.mathPlain rfl (by decide +kernel)) (fun m => by first | (simp [entryFrame, mkF, argsToLocals, Value.category, maxLocals]; done) | rfl) (fun κ w => ?_)
  replace w : Wk κ l Z "java/lang/Math" "min" jdk_29_method_69_code 2 (some .int) ({ frames := 0, cells := 0, slots := 0, locals := 0 } : Room) n0 h0 0 0 0 #[.val (.int x), .val (.int y)] [] := w
  replace w := w.iloadN (q := 1) (v := x) dj29m69_0 rfl rfl
  replace w := w.iloadN (q := 2) (v := y) dj29m69_1 rfl rfl
  rcases w.icmpGt (q := 9) (q' := 5) (xi := x.toInt) (yi := y.toInt) dj29m69_2 rfl rfl (by decide) (by decide) rfl with ⟨hc2, w⟩ | ⟨hc2, w⟩
  · replace w := w.iloadN (q := 10) (v := y) dj29m69_9 rfl rfl
    exact w.retI dj29m69_10 ⟨rfl, _, rfl, by omega⟩ (by decide) (by decide)
  · replace w := w.iloadN (q := 6) (v := x) dj29m69_5 rfl rfl
    replace w := w.goto (q := 10) dj29m69_6 (by decide) (by decide)
    exact w.retI dj29m69_10 ⟨rfl, _, rfl, by omega⟩ (by decide) (by decide)
set_option maxRecDepth 65536 in
set_option maxHeartbeats 40000000 in
theorem own_le (l : Launch) (Z : State) (a0 : Array Value) (hw : ∀ d ∈ tables_1, d.before a0 Z = true) (h0 : Heap) (n0 : Nat) (Z0 : n0 ≤ h0.size) (a : Nat) (ls fa lp lf : UInt64) (mr rd sd : Int32) (S : Sg Z h0 a (.double ls) (.double fa) (.double lp) (.int mr) (.int 30) (.double lf) (.int rd) (.int sd)) :
    Met l Z (⟨"com/example/weaverbird/weaverbird/alignment/Subgradient", "least", "()D"⟩ : MethodName) prog_86_method_10_code 1 (some .double) ({ frames := 0, cells := 0, slots := 0, locals := 0 } : Room) n0 #[(.ref a)] h0 (fun v h => h = h0 ∧ v = some (.double ls)) := by
  refine Met.of (Ls := #[.val (.ref a)]) (plainFor_of_name pn_0) (fun m => by first | (simp [entryFrame, mkF, argsToLocals, Value.category, maxLocals]; done) | rfl) (fun κ w => ?_)
  replace w : Wk κ l Z "com/example/weaverbird/weaverbird/alignment/Subgradient" "least" prog_86_method_10_code 1 (some .double) ({ frames := 0, cells := 0, slots := 0, locals := 0 } : Room) n0 h0 0 0 0 #[.val (.ref a)] [] := w
  replace w := w.aloadN (q := 1) (v := (.ref a)) dp86m10_0 rfl rfl rfl
  replace w := w.getF (q := 4) (v := (.double ls)) (hw _ (List.mem_of_getElem? (i := 14) rfl)) (S.2.1) dp86m10_1 rfl
  exact w.retD dp86m10_4 ⟨rfl, rfl⟩ (by decide) (by decide)
set_option maxRecDepth 65536 in
set_option maxHeartbeats 40000000 in
theorem own_ro (l : Launch) (Z : State) (a0 : Array Value) (hw : ∀ d ∈ tables_1, d.before a0 Z = true) (h0 : Heap) (n0 : Nat) (Z0 : n0 ≤ h0.size) (a : Nat) (ls fa lp lf : UInt64) (mr rd sd : Int32) (S : Sg Z h0 a (.double ls) (.double fa) (.double lp) (.int mr) (.int 30) (.double lf) (.int rd) (.int sd)) :
    Met l Z (⟨"com/example/weaverbird/weaverbird/alignment/Subgradient", "rounds", "()I"⟩ : MethodName) prog_86_method_9_code 1 (some .int) ({ frames := 0, cells := 0, slots := 0, locals := 0 } : Room) n0 #[(.ref a)] h0 (fun v h => h = h0 ∧ v = some (.int rd)) := by
  refine Met.of (Ls := #[.val (.ref a)]) (plainFor_of_name pn_0) (fun m => by first | (simp [entryFrame, mkF, argsToLocals, Value.category, maxLocals]; done) | rfl) (fun κ w => ?_)
  replace w : Wk κ l Z "com/example/weaverbird/weaverbird/alignment/Subgradient" "rounds" prog_86_method_9_code 1 (some .int) ({ frames := 0, cells := 0, slots := 0, locals := 0 } : Room) n0 h0 0 0 0 #[.val (.ref a)] [] := w
  replace w := w.aloadN (q := 1) (v := (.ref a)) dp86m9_0 rfl rfl rfl
  replace w := w.getF (q := 4) (v := (.int rd)) (hw _ (List.mem_of_getElem? (i := 32) rfl)) (S.2.2.2.2.2.2.2.1) dp86m9_1 rfl
  exact w.retI dp86m9_4 ⟨rfl, rfl⟩ (by decide) (by decide)
set_option maxRecDepth 65536 in
set_option maxHeartbeats 40000000 in
theorem own_fc (l : Launch) (Z : State) (a0 : Array Value) (hw : ∀ d ∈ tables_1, d.before a0 Z = true) (h0 : Heap) (n0 : Nat) (Z0 : n0 ≤ h0.size) (a : Nat) (ls fa lp lf : UInt64) (mr rd sd : Int32) (S : Sg Z h0 a (.double ls) (.double fa) (.double lp) (.int mr) (.int 30) (.double lf) (.int rd) (.int sd)) :
    Met l Z (⟨"com/example/weaverbird/weaverbird/alignment/Subgradient", "factor", "()D"⟩ : MethodName) prog_86_method_11_code 1 (some .double) ({ frames := 0, cells := 0, slots := 0, locals := 0 } : Room) n0 #[(.ref a)] h0 (fun v h => h = h0 ∧ v = some (.double fa)) := by
  refine Met.of (Ls := #[.val (.ref a)]) (plainFor_of_name pn_0) (fun m => by first | (simp [entryFrame, mkF, argsToLocals, Value.category, maxLocals]; done) | rfl) (fun κ w => ?_)
  replace w : Wk κ l Z "com/example/weaverbird/weaverbird/alignment/Subgradient" "factor" prog_86_method_11_code 1 (some .double) ({ frames := 0, cells := 0, slots := 0, locals := 0 } : Room) n0 h0 0 0 0 #[.val (.ref a)] [] := w
  replace w := w.aloadN (q := 1) (v := (.ref a)) dp86m11_0 rfl rfl rfl
  replace w := w.getF (q := 4) (v := (.double fa)) (hw _ (List.mem_of_getElem? (i := 17) rfl)) (S.2.2.1) dp86m11_1 rfl
  exact w.retD dp86m11_4 ⟨rfl, rfl⟩ (by decide) (by decide)
set_option maxRecDepth 65536 in
set_option maxHeartbeats 40000000 in
theorem own_law (l : Launch) (Z : State) (a0 : Array Value) (hw : ∀ d ∈ tables_1, d.before a0 Z = true) (h0 : Heap) (n0 : Nat) (Z0 : n0 ≤ h0.size) (x0 x1 x2 x3 x4 : Int32) :
    Met l Z x code maxLocals ret room_1 n0 #[(.int x0), (.int x1), (.int x2), (.int x3), (.int x4)] h0 (fun v _ => v = some (.int 1)) := by
  refine Met.of (Ls := #[.val (.int x0), .val (.int x1), .val (.int x2), .val (.int x3), .val (.int x4), .unset, .unset, .unset, .unset, .unset, .unset, .unset, .unset, .unset, .unset]) (plainFor_of_name pn_1) (fun m => by first | (simp [entryFrame, mkF, argsToLocals, Value.category, maxLocals]; done) | rfl) (fun κ w => ?_)
  replace w : Wk κ l Z "com/example/weaverbird/weaverbird/alignment/SubgradientLowersPinLaw" "law" code 15 (some .boolean) room_1 n0 h0 0 0 0 #[.val (.int x0), .val (.int x1), .val (.int x2), .val (.int x3), .val (.int x4), .unset, .unset, .unset, .unset, .unset, .unset, .unset, .unset, .unset, .unset] [] := w
  replace w := w.iloadN (q := 1) (v := x0) at_0 rfl rfl
  replace w := w.sipush (q := 4) (z := (255 : Int32)) at_1 (by decide) rfl
  obtain ⟨pp, hpp⟩ : ∃ z : Int32, x0 &&& (255 : Int32) = z := ⟨_, rfl⟩
  replace w := w.iand (q := 5) at_4 hpp rfl
  obtain ⟨lp, hlp⟩ : ∃ z : UInt64, FP.i2d pp = z := ⟨_, rfl⟩
  replace w := w.i2d (q := 6) at_5 hlp rfl
  replace w := w.dstore (q := 8) (l' := #[.val (.int x0), .val (.int x1), .val (.int x2), .val (.int x3), .val (.int x4), .val (.double lp), .second, .unset, .unset, .unset, .unset, .unset, .unset, .unset, .unset]) at_6 rfl rfl
  obtain ⟨h1, a, ea, E, A, D, w⟩ := w.newO (q := 11) (hw _ (List.mem_of_getElem? (i := 0) rfl)) (hw _ (List.mem_of_getElem? (i := 1) rfl)) (hw _ (List.mem_of_getElem? (i := 2) rfl)) at_8 (by decide) (by decide) rfl
  have Fleast : Fld Z h1 a "com/example/weaverbird/weaverbird/alignment/Subgradient" "least" "D" (.double (0 : UInt64)) := D (Or.inl (hw _ (List.mem_of_getElem? (i := 15) rfl))) (ty := .double) (by decide)
  have Ffactor : Fld Z h1 a "com/example/weaverbird/weaverbird/alignment/Subgradient" "factor" "D" (.double (0 : UInt64)) := D (Or.inl (hw _ (List.mem_of_getElem? (i := 18) rfl))) (ty := .double) (by decide)
  have FleastProgress : Fld Z h1 a "com/example/weaverbird/weaverbird/alignment/Subgradient" "leastProgress" "D" (.double (0 : UInt64)) := D (Or.inr (hw _ (List.mem_of_getElem? (i := 20) rfl))) (ty := .double) (by decide)
  have FmostRounds : Fld Z h1 a "com/example/weaverbird/weaverbird/alignment/Subgradient" "mostRounds" "I" (.int (0 : Int32)) := D (Or.inr (hw _ (List.mem_of_getElem? (i := 22) rfl))) (ty := .int) (by decide)
  have FstalledRounds : Fld Z h1 a "com/example/weaverbird/weaverbird/alignment/Subgradient" "stalledRounds" "I" (.int (0 : Int32)) := D (Or.inr (hw _ (List.mem_of_getElem? (i := 24) rfl))) (ty := .int) (by decide)
  have FleastFactor : Fld Z h1 a "com/example/weaverbird/weaverbird/alignment/Subgradient" "leastFactor" "D" (.double (0 : UInt64)) := D (Or.inr (hw _ (List.mem_of_getElem? (i := 26) rfl))) (ty := .double) (by decide)
  have Frounds : Fld Z h1 a "com/example/weaverbird/weaverbird/alignment/Subgradient" "rounds" "I" (.int (0 : Int32)) := D (Or.inl (hw _ (List.mem_of_getElem? (i := 33) rfl))) (ty := .int) (by decide)
  have Fstalled : Fld Z h1 a "com/example/weaverbird/weaverbird/alignment/Subgradient" "stalled" "I" (.int (0 : Int32)) := D (Or.inl (hw _ (List.mem_of_getElem? (i := 35) rfl))) (ty := .int) (by decide)
  have ge : n0 ≤ a := by rw [ea]; exact Z0
  have S : Sg Z h1 a (.double 0) (.double 0) (.double 0) (.int 0) (.int 0) (.double 0) (.int 0) (.int 0) := ⟨A, Fleast, Ffactor, FleastProgress, FmostRounds, FstalledRounds, FleastFactor, Frounds, Fstalled⟩
  replace w := w.dup (q := 12) at_11 rfl rfl
  replace w := w.dload (q := 14) (v := lp) at_12 rfl rfl
  replace w := w.iloadN (q := 15) (v := x1) at_14 rfl rfl
  obtain ⟨_, h2, ⟨rfl, S⟩, w⟩ := w.callI (a := a) (y := (⟨"com/example/weaverbird/weaverbird/alignment/Subgradient", "<init>", "(DI)V"⟩ : MethodName)) (argsL := [(.double lp), (.int x1)]) (rest := [(.ref a)]) (own_i1 l Z a0 hw h1 n0 (Nat.le_of_lt (Nat.lt_of_le_of_lt ge S.lt)) a lp x1 ge S) rfl (hw _ (List.mem_of_getElem? (i := 3) rfl)) (hw _ (List.mem_of_getElem? (i := 4) rfl)) (hw _ (List.mem_of_getElem? (i := 2) rfl)) (hw _ (List.mem_of_getElem? (i := 5) rfl)) (by decide) at_15 (lenOf pd_1 rfl) rfl rfl (by decide) (W := 1) (Nat.le_of_eq rfl) (by decide) (by decide) (by decide) (q := 18) rfl
  replace w := w [(.ref a)] rfl
  replace w := w.astore (q := 20) (l' := #[.val (.int x0), .val (.int x1), .val (.int x2), .val (.int x3), .val (.int x4), .val (.double lp), .second, .val (.ref a), .unset, .unset, .unset, .unset, .unset, .unset, .unset]) at_18 rfl rfl rfl
  replace w := w.aload (q := 22) (v := (.ref a)) at_20 rfl rfl rfl
  replace w := w.iloadN (q := 23) (v := x2) at_22 rfl rfl
  obtain ⟨va, hva⟩ : ∃ z : UInt64, FP.i2d x2 = z := ⟨_, rfl⟩
  replace w := w.i2d (q := 24) at_23 hva rfl
  obtain ⟨_, h3, ⟨r1, ls1, sd1, rfl, S, hr1, hs1, ht1⟩, w⟩ := w.callV (a := a) (y := (⟨"com/example/weaverbird/weaverbird/alignment/Subgradient", "lowers", "(D)Z"⟩ : MethodName)) (argsL := [(.double va)]) (rest := []) (own_lo l Z a0 hw _ n0 (Nat.le_of_lt (Nat.lt_of_le_of_lt ge S.lt)) a va (9218868437227405312 : UInt64) _ lp _ _ _ 0 ge S (by rw [← hlp]; exact own_subI _) (by first | decide | omega) (by first | decide | omega)) (S.1) (hw _ (List.mem_of_getElem? (i := 27) rfl)) (hw _ (List.mem_of_getElem? (i := 28) rfl)) (hw _ (List.mem_of_getElem? (i := 30) rfl)) (hw _ (List.mem_of_getElem? (i := 29) rfl)) (hw _ (List.mem_of_getElem? (i := 2) rfl)) (hw _ (List.mem_of_getElem? (i := 31) rfl)) (by decide) at_24 (lenOf pd_2 rfl) rfl rfl (by decide) (W := 0) (Nat.le_of_eq rfl) (by decide) (by decide) (by decide) (q := 27) rfl
  replace w := w [(.int r1)] rfl
  have e0 : (0 : Int32).toInt = 0 := rfl
  obtain ⟨y1, rfl, hy1, hr1'⟩ : ∃ y : Int32, ls1 = FP.i2d y ∧ y.toInt = x2.toInt ∧ r1.toInt = 1 := by
    rw [← hva, dcmp_pinf (Jvm.Free.Fl.i2d_fin x2) .g] at hr1
    have e1 : (-1 : Int32).toInt = -1 := rfl
    rcases hr1 with ⟨-, q1, q2⟩ | ⟨q0, -, -⟩
    · exact ⟨x2, by rw [q2, hva], rfl, q1⟩
    · exfalso; omega
  replace w := w.istore (q := 29) (l' := #[.val (.int x0), .val (.int x1), .val (.int x2), .val (.int x3), .val (.int x4), .val (.double lp), .second, .val (.ref a), .val (.int r1), .unset, .unset, .unset, .unset, .unset, .unset]) at_27 rfl rfl
  replace w := w.aload (q := 31) (v := (.ref a)) at_29 rfl rfl rfl
  replace w := w.iloadN (q := 32) (v := x3) at_31 rfl rfl
  obtain ⟨vb, hvb⟩ : ∃ z : UInt64, FP.i2d x3 = z := ⟨_, rfl⟩
  replace w := w.i2d (q := 33) at_32 hvb rfl
  obtain ⟨_, h4, ⟨r2, ls2, sd2, rfl, S, hr2, hs2, ht2⟩, w⟩ := w.callV (a := a) (y := (⟨"com/example/weaverbird/weaverbird/alignment/Subgradient", "lowers", "(D)Z"⟩ : MethodName)) (argsL := [(.double vb)]) (rest := []) (own_lo l Z a0 hw _ n0 (Nat.le_of_lt (Nat.lt_of_le_of_lt ge S.lt)) a vb (FP.i2d y1) _ lp _ _ _ sd1 ge S (by rw [← hlp]; exact own_sub _ _) (by first | decide | omega) (by first | decide | omega)) (S.1) (hw _ (List.mem_of_getElem? (i := 27) rfl)) (hw _ (List.mem_of_getElem? (i := 28) rfl)) (hw _ (List.mem_of_getElem? (i := 30) rfl)) (hw _ (List.mem_of_getElem? (i := 29) rfl)) (hw _ (List.mem_of_getElem? (i := 2) rfl)) (hw _ (List.mem_of_getElem? (i := 31) rfl)) (by decide) at_33 (lenOf pd_2 rfl) rfl rfl (by decide) (W := 0) (Nat.le_of_eq rfl) (by decide) (by decide) (by decide) (q := 36) rfl
  replace w := w [(.int r2)] rfl
  obtain ⟨y2, rfl, hy2⟩ : ∃ y : Int32, ls2 = FP.i2d y ∧ (x3.toInt < y1.toInt ∧ r2.toInt = 1 ∧ y.toInt = x3.toInt ∨ y1.toInt ≤ x3.toInt ∧ r2.toInt = 0 ∧ y.toInt = y1.toInt) := by
    have hd := own_dcmp x3 y1 .g
    rw [← hvb] at hr2
    rcases hr2 with ⟨q0, q1, q2⟩ | ⟨q0, q1, q2⟩
    · exact ⟨x3, by rw [q2, hvb], by omega⟩
    · exact ⟨y1, q2, by omega⟩
  replace w := w.istore (q := 38) (l' := #[.val (.int x0), .val (.int x1), .val (.int x2), .val (.int x3), .val (.int x4), .val (.double lp), .second, .val (.ref a), .val (.int r1), .val (.int r2), .unset, .unset, .unset, .unset, .unset]) at_36 rfl rfl
  replace w := w.aload (q := 40) (v := (.ref a)) at_38 rfl rfl rfl
  replace w := w.iload (q := 42) (v := x4) at_40 rfl rfl
  obtain ⟨vc, hvc⟩ : ∃ z : UInt64, FP.i2d x4 = z := ⟨_, rfl⟩
  replace w := w.i2d (q := 43) at_42 hvc rfl
  obtain ⟨_, h5, ⟨r3, ls3, sd3, rfl, S, hr3, hs3, ht3⟩, w⟩ := w.callV (a := a) (y := (⟨"com/example/weaverbird/weaverbird/alignment/Subgradient", "lowers", "(D)Z"⟩ : MethodName)) (argsL := [(.double vc)]) (rest := []) (own_lo l Z a0 hw _ n0 (Nat.le_of_lt (Nat.lt_of_le_of_lt ge S.lt)) a vc (FP.i2d y2) _ lp _ _ _ sd2 ge S (by rw [← hlp]; exact own_sub _ _) (by first | decide | omega) (by first | decide | omega)) (S.1) (hw _ (List.mem_of_getElem? (i := 27) rfl)) (hw _ (List.mem_of_getElem? (i := 28) rfl)) (hw _ (List.mem_of_getElem? (i := 30) rfl)) (hw _ (List.mem_of_getElem? (i := 29) rfl)) (hw _ (List.mem_of_getElem? (i := 2) rfl)) (hw _ (List.mem_of_getElem? (i := 31) rfl)) (by decide) at_43 (lenOf pd_2 rfl) rfl rfl (by decide) (W := 0) (Nat.le_of_eq rfl) (by decide) (by decide) (by decide) (q := 46) rfl
  replace w := w [(.int r3)] rfl
  obtain ⟨y3, rfl, hy3⟩ : ∃ y : Int32, ls3 = FP.i2d y ∧ (x4.toInt < y2.toInt ∧ r3.toInt = 1 ∧ y.toInt = x4.toInt ∨ y2.toInt ≤ x4.toInt ∧ r3.toInt = 0 ∧ y.toInt = y2.toInt) := by
    have hd := own_dcmp x4 y2 .g
    rw [← hvc] at hr3
    rcases hr3 with ⟨q0, q1, q2⟩ | ⟨q0, q1, q2⟩
    · exact ⟨x4, by rw [q2, hvc], by omega⟩
    · exact ⟨y2, q2, by omega⟩
  replace w := w.istore (q := 48) (l' := #[.val (.int x0), .val (.int x1), .val (.int x2), .val (.int x3), .val (.int x4), .val (.double lp), .second, .val (.ref a), .val (.int r1), .val (.int r2), .val (.int r3), .unset, .unset, .unset, .unset]) at_46 rfl rfl
  replace w := w.iloadN (q := 49) (v := x2) at_48 rfl rfl
  replace w := w.iloadN (q := 50) (v := x3) at_49 rfl rfl
  obtain ⟨_, _, ⟨eh, m2, rfl, hm2⟩, w⟩ := w.callS (y := (⟨"java/lang/Math", "min", "(II)I"⟩ : MethodName)) (argsL := [(.int x2), (.int x3)]) (rest := []) (own_mn l Z a0 hw _ n0 (Nat.le_of_lt (Nat.lt_of_le_of_lt ge S.lt)) x2 x3) (hw _ (List.mem_of_getElem? (i := 36) rfl)) (hw _ (List.mem_of_getElem? (i := 37) rfl)) (hw _ (List.mem_of_getElem? (i := 38) rfl)) (hw _ (List.mem_of_getElem? (i := 39) rfl)) (by decide) at_50 (lenOf pd_3 rfl) rfl rfl (by decide) (W := 0) (Nat.le_of_eq rfl) (by decide) (by decide) (by decide) (q := 53) rfl
  rw [eh] at w
  replace w := w [(.int m2)] rfl
  replace w := w.istore (q := 55) (l' := #[.val (.int x0), .val (.int x1), .val (.int x2), .val (.int x3), .val (.int x4), .val (.double lp), .second, .val (.ref a), .val (.int r1), .val (.int r2), .val (.int r3), .val (.int m2), .unset, .unset, .unset]) at_53 rfl rfl
  replace w := w.iload (q := 57) (v := m2) at_55 rfl rfl
  replace w := w.iload (q := 59) (v := x4) at_57 rfl rfl
  obtain ⟨_, _, ⟨eh, m3, rfl, hm3⟩, w⟩ := w.callS (y := (⟨"java/lang/Math", "min", "(II)I"⟩ : MethodName)) (argsL := [(.int m2), (.int x4)]) (rest := []) (own_mn l Z a0 hw _ n0 (Nat.le_of_lt (Nat.lt_of_le_of_lt ge S.lt)) m2 x4) (hw _ (List.mem_of_getElem? (i := 36) rfl)) (hw _ (List.mem_of_getElem? (i := 37) rfl)) (hw _ (List.mem_of_getElem? (i := 38) rfl)) (hw _ (List.mem_of_getElem? (i := 39) rfl)) (by decide) at_59 (lenOf pd_3 rfl) rfl rfl (by decide) (W := 0) (Nat.le_of_eq rfl) (by decide) (by decide) (by decide) (q := 62) rfl
  rw [eh] at w
  replace w := w [(.int m3)] rfl
  replace w := w.istore (q := 64) (l' := #[.val (.int x0), .val (.int x1), .val (.int x2), .val (.int x3), .val (.int x4), .val (.double lp), .second, .val (.ref a), .val (.int r1), .val (.int r2), .val (.int r3), .val (.int m2), .val (.int m3), .unset, .unset]) at_62 rfl rfl
  replace w := w.iloadN (q := 65) (v := x3) at_64 rfl rfl
  replace w := w.iloadN (q := 66) (v := x2) at_65 rfl rfl
  rcases w.icmpGe (q := 73) (q' := 69) (xi := x3.toInt) (yi := x2.toInt) at_66 rfl rfl (by decide) (by decide) rfl with ⟨hc66, w⟩ | ⟨hc66, w⟩
  · replace w := w.iconst (q := 74) (z := (0 : Int32)) at_73 (by decide) rfl
    replace w := w.istore (q := 76) (l' := #[.val (.int x0), .val (.int x1), .val (.int x2), .val (.int x3), .val (.int x4), .val (.double lp), .second, .val (.ref a), .val (.int r1), .val (.int r2), .val (.int r3), .val (.int m2), .val (.int m3), .val (.int (0 : Int32)), .unset]) at_74 rfl rfl
    replace w := w.iload (q := 78) (v := x4) at_76 rfl rfl
    replace w := w.iload (q := 80) (v := m2) at_78 rfl rfl
    rcases w.icmpGe (q := 87) (q' := 83) (xi := x4.toInt) (yi := m2.toInt) at_80 rfl rfl (by decide) (by decide) rfl with ⟨hc80, w⟩ | ⟨hc80, w⟩
    · replace w := w.iconst (q := 88) (z := (0 : Int32)) at_87 (by decide) rfl
      replace w := w.istore (q := 90) (l' := #[.val (.int x0), .val (.int x1), .val (.int x2), .val (.int x3), .val (.int x4), .val (.double lp), .second, .val (.ref a), .val (.int r1), .val (.int r2), .val (.int r3), .val (.int m2), .val (.int m3), .val (.int (0 : Int32)), .val (.int (0 : Int32))]) at_88 rfl rfl
      replace w := w.iload (q := 92) (v := r1) at_90 rfl rfl
      obtain ⟨hc92, w⟩ := (w.ifEq (q := 146) (q' := 95) (xi := r1.toInt) at_92 rfl (by decide) (by decide) rfl).resolve_left (fun g => by have hc92 := g.1; omega)
      replace w := w.iload (q := 97) (v := r2) at_95 rfl rfl
      replace w := w.iload (q := 99) (v := (0 : Int32)) at_97 rfl rfl
      obtain ⟨hc99, w⟩ := (w.icmpNe (q := 146) (q' := 102) (xi := r2.toInt) (yi := 0) at_99 rfl rfl (by decide) (by decide) rfl).resolve_left (fun g => by have hc99 := g.1; omega)
      replace w := w.iload (q := 104) (v := r3) at_102 rfl rfl
      replace w := w.iload (q := 106) (v := (0 : Int32)) at_104 rfl rfl
      obtain ⟨hc106, w⟩ := (w.icmpNe (q := 146) (q' := 109) (xi := r3.toInt) (yi := 0) at_106 rfl rfl (by decide) (by decide) rfl).resolve_left (fun g => by have hc106 := g.1; omega)
      replace w := w.aload (q := 111) (v := (.ref a)) at_109 rfl rfl rfl
      obtain ⟨_, _, ⟨eh, rfl⟩, w⟩ := w.callV (a := a) (y := (⟨"com/example/weaverbird/weaverbird/alignment/Subgradient", "least", "()D"⟩ : MethodName)) (argsL := []) (rest := []) (own_le l Z a0 hw _ n0 (Nat.le_of_lt (Nat.lt_of_le_of_lt ge S.lt)) a _ _ _ _ _ _ _ S) (S.1) (hw _ (List.mem_of_getElem? (i := 40) rfl)) (hw _ (List.mem_of_getElem? (i := 41) rfl)) (hw _ (List.mem_of_getElem? (i := 43) rfl)) (hw _ (List.mem_of_getElem? (i := 42) rfl)) (hw _ (List.mem_of_getElem? (i := 2) rfl)) (hw _ (List.mem_of_getElem? (i := 44) rfl)) (by decide) at_111 (lenOf pd_4 rfl) rfl rfl (by decide) (W := 0) (Nat.le_of_eq rfl) (by decide) (by decide) (by decide) (q := 114) rfl
      rw [eh] at w
      replace w := w [(.double (FP.i2d y3))] rfl
      replace w := w.iload (q := 116) (v := m3) at_114 rfl rfl
      obtain ⟨vm, hvm⟩ : ∃ z : UInt64, FP.i2d m3 = z := ⟨_, rfl⟩
      replace w := w.i2d (q := 117) at_116 hvm rfl
      obtain ⟨kl, hkl⟩ : ∃ z : Int32, cmpValue (FP.dcmp (FP.i2d y3) vm) .l = z := ⟨_, rfl⟩
      replace w := w.dcmp (q := 118) at_117 hkl rfl
      obtain ⟨hc118, w⟩ := (w.ifNe (q := 146) (q' := 121) (xi := kl.toInt) at_118 rfl (by decide) (by decide) rfl).resolve_left (fun g => by have hc118 := g.1; have hd := own_dcmp y3 m3 .l; rw [hvm, hkl] at hd; omega)
      replace w := w.aload (q := 123) (v := (.ref a)) at_121 rfl rfl rfl
      obtain ⟨_, _, ⟨eh, rfl⟩, w⟩ := w.callV (a := a) (y := (⟨"com/example/weaverbird/weaverbird/alignment/Subgradient", "rounds", "()I"⟩ : MethodName)) (argsL := []) (rest := []) (own_ro l Z a0 hw _ n0 (Nat.le_of_lt (Nat.lt_of_le_of_lt ge S.lt)) a _ _ _ _ _ _ _ S) (S.1) (hw _ (List.mem_of_getElem? (i := 45) rfl)) (hw _ (List.mem_of_getElem? (i := 46) rfl)) (hw _ (List.mem_of_getElem? (i := 48) rfl)) (hw _ (List.mem_of_getElem? (i := 47) rfl)) (hw _ (List.mem_of_getElem? (i := 2) rfl)) (hw _ (List.mem_of_getElem? (i := 49) rfl)) (by decide) at_123 (lenOf pd_5 rfl) rfl rfl (by decide) (W := 0) (Nat.le_of_eq rfl) (by decide) (by decide) (by decide) (q := 126) rfl
      rw [eh] at w
      replace w := w [(.int ((0 : Int32) + 1 + 1 + 1))] rfl
      replace w := w.iconst (q := 127) (z := (3 : Int32)) at_126 (by decide) rfl
      obtain ⟨hc127, w⟩ := (w.icmpNe (q := 146) (q' := 130) (xi := ((0 : Int32) + 1 + 1 + 1).toInt) (yi := 3) at_127 rfl rfl (by decide) (by decide) rfl).resolve_left (fun g => by have hc127 := g.1; have e3 : ((0 : Int32) + 1 + 1 + 1).toInt = 3 := rfl; omega)
      replace w := w.aload (q := 132) (v := (.ref a)) at_130 rfl rfl rfl
      obtain ⟨_, _, ⟨eh, rfl⟩, w⟩ := w.callV (a := a) (y := (⟨"com/example/weaverbird/weaverbird/alignment/Subgradient", "factor", "()D"⟩ : MethodName)) (argsL := []) (rest := []) (own_fc l Z a0 hw _ n0 (Nat.le_of_lt (Nat.lt_of_le_of_lt ge S.lt)) a _ _ _ _ _ _ _ S) (S.1) (hw _ (List.mem_of_getElem? (i := 50) rfl)) (hw _ (List.mem_of_getElem? (i := 51) rfl)) (hw _ (List.mem_of_getElem? (i := 53) rfl)) (hw _ (List.mem_of_getElem? (i := 52) rfl)) (hw _ (List.mem_of_getElem? (i := 2) rfl)) (hw _ (List.mem_of_getElem? (i := 54) rfl)) (by decide) at_132 (lenOf pd_4 rfl) rfl rfl (by decide) (W := 0) (Nat.le_of_eq rfl) (by decide) (by decide) (by decide) (q := 135) rfl
      rw [eh] at w
      replace w := w [(.double (4611686018427387904 : UInt64))] rfl
      replace w := w.ldcD (q := 138) (z := (4611686018427387904 : UInt64)) (hw _ (List.mem_of_getElem? (i := 55) rfl)) at_135 rfl
      obtain ⟨kf, hkf⟩ : ∃ z : Int32, cmpValue (FP.dcmp (4611686018427387904 : UInt64) (4611686018427387904 : UInt64)) .l = z := ⟨_, rfl⟩
      replace w := w.dcmp (q := 139) at_138 hkf rfl
      obtain ⟨hc139, w⟩ := (w.ifNe (q := 146) (q' := 142) (xi := kf.toInt) at_139 rfl (by decide) (by decide) rfl).resolve_left (fun g => by have hc139 := g.1; rw [own_two] at hkf; subst hkf; exact hc139 rfl)
      replace w := w.iconst (q := 143) (z := (1 : Int32)) at_142 (by decide) rfl
      replace w := w.goto (q := 147) at_143 (by decide) (by decide)
      exact w.retZ at_147 (z := 1) (by decide) rfl (by decide) (by decide)
    · replace w := w.iconst (q := 84) (z := (1 : Int32)) at_83 (by decide) rfl
      replace w := w.goto (q := 88) at_84 (by decide) (by decide)
      replace w := w.istore (q := 90) (l' := #[.val (.int x0), .val (.int x1), .val (.int x2), .val (.int x3), .val (.int x4), .val (.double lp), .second, .val (.ref a), .val (.int r1), .val (.int r2), .val (.int r3), .val (.int m2), .val (.int m3), .val (.int (0 : Int32)), .val (.int (1 : Int32))]) at_88 rfl rfl
      replace w := w.iload (q := 92) (v := r1) at_90 rfl rfl
      obtain ⟨hc92, w⟩ := (w.ifEq (q := 146) (q' := 95) (xi := r1.toInt) at_92 rfl (by decide) (by decide) rfl).resolve_left (fun g => by have hc92 := g.1; omega)
      replace w := w.iload (q := 97) (v := r2) at_95 rfl rfl
      replace w := w.iload (q := 99) (v := (0 : Int32)) at_97 rfl rfl
      obtain ⟨hc99, w⟩ := (w.icmpNe (q := 146) (q' := 102) (xi := r2.toInt) (yi := 0) at_99 rfl rfl (by decide) (by decide) rfl).resolve_left (fun g => by have hc99 := g.1; omega)
      replace w := w.iload (q := 104) (v := r3) at_102 rfl rfl
      replace w := w.iload (q := 106) (v := (1 : Int32)) at_104 rfl rfl
      obtain ⟨hc106, w⟩ := (w.icmpNe (q := 146) (q' := 109) (xi := r3.toInt) (yi := 1) at_106 rfl rfl (by decide) (by decide) rfl).resolve_left (fun g => by have hc106 := g.1; omega)
      replace w := w.aload (q := 111) (v := (.ref a)) at_109 rfl rfl rfl
      obtain ⟨_, _, ⟨eh, rfl⟩, w⟩ := w.callV (a := a) (y := (⟨"com/example/weaverbird/weaverbird/alignment/Subgradient", "least", "()D"⟩ : MethodName)) (argsL := []) (rest := []) (own_le l Z a0 hw _ n0 (Nat.le_of_lt (Nat.lt_of_le_of_lt ge S.lt)) a _ _ _ _ _ _ _ S) (S.1) (hw _ (List.mem_of_getElem? (i := 40) rfl)) (hw _ (List.mem_of_getElem? (i := 41) rfl)) (hw _ (List.mem_of_getElem? (i := 43) rfl)) (hw _ (List.mem_of_getElem? (i := 42) rfl)) (hw _ (List.mem_of_getElem? (i := 2) rfl)) (hw _ (List.mem_of_getElem? (i := 44) rfl)) (by decide) at_111 (lenOf pd_4 rfl) rfl rfl (by decide) (W := 0) (Nat.le_of_eq rfl) (by decide) (by decide) (by decide) (q := 114) rfl
      rw [eh] at w
      replace w := w [(.double (FP.i2d y3))] rfl
      replace w := w.iload (q := 116) (v := m3) at_114 rfl rfl
      obtain ⟨vm, hvm⟩ : ∃ z : UInt64, FP.i2d m3 = z := ⟨_, rfl⟩
      replace w := w.i2d (q := 117) at_116 hvm rfl
      obtain ⟨kl, hkl⟩ : ∃ z : Int32, cmpValue (FP.dcmp (FP.i2d y3) vm) .l = z := ⟨_, rfl⟩
      replace w := w.dcmp (q := 118) at_117 hkl rfl
      obtain ⟨hc118, w⟩ := (w.ifNe (q := 146) (q' := 121) (xi := kl.toInt) at_118 rfl (by decide) (by decide) rfl).resolve_left (fun g => by have hc118 := g.1; have hd := own_dcmp y3 m3 .l; rw [hvm, hkl] at hd; omega)
      replace w := w.aload (q := 123) (v := (.ref a)) at_121 rfl rfl rfl
      obtain ⟨_, _, ⟨eh, rfl⟩, w⟩ := w.callV (a := a) (y := (⟨"com/example/weaverbird/weaverbird/alignment/Subgradient", "rounds", "()I"⟩ : MethodName)) (argsL := []) (rest := []) (own_ro l Z a0 hw _ n0 (Nat.le_of_lt (Nat.lt_of_le_of_lt ge S.lt)) a _ _ _ _ _ _ _ S) (S.1) (hw _ (List.mem_of_getElem? (i := 45) rfl)) (hw _ (List.mem_of_getElem? (i := 46) rfl)) (hw _ (List.mem_of_getElem? (i := 48) rfl)) (hw _ (List.mem_of_getElem? (i := 47) rfl)) (hw _ (List.mem_of_getElem? (i := 2) rfl)) (hw _ (List.mem_of_getElem? (i := 49) rfl)) (by decide) at_123 (lenOf pd_5 rfl) rfl rfl (by decide) (W := 0) (Nat.le_of_eq rfl) (by decide) (by decide) (by decide) (q := 126) rfl
      rw [eh] at w
      replace w := w [(.int ((0 : Int32) + 1 + 1 + 1))] rfl
      replace w := w.iconst (q := 127) (z := (3 : Int32)) at_126 (by decide) rfl
      obtain ⟨hc127, w⟩ := (w.icmpNe (q := 146) (q' := 130) (xi := ((0 : Int32) + 1 + 1 + 1).toInt) (yi := 3) at_127 rfl rfl (by decide) (by decide) rfl).resolve_left (fun g => by have hc127 := g.1; have e3 : ((0 : Int32) + 1 + 1 + 1).toInt = 3 := rfl; omega)
      replace w := w.aload (q := 132) (v := (.ref a)) at_130 rfl rfl rfl
      obtain ⟨_, _, ⟨eh, rfl⟩, w⟩ := w.callV (a := a) (y := (⟨"com/example/weaverbird/weaverbird/alignment/Subgradient", "factor", "()D"⟩ : MethodName)) (argsL := []) (rest := []) (own_fc l Z a0 hw _ n0 (Nat.le_of_lt (Nat.lt_of_le_of_lt ge S.lt)) a _ _ _ _ _ _ _ S) (S.1) (hw _ (List.mem_of_getElem? (i := 50) rfl)) (hw _ (List.mem_of_getElem? (i := 51) rfl)) (hw _ (List.mem_of_getElem? (i := 53) rfl)) (hw _ (List.mem_of_getElem? (i := 52) rfl)) (hw _ (List.mem_of_getElem? (i := 2) rfl)) (hw _ (List.mem_of_getElem? (i := 54) rfl)) (by decide) at_132 (lenOf pd_4 rfl) rfl rfl (by decide) (W := 0) (Nat.le_of_eq rfl) (by decide) (by decide) (by decide) (q := 135) rfl
      rw [eh] at w
      replace w := w [(.double (4611686018427387904 : UInt64))] rfl
      replace w := w.ldcD (q := 138) (z := (4611686018427387904 : UInt64)) (hw _ (List.mem_of_getElem? (i := 55) rfl)) at_135 rfl
      obtain ⟨kf, hkf⟩ : ∃ z : Int32, cmpValue (FP.dcmp (4611686018427387904 : UInt64) (4611686018427387904 : UInt64)) .l = z := ⟨_, rfl⟩
      replace w := w.dcmp (q := 139) at_138 hkf rfl
      obtain ⟨hc139, w⟩ := (w.ifNe (q := 146) (q' := 142) (xi := kf.toInt) at_139 rfl (by decide) (by decide) rfl).resolve_left (fun g => by have hc139 := g.1; rw [own_two] at hkf; subst hkf; exact hc139 rfl)
      replace w := w.iconst (q := 143) (z := (1 : Int32)) at_142 (by decide) rfl
      replace w := w.goto (q := 147) at_143 (by decide) (by decide)
      exact w.retZ at_147 (z := 1) (by decide) rfl (by decide) (by decide)
  · replace w := w.iconst (q := 70) (z := (1 : Int32)) at_69 (by decide) rfl
    replace w := w.goto (q := 74) at_70 (by decide) (by decide)
    replace w := w.istore (q := 76) (l' := #[.val (.int x0), .val (.int x1), .val (.int x2), .val (.int x3), .val (.int x4), .val (.double lp), .second, .val (.ref a), .val (.int r1), .val (.int r2), .val (.int r3), .val (.int m2), .val (.int m3), .val (.int (1 : Int32)), .unset]) at_74 rfl rfl
    replace w := w.iload (q := 78) (v := x4) at_76 rfl rfl
    replace w := w.iload (q := 80) (v := m2) at_78 rfl rfl
    rcases w.icmpGe (q := 87) (q' := 83) (xi := x4.toInt) (yi := m2.toInt) at_80 rfl rfl (by decide) (by decide) rfl with ⟨hc80, w⟩ | ⟨hc80, w⟩
    · replace w := w.iconst (q := 88) (z := (0 : Int32)) at_87 (by decide) rfl
      replace w := w.istore (q := 90) (l' := #[.val (.int x0), .val (.int x1), .val (.int x2), .val (.int x3), .val (.int x4), .val (.double lp), .second, .val (.ref a), .val (.int r1), .val (.int r2), .val (.int r3), .val (.int m2), .val (.int m3), .val (.int (1 : Int32)), .val (.int (0 : Int32))]) at_88 rfl rfl
      replace w := w.iload (q := 92) (v := r1) at_90 rfl rfl
      obtain ⟨hc92, w⟩ := (w.ifEq (q := 146) (q' := 95) (xi := r1.toInt) at_92 rfl (by decide) (by decide) rfl).resolve_left (fun g => by have hc92 := g.1; omega)
      replace w := w.iload (q := 97) (v := r2) at_95 rfl rfl
      replace w := w.iload (q := 99) (v := (1 : Int32)) at_97 rfl rfl
      obtain ⟨hc99, w⟩ := (w.icmpNe (q := 146) (q' := 102) (xi := r2.toInt) (yi := 1) at_99 rfl rfl (by decide) (by decide) rfl).resolve_left (fun g => by have hc99 := g.1; omega)
      replace w := w.iload (q := 104) (v := r3) at_102 rfl rfl
      replace w := w.iload (q := 106) (v := (0 : Int32)) at_104 rfl rfl
      obtain ⟨hc106, w⟩ := (w.icmpNe (q := 146) (q' := 109) (xi := r3.toInt) (yi := 0) at_106 rfl rfl (by decide) (by decide) rfl).resolve_left (fun g => by have hc106 := g.1; omega)
      replace w := w.aload (q := 111) (v := (.ref a)) at_109 rfl rfl rfl
      obtain ⟨_, _, ⟨eh, rfl⟩, w⟩ := w.callV (a := a) (y := (⟨"com/example/weaverbird/weaverbird/alignment/Subgradient", "least", "()D"⟩ : MethodName)) (argsL := []) (rest := []) (own_le l Z a0 hw _ n0 (Nat.le_of_lt (Nat.lt_of_le_of_lt ge S.lt)) a _ _ _ _ _ _ _ S) (S.1) (hw _ (List.mem_of_getElem? (i := 40) rfl)) (hw _ (List.mem_of_getElem? (i := 41) rfl)) (hw _ (List.mem_of_getElem? (i := 43) rfl)) (hw _ (List.mem_of_getElem? (i := 42) rfl)) (hw _ (List.mem_of_getElem? (i := 2) rfl)) (hw _ (List.mem_of_getElem? (i := 44) rfl)) (by decide) at_111 (lenOf pd_4 rfl) rfl rfl (by decide) (W := 0) (Nat.le_of_eq rfl) (by decide) (by decide) (by decide) (q := 114) rfl
      rw [eh] at w
      replace w := w [(.double (FP.i2d y3))] rfl
      replace w := w.iload (q := 116) (v := m3) at_114 rfl rfl
      obtain ⟨vm, hvm⟩ : ∃ z : UInt64, FP.i2d m3 = z := ⟨_, rfl⟩
      replace w := w.i2d (q := 117) at_116 hvm rfl
      obtain ⟨kl, hkl⟩ : ∃ z : Int32, cmpValue (FP.dcmp (FP.i2d y3) vm) .l = z := ⟨_, rfl⟩
      replace w := w.dcmp (q := 118) at_117 hkl rfl
      obtain ⟨hc118, w⟩ := (w.ifNe (q := 146) (q' := 121) (xi := kl.toInt) at_118 rfl (by decide) (by decide) rfl).resolve_left (fun g => by have hc118 := g.1; have hd := own_dcmp y3 m3 .l; rw [hvm, hkl] at hd; omega)
      replace w := w.aload (q := 123) (v := (.ref a)) at_121 rfl rfl rfl
      obtain ⟨_, _, ⟨eh, rfl⟩, w⟩ := w.callV (a := a) (y := (⟨"com/example/weaverbird/weaverbird/alignment/Subgradient", "rounds", "()I"⟩ : MethodName)) (argsL := []) (rest := []) (own_ro l Z a0 hw _ n0 (Nat.le_of_lt (Nat.lt_of_le_of_lt ge S.lt)) a _ _ _ _ _ _ _ S) (S.1) (hw _ (List.mem_of_getElem? (i := 45) rfl)) (hw _ (List.mem_of_getElem? (i := 46) rfl)) (hw _ (List.mem_of_getElem? (i := 48) rfl)) (hw _ (List.mem_of_getElem? (i := 47) rfl)) (hw _ (List.mem_of_getElem? (i := 2) rfl)) (hw _ (List.mem_of_getElem? (i := 49) rfl)) (by decide) at_123 (lenOf pd_5 rfl) rfl rfl (by decide) (W := 0) (Nat.le_of_eq rfl) (by decide) (by decide) (by decide) (q := 126) rfl
      rw [eh] at w
      replace w := w [(.int ((0 : Int32) + 1 + 1 + 1))] rfl
      replace w := w.iconst (q := 127) (z := (3 : Int32)) at_126 (by decide) rfl
      obtain ⟨hc127, w⟩ := (w.icmpNe (q := 146) (q' := 130) (xi := ((0 : Int32) + 1 + 1 + 1).toInt) (yi := 3) at_127 rfl rfl (by decide) (by decide) rfl).resolve_left (fun g => by have hc127 := g.1; have e3 : ((0 : Int32) + 1 + 1 + 1).toInt = 3 := rfl; omega)
      replace w := w.aload (q := 132) (v := (.ref a)) at_130 rfl rfl rfl
      obtain ⟨_, _, ⟨eh, rfl⟩, w⟩ := w.callV (a := a) (y := (⟨"com/example/weaverbird/weaverbird/alignment/Subgradient", "factor", "()D"⟩ : MethodName)) (argsL := []) (rest := []) (own_fc l Z a0 hw _ n0 (Nat.le_of_lt (Nat.lt_of_le_of_lt ge S.lt)) a _ _ _ _ _ _ _ S) (S.1) (hw _ (List.mem_of_getElem? (i := 50) rfl)) (hw _ (List.mem_of_getElem? (i := 51) rfl)) (hw _ (List.mem_of_getElem? (i := 53) rfl)) (hw _ (List.mem_of_getElem? (i := 52) rfl)) (hw _ (List.mem_of_getElem? (i := 2) rfl)) (hw _ (List.mem_of_getElem? (i := 54) rfl)) (by decide) at_132 (lenOf pd_4 rfl) rfl rfl (by decide) (W := 0) (Nat.le_of_eq rfl) (by decide) (by decide) (by decide) (q := 135) rfl
      rw [eh] at w
      replace w := w [(.double (4611686018427387904 : UInt64))] rfl
      replace w := w.ldcD (q := 138) (z := (4611686018427387904 : UInt64)) (hw _ (List.mem_of_getElem? (i := 55) rfl)) at_135 rfl
      obtain ⟨kf, hkf⟩ : ∃ z : Int32, cmpValue (FP.dcmp (4611686018427387904 : UInt64) (4611686018427387904 : UInt64)) .l = z := ⟨_, rfl⟩
      replace w := w.dcmp (q := 139) at_138 hkf rfl
      obtain ⟨hc139, w⟩ := (w.ifNe (q := 146) (q' := 142) (xi := kf.toInt) at_139 rfl (by decide) (by decide) rfl).resolve_left (fun g => by have hc139 := g.1; rw [own_two] at hkf; subst hkf; exact hc139 rfl)
      replace w := w.iconst (q := 143) (z := (1 : Int32)) at_142 (by decide) rfl
      replace w := w.goto (q := 147) at_143 (by decide) (by decide)
      exact w.retZ at_147 (z := 1) (by decide) rfl (by decide) (by decide)
    · replace w := w.iconst (q := 84) (z := (1 : Int32)) at_83 (by decide) rfl
      replace w := w.goto (q := 88) at_84 (by decide) (by decide)
      replace w := w.istore (q := 90) (l' := #[.val (.int x0), .val (.int x1), .val (.int x2), .val (.int x3), .val (.int x4), .val (.double lp), .second, .val (.ref a), .val (.int r1), .val (.int r2), .val (.int r3), .val (.int m2), .val (.int m3), .val (.int (1 : Int32)), .val (.int (1 : Int32))]) at_88 rfl rfl
      replace w := w.iload (q := 92) (v := r1) at_90 rfl rfl
      obtain ⟨hc92, w⟩ := (w.ifEq (q := 146) (q' := 95) (xi := r1.toInt) at_92 rfl (by decide) (by decide) rfl).resolve_left (fun g => by have hc92 := g.1; omega)
      replace w := w.iload (q := 97) (v := r2) at_95 rfl rfl
      replace w := w.iload (q := 99) (v := (1 : Int32)) at_97 rfl rfl
      obtain ⟨hc99, w⟩ := (w.icmpNe (q := 146) (q' := 102) (xi := r2.toInt) (yi := 1) at_99 rfl rfl (by decide) (by decide) rfl).resolve_left (fun g => by have hc99 := g.1; omega)
      replace w := w.iload (q := 104) (v := r3) at_102 rfl rfl
      replace w := w.iload (q := 106) (v := (1 : Int32)) at_104 rfl rfl
      obtain ⟨hc106, w⟩ := (w.icmpNe (q := 146) (q' := 109) (xi := r3.toInt) (yi := 1) at_106 rfl rfl (by decide) (by decide) rfl).resolve_left (fun g => by have hc106 := g.1; omega)
      replace w := w.aload (q := 111) (v := (.ref a)) at_109 rfl rfl rfl
      obtain ⟨_, _, ⟨eh, rfl⟩, w⟩ := w.callV (a := a) (y := (⟨"com/example/weaverbird/weaverbird/alignment/Subgradient", "least", "()D"⟩ : MethodName)) (argsL := []) (rest := []) (own_le l Z a0 hw _ n0 (Nat.le_of_lt (Nat.lt_of_le_of_lt ge S.lt)) a _ _ _ _ _ _ _ S) (S.1) (hw _ (List.mem_of_getElem? (i := 40) rfl)) (hw _ (List.mem_of_getElem? (i := 41) rfl)) (hw _ (List.mem_of_getElem? (i := 43) rfl)) (hw _ (List.mem_of_getElem? (i := 42) rfl)) (hw _ (List.mem_of_getElem? (i := 2) rfl)) (hw _ (List.mem_of_getElem? (i := 44) rfl)) (by decide) at_111 (lenOf pd_4 rfl) rfl rfl (by decide) (W := 0) (Nat.le_of_eq rfl) (by decide) (by decide) (by decide) (q := 114) rfl
      rw [eh] at w
      replace w := w [(.double (FP.i2d y3))] rfl
      replace w := w.iload (q := 116) (v := m3) at_114 rfl rfl
      obtain ⟨vm, hvm⟩ : ∃ z : UInt64, FP.i2d m3 = z := ⟨_, rfl⟩
      replace w := w.i2d (q := 117) at_116 hvm rfl
      obtain ⟨kl, hkl⟩ : ∃ z : Int32, cmpValue (FP.dcmp (FP.i2d y3) vm) .l = z := ⟨_, rfl⟩
      replace w := w.dcmp (q := 118) at_117 hkl rfl
      obtain ⟨hc118, w⟩ := (w.ifNe (q := 146) (q' := 121) (xi := kl.toInt) at_118 rfl (by decide) (by decide) rfl).resolve_left (fun g => by have hc118 := g.1; have hd := own_dcmp y3 m3 .l; rw [hvm, hkl] at hd; omega)
      replace w := w.aload (q := 123) (v := (.ref a)) at_121 rfl rfl rfl
      obtain ⟨_, _, ⟨eh, rfl⟩, w⟩ := w.callV (a := a) (y := (⟨"com/example/weaverbird/weaverbird/alignment/Subgradient", "rounds", "()I"⟩ : MethodName)) (argsL := []) (rest := []) (own_ro l Z a0 hw _ n0 (Nat.le_of_lt (Nat.lt_of_le_of_lt ge S.lt)) a _ _ _ _ _ _ _ S) (S.1) (hw _ (List.mem_of_getElem? (i := 45) rfl)) (hw _ (List.mem_of_getElem? (i := 46) rfl)) (hw _ (List.mem_of_getElem? (i := 48) rfl)) (hw _ (List.mem_of_getElem? (i := 47) rfl)) (hw _ (List.mem_of_getElem? (i := 2) rfl)) (hw _ (List.mem_of_getElem? (i := 49) rfl)) (by decide) at_123 (lenOf pd_5 rfl) rfl rfl (by decide) (W := 0) (Nat.le_of_eq rfl) (by decide) (by decide) (by decide) (q := 126) rfl
      rw [eh] at w
      replace w := w [(.int ((0 : Int32) + 1 + 1 + 1))] rfl
      replace w := w.iconst (q := 127) (z := (3 : Int32)) at_126 (by decide) rfl
      obtain ⟨hc127, w⟩ := (w.icmpNe (q := 146) (q' := 130) (xi := ((0 : Int32) + 1 + 1 + 1).toInt) (yi := 3) at_127 rfl rfl (by decide) (by decide) rfl).resolve_left (fun g => by have hc127 := g.1; have e3 : ((0 : Int32) + 1 + 1 + 1).toInt = 3 := rfl; omega)
      replace w := w.aload (q := 132) (v := (.ref a)) at_130 rfl rfl rfl
      obtain ⟨_, _, ⟨eh, rfl⟩, w⟩ := w.callV (a := a) (y := (⟨"com/example/weaverbird/weaverbird/alignment/Subgradient", "factor", "()D"⟩ : MethodName)) (argsL := []) (rest := []) (own_fc l Z a0 hw _ n0 (Nat.le_of_lt (Nat.lt_of_le_of_lt ge S.lt)) a _ _ _ _ _ _ _ S) (S.1) (hw _ (List.mem_of_getElem? (i := 50) rfl)) (hw _ (List.mem_of_getElem? (i := 51) rfl)) (hw _ (List.mem_of_getElem? (i := 53) rfl)) (hw _ (List.mem_of_getElem? (i := 52) rfl)) (hw _ (List.mem_of_getElem? (i := 2) rfl)) (hw _ (List.mem_of_getElem? (i := 54) rfl)) (by decide) at_132 (lenOf pd_4 rfl) rfl rfl (by decide) (W := 0) (Nat.le_of_eq rfl) (by decide) (by decide) (by decide) (q := 135) rfl
      rw [eh] at w
      replace w := w [(.double (4611686018427387904 : UInt64))] rfl
      replace w := w.ldcD (q := 138) (z := (4611686018427387904 : UInt64)) (hw _ (List.mem_of_getElem? (i := 55) rfl)) at_135 rfl
      obtain ⟨kf, hkf⟩ : ∃ z : Int32, cmpValue (FP.dcmp (4611686018427387904 : UInt64) (4611686018427387904 : UInt64)) .l = z := ⟨_, rfl⟩
      replace w := w.dcmp (q := 139) at_138 hkf rfl
      obtain ⟨hc139, w⟩ := (w.ifNe (q := 146) (q' := 142) (xi := kf.toInt) at_139 rfl (by decide) (by decide) rfl).resolve_left (fun g => by have hc139 := g.1; rw [own_two] at hkf; subst hkf; exact hc139 rfl)
      replace w := w.iconst (q := 143) (z := (1 : Int32)) at_142 (by decide) rfl
      replace w := w.goto (q := 147) at_143 (by decide) (by decide)
      exact w.retZ at_147 (z := 1) (by decide) rfl (by decide) (by decide)
set_option maxRecDepth 65536 in
set_option maxHeartbeats 40000000 in
theorem comes_1 {Post : Tables → Env → Array Value → State → Outcome → State → Prop} (hpost : ∀ tb e args s v u, (limb_1_1.after args s (.returned v) u = true ∧ limb_1_2.after args s (.returned v) u = true ∧ True) → FrameEnd s (.returned v) u (Jvm.fieldLocs frame_1_writes args s ++ Jvm.arrayLocs frame_1_arrays args s ++ Jvm.staticLocs frame_1_statics s) 16 128 → Post tb e args s (.returned v) u) :
    ArmFor flags0 classFile x code maxLocals ret World_1 tables_1 room_1 Calls_1 rest_1 Pre_1 Post := by
  intro l hfl _ _ p e ha hc hk s m args below hf hA hF happ hP
  obtain ⟨hcalls, hrest, hpre⟩ := hP
  obtain ⟨-, -, -, hnamed, -, -, -, hat⟩ := (Spec.applies_iff hf).mp happ
  obtain ⟨hg, hn⟩ := and_e (Cond.before_iff.mp (show (Jvm.Cond.and given_1 narrow_1).before args s = true from hpre))
  obtain ⟨hg0, hk0⟩ := and_e hg
  obtain ⟨g0, hk1⟩ := and_e hk0
  obtain ⟨g1, hk2⟩ := and_e hk1
  obtain ⟨g2, hk3⟩ := and_e hk2
  obtain ⟨g3, hk4⟩ := and_e hk3
  obtain ⟨v0, v1, v2, v3, v4, rfl⟩ : ∃ v0 v1 v2 v3 v4 : Value, args = #[v0, v1, v2, v3, v4] := by
    have hs : args.size = 5 := by simpa [Cond.value, given_1] using hg0
    obtain ⟨L⟩ := args
    match L, hs with
    | [v0, v1, v2, v3, v4], _ => exact ⟨v0, v1, v2, v3, v4, rfl⟩
  have hw := fun d (hd : d ∈ tables_1) => atoms_spec (ws := Jvm.Cond.code x code maxLocals ret :: tables_1) hat d (List.mem_cons_of_mem _ hd)
  obtain ⟨i0, e0⟩ := is_v g0
  obtain rfl : v0 = (.int i0) := Option.some.inj e0
  obtain ⟨i1, e1⟩ := is_v g1
  obtain rfl : v1 = (.int i1) := Option.some.inj e1
  obtain ⟨i2, e2⟩ := is_v g2
  obtain rfl : v2 = (.int i2) := Option.some.inj e2
  obtain ⟨i3, e3⟩ := is_v g3
  obtain rfl : v3 = (.int i3) := Option.some.inj e3
  obtain ⟨i4, e4⟩ := is_v hk4
  obtain rfl : v4 = (.int i4) := Option.some.inj e4
  obtain ⟨n, o, h1, h2, h3, _, L, rfl, ⟨hv, N⟩, hq⟩ := own_law l s _ hw s.heap s.heap.size (Nat.le_refl _) i0 i1 i2 i3 i4  tables_1 p e ha hc hk s m _ below hf ((Spec.applies_iff_loose hf).mp happ).1 ⟨rfl, State.Warmed39.refl s, rfl⟩ trivial
  subst hv
  refine ⟨n, _, h1, h2, h3, hpost _ _ _ _ _ _ ⟨Cond.after_iff.mpr rfl, Cond.after_iff.mpr (eq_i res_at (Term.int_eval (1)) rfl), trivial⟩ ⟨hq.1, hq.2.1, (hq.2.2.sift fun y hy => Or.inr (N y hy)).mono (by decide) (by decide)⟩⟩
theorem main_1_1 : Claimed_1_1 := comes_1 fun _ _ _ _ _ _ h hF => ⟨h.1, hF⟩
theorem main_1_2 : Claimed_1_2 := comes_1 fun _ _ _ _ _ _ h hF => ⟨h.2.1, hF⟩
end Jvm.Pilot.@@N@@
namespace Jvm.Pilot.@@N@@
open Jvm Jvm.ClassFile Sem Op Lib Jvm.Free Jvm.Stand Jvm.Pilot.@@N@@.Jvm.D
/-! MADE BY PROGRAM (witnessworld.py) out of the Statement's table words and the real class files: 10 classes; the members and pool entries that the words name. The judged class is class 1, her method 1. -/
namespace start1
open Jvm.ClassFile
def u (s : String) : CpInfo := .utf8 (stringToUtf16 s)
/-- a pool by its gaps: so many unusable entries, then the entry; so many at the end -/
def gap : Nat → List CpInfo → List CpInfo
  | 0, r => r
  | n + 1, r => .unusable :: gap n r
def poolList (es : List (Nat × CpInfo)) (last : Nat) : List CpInfo := es.foldr (fun e r => gap e.1 (e.2 :: r)) (gap last [])
def pool (es : List (Nat × CpInfo)) (last : Nat) : Array CpInfo := ⟨poolList es last⟩
def fileOf (pool : Array CpInfo) (this : Nat) (attrs : Array Attribute := #[]) (ms : Array MethodInfo := #[]) (fl : Nat := 33) (sup : Nat := 0) (ifs : Array Nat := #[]) (fds : Array FieldInfo := #[]) : ClassFile where
  minorVersion := 0
  majorVersion := 65
  constantPool := pool
  accessFlags := fl
  thisClass := this
  superClass := sup
  interfaces := ifs
  fields := fds
  methods := ms
  attributes := attrs
def plain (name : String) (sup : Option ClassId) : Class where
  name := name
  kind := .ordinary
  loader := none
  accessFlags := 33
  super := sup
  interfaces := #[]
  cf := none
  fields := #[]
  methods := #[]
  instanceTypes := #[]
  staticTypes := #[]
  resolved := #[]
  callSites := []
  init := .initialized
  statics := none
  mirror := none

def pool0 : Array CpInfo := pool [(5, u "<init>"), (0, u "()V"), (1, .class_ 10), (1, u "java/lang/Object")] 113

def k0c0 : Code := { maxStack := 0, maxLocals := 1, code := object_method_1_code, exceptionTable := #[], attributes := #[] }
def k0m0 : Method := { name := "<init>", desc := "()V", sig := { parameters := [], returnType := none }, accessFlags := 1, code := some k0c0 }
/-- java/lang/Object -/
def k0 : Class := { plain "java/lang/Object" none with
  accessFlags := 33
  interfaces := #[]
  cf := some (fileOf pool0 8 #[] #[{ accessFlags := 1, nameIndex := 5, descriptorIndex := 6, attributes := #[] }] 33 0 #[] #[])
  fields := #[]
  methods := #[k0m0]
  instanceTypes := #[]
  staticTypes := #[]
  resolved := Array.replicate 124 none
  statics := none }

def pool1 : Array CpInfo := pool [(2, .class_ 4), (1, u "java/lang/Object"), (0, u "<init>"), (0, u "()V"), (0, .class_ 8), (0, u "com/example/weaverbird/weaverbird/alignment/Subgradient"), (0, .methodref 7 10), (0, .nameAndType 5 11), (0, u "(DI)V"), (0, .methodref 7 13), (0, .nameAndType 14 15), (0, u "lowers"), (0, u "(D)Z"), (0, .methodref 17 18), (0, .class_ 19), (0, .nameAndType 20 21), (0, u "java/lang/Math"), (0, u "min"), (0, u "(II)I"), (0, .methodref 7 23), (0, .nameAndType 24 25), (0, u "least"), (0, u "()D"), (0, .methodref 7 27), (0, .nameAndType 28 29), (0, u "rounds"), (0, u "()I"), (0, .methodref 7 31), (0, .nameAndType 32 25), (0, u "factor"), (0, .double 4611686018427387904), (1, .class_ 36), (0, u "com/example/weaverbird/weaverbird/alignment/SubgradientLowersPinLaw"), (2, u "law"), (0, u "(IIIII)Z")] 3

def k1m0 : Method := { name := "<init>", desc := "()V", sig := { parameters := [], returnType := none }, accessFlags := 1, code := none }
def k1c1 : Code := { maxStack := 5, maxLocals := 15, code := code, exceptionTable := #[], attributes := #[] }
def k1m1 : Method := { name := "law", desc := "(IIIII)Z", sig := { parameters := [.int, .int, .int, .int, .int], returnType := some .boolean }, accessFlags := 9, code := some k1c1 }
/-- com/example/weaverbird/weaverbird/alignment/SubgradientLowersPinLaw -/
def k1 : Class := { plain "com/example/weaverbird/weaverbird/alignment/SubgradientLowersPinLaw" (some 0) with
  accessFlags := 49
  interfaces := #[]
  cf := some (fileOf pool1 35 #[] #[{ accessFlags := 1, nameIndex := 5, descriptorIndex := 6, attributes := #[] }, { accessFlags := 9, nameIndex := 39, descriptorIndex := 40, attributes := #[] }] 49 2 #[] #[])
  fields := #[]
  methods := #[k1m0, k1m1]
  instanceTypes := #[]
  staticTypes := #[]
  resolved := Array.replicate 44 none
  statics := none }

def pool2 : Array CpInfo := pool [(1, .class_ 2), (0, u "com/example/weaverbird/weaverbird/alignment/Subgradient"), (0, .double 4572414629676717179), (1, .methodref 1 6), (0, .nameAndType 7 8), (0, u "<init>"), (0, u "(DIID)V"), (0, .methodref 10 11), (0, .class_ 12), (0, .nameAndType 7 13), (0, u "java/lang/Object"), (0, u "()V"), (2, .double 9218868437227405312), (1, .fieldref 1 19), (0, .nameAndType 20 21), (0, u "least"), (0, u "D"), (0, .double 4611686018427387904), (1, .fieldref 1 25), (0, .nameAndType 26 21), (0, u "factor"), (0, .fieldref 1 28), (0, .nameAndType 29 21), (0, u "leastProgress"), (0, .fieldref 1 31), (0, .nameAndType 32 33), (0, u "mostRounds"), (0, u "I"), (0, .fieldref 1 35), (0, .nameAndType 36 33), (0, u "stalledRounds"), (0, .fieldref 1 38), (0, .nameAndType 39 21), (0, u "leastFactor"), (2, .fieldref 1 43), (0, .nameAndType 44 33), (0, u "rounds"), (0, .fieldref 1 46), (0, .nameAndType 47 33), (0, u "stalled"), (28, u "SLACK"), (1, u "MOST_ROUNDS"), (1, u "LEAST_FACTOR"), (0, u "STALLED_ROUNDS"), (1, u "PATIENT_ROUNDS"), (1, u "PATIENT_STALLED_ROUNDS"), (1, u "PATIENT_LEAST_FACTOR"), (0, u "(DI)V"), (5, u "()I"), (3, u "lowers"), (0, u "(D)Z"), (2, u "()D")] 13

def k2c0 : Code := { maxStack := 7, maxLocals := 4, code := prog_86_method_1_code, exceptionTable := #[], attributes := #[] }
def k2m0 : Method := { name := "<init>", desc := "(DI)V", sig := { parameters := [.double, .int], returnType := none }, accessFlags := 0, code := some k2c0 }
def k2c1 : Code := { maxStack := 3, maxLocals := 7, code := prog_86_method_2_code, exceptionTable := #[], attributes := #[] }
def k2m1 : Method := { name := "<init>", desc := "(DIID)V", sig := { parameters := [.double, .int, .int, .double], returnType := none }, accessFlags := 2, code := some k2c1 }
def k2c2 : Code := { maxStack := 6, maxLocals := 5, code := prog_86_method_6_code, exceptionTable := #[], attributes := #[] }
def k2m2 : Method := { name := "lowers", desc := "(D)Z", sig := { parameters := [.double], returnType := some .boolean }, accessFlags := 0, code := some k2c2 }
def k2c3 : Code := { maxStack := 1, maxLocals := 1, code := prog_86_method_9_code, exceptionTable := #[], attributes := #[] }
def k2m3 : Method := { name := "rounds", desc := "()I", sig := { parameters := [], returnType := some .int }, accessFlags := 0, code := some k2c3 }
def k2c4 : Code := { maxStack := 2, maxLocals := 1, code := prog_86_method_10_code, exceptionTable := #[], attributes := #[] }
def k2m4 : Method := { name := "least", desc := "()D", sig := { parameters := [], returnType := some .double }, accessFlags := 0, code := some k2c4 }
def k2c5 : Code := { maxStack := 2, maxLocals := 1, code := prog_86_method_11_code, exceptionTable := #[], attributes := #[] }
def k2m5 : Method := { name := "factor", desc := "()D", sig := { parameters := [], returnType := some .double }, accessFlags := 0, code := some k2c5 }
/-- com/example/weaverbird/weaverbird/alignment/Subgradient -/
def k2 : Class := { plain "com/example/weaverbird/weaverbird/alignment/Subgradient" (some 0) with
  accessFlags := 48
  interfaces := #[]
  cf := some (fileOf pool2 1 #[] #[{ accessFlags := 0, nameIndex := 7, descriptorIndex := 88, attributes := #[] }, { accessFlags := 2, nameIndex := 7, descriptorIndex := 8, attributes := #[] }, { accessFlags := 0, nameIndex := 98, descriptorIndex := 99, attributes := #[] }, { accessFlags := 0, nameIndex := 44, descriptorIndex := 94, attributes := #[] }, { accessFlags := 0, nameIndex := 20, descriptorIndex := 102, attributes := #[] }, { accessFlags := 0, nameIndex := 26, descriptorIndex := 102, attributes := #[] }] 48 10 #[] #[{ accessFlags := 26, nameIndex := 76, descriptorIndex := 21, attributes := #[] }, { accessFlags := 24, nameIndex := 78, descriptorIndex := 33, attributes := #[] }, { accessFlags := 26, nameIndex := 80, descriptorIndex := 21, attributes := #[] }, { accessFlags := 26, nameIndex := 81, descriptorIndex := 33, attributes := #[] }, { accessFlags := 24, nameIndex := 83, descriptorIndex := 33, attributes := #[] }, { accessFlags := 26, nameIndex := 85, descriptorIndex := 33, attributes := #[] }, { accessFlags := 26, nameIndex := 87, descriptorIndex := 21, attributes := #[] }, { accessFlags := 18, nameIndex := 29, descriptorIndex := 21, attributes := #[] }, { accessFlags := 18, nameIndex := 32, descriptorIndex := 33, attributes := #[] }, { accessFlags := 18, nameIndex := 36, descriptorIndex := 33, attributes := #[] }, { accessFlags := 18, nameIndex := 39, descriptorIndex := 21, attributes := #[] }, { accessFlags := 2, nameIndex := 44, descriptorIndex := 33, attributes := #[] }, { accessFlags := 2, nameIndex := 20, descriptorIndex := 21, attributes := #[] }, { accessFlags := 2, nameIndex := 26, descriptorIndex := 21, attributes := #[] }, { accessFlags := 2, nameIndex := 47, descriptorIndex := 33, attributes := #[] }])
  fields := #[{ name := "SLACK", type := .double, accessFlags := 26, slot := 0, constantValue := 0 }, { name := "MOST_ROUNDS", type := .int, accessFlags := 24, slot := 1, constantValue := 0 }, { name := "LEAST_FACTOR", type := .double, accessFlags := 26, slot := 2, constantValue := 0 }, { name := "STALLED_ROUNDS", type := .int, accessFlags := 26, slot := 3, constantValue := 0 }, { name := "PATIENT_ROUNDS", type := .int, accessFlags := 24, slot := 4, constantValue := 0 }, { name := "PATIENT_STALLED_ROUNDS", type := .int, accessFlags := 26, slot := 5, constantValue := 0 }, { name := "PATIENT_LEAST_FACTOR", type := .double, accessFlags := 26, slot := 6, constantValue := 0 }, { name := "leastProgress", type := .double, accessFlags := 18, slot := 0, constantValue := 0 }, { name := "mostRounds", type := .int, accessFlags := 18, slot := 1, constantValue := 0 }, { name := "stalledRounds", type := .int, accessFlags := 18, slot := 2, constantValue := 0 }, { name := "leastFactor", type := .double, accessFlags := 18, slot := 3, constantValue := 0 }, { name := "rounds", type := .int, accessFlags := 2, slot := 4, constantValue := 0 }, { name := "least", type := .double, accessFlags := 2, slot := 5, constantValue := 0 }, { name := "factor", type := .double, accessFlags := 2, slot := 6, constantValue := 0 }, { name := "stalled", type := .int, accessFlags := 2, slot := 7, constantValue := 0 }]
  methods := #[k2m0, k2m1, k2m2, k2m3, k2m4, k2m5]
  instanceTypes := #[.double, .int, .int, .double, .int, .double, .double, .int]
  staticTypes := #[.double, .int, .double, .int, .int, .int, .double]
  resolved := Array.replicate 116 none
  statics := none }

def pool3 : Array CpInfo := pool [(1, .class_ 2), (0, u "java/lang/Math"), (1, .class_ 6), (1, u "java/lang/Object"), (0, u "<init>"), (0, u "()V"), (89, .class_ 100), (1, u "java/lang/Math$RandomNumberGeneratorHolder"), (71, u "negativeZeroFloatBits"), (0, u "J"), (2, u "negativeZeroDoubleBits"), (24, u "min"), (43, u "$assertionsDisabled"), (0, u "Z"), (88, u "(II)I"), (2, u "twoToTheDoubleScaleDown"), (0, u "D"), (4, u "twoToTheDoubleScaleUp"), (9, u "E"), (3, u "PI"), (2, u "TAU"), (2, u "DEGREES_TO_RADIANS"), (0, u "RADIANS_TO_DEGREES")] 94

def k3m0 : Method := { name := "<init>", desc := "()V", sig := { parameters := [], returnType := none }, accessFlags := 2, code := none }
def k3c1 : Code := { maxStack := 2, maxLocals := 2, code := jdk_29_method_69_code, exceptionTable := #[], attributes := #[] }
def k3m1 : Method := { name := "min", desc := "(II)I", sig := { parameters := [.int, .int], returnType := some .int }, accessFlags := 9, code := some k3c1 }
/-- java/lang/Math -/
def k3 : Class := { plain "java/lang/Math" (some 0) with
  accessFlags := 49
  interfaces := #[]
  cf := some (fileOf pool3 1 #[.nestMembers #[98]] #[{ accessFlags := 2, nameIndex := 7, descriptorIndex := 8, attributes := #[] }, { accessFlags := 9, nameIndex := 201, descriptorIndex := 335, attributes := #[] }] 49 4 #[] #[{ accessFlags := 25, nameIndex := 354, descriptorIndex := 339, attributes := #[] }, { accessFlags := 25, nameIndex := 358, descriptorIndex := 339, attributes := #[] }, { accessFlags := 25, nameIndex := 361, descriptorIndex := 339, attributes := #[] }, { accessFlags := 26, nameIndex := 364, descriptorIndex := 339, attributes := #[] }, { accessFlags := 26, nameIndex := 365, descriptorIndex := 339, attributes := #[] }, { accessFlags := 26, nameIndex := 172, descriptorIndex := 173, attributes := #[] }, { accessFlags := 26, nameIndex := 176, descriptorIndex := 173, attributes := #[] }, { accessFlags := 8, nameIndex := 344, descriptorIndex := 339, attributes := #[] }, { accessFlags := 8, nameIndex := 338, descriptorIndex := 339, attributes := #[] }, { accessFlags := 4120, nameIndex := 245, descriptorIndex := 246, attributes := #[] }])
  fields := #[{ name := "E", type := .double, accessFlags := 25, slot := 0, constantValue := 0 }, { name := "PI", type := .double, accessFlags := 25, slot := 1, constantValue := 0 }, { name := "TAU", type := .double, accessFlags := 25, slot := 2, constantValue := 0 }, { name := "DEGREES_TO_RADIANS", type := .double, accessFlags := 26, slot := 3, constantValue := 0 }, { name := "RADIANS_TO_DEGREES", type := .double, accessFlags := 26, slot := 4, constantValue := 0 }, { name := "negativeZeroFloatBits", type := .long, accessFlags := 26, slot := 5, constantValue := 0 }, { name := "negativeZeroDoubleBits", type := .long, accessFlags := 26, slot := 6, constantValue := 0 }, { name := "twoToTheDoubleScaleUp", type := .double, accessFlags := 8, slot := 7, constantValue := 0 }, { name := "twoToTheDoubleScaleDown", type := .double, accessFlags := 8, slot := 8, constantValue := 0 }, { name := "$assertionsDisabled", type := .boolean, accessFlags := 4120, slot := 9, constantValue := 0 }]
  methods := #[k3m0, k3m1]
  instanceTypes := #[]
  staticTypes := #[.double, .double, .double, .double, .double, .long, .long, .double, .double, .boolean]
  resolved := Array.replicate 460 none
  statics := none }

def pool4 : Array CpInfo := pool [(1, u "java/lang/Cloneable"), (0, .class_ 1), (0, u "java/lang/Object"), (0, .class_ 3)] 3

/-- java/lang/Cloneable -/
def k4 : Class := { plain "java/lang/Cloneable" (some 0) with
  accessFlags := 1537
  interfaces := #[]
  cf := some (fileOf pool4 2 #[] #[] 1537 4 #[] #[])
  fields := #[]
  methods := #[]
  instanceTypes := #[]
  staticTypes := #[]
  resolved := Array.replicate 8 none
  statics := none }

def pool5 : Array CpInfo := pool [(1, u "java/io/Serializable"), (0, .class_ 1), (0, u "java/lang/Object"), (0, .class_ 3)] 3

/-- java/io/Serializable -/
def k5 : Class := { plain "java/io/Serializable" (some 0) with
  accessFlags := 1537
  interfaces := #[]
  cf := some (fileOf pool5 2 #[] #[] 1537 4 #[] #[])
  fields := #[]
  methods := #[]
  instanceTypes := #[]
  staticTypes := #[]
  resolved := Array.replicate 8 none
  statics := none }

/-- the primitive byte -/
def k6 : Class := { plain "byte" none with kind := .primitive 'B', accessFlags := 0x411 }
/-- [B -/
def k7 : Class := { plain "[B" (some 0) with kind := .array 6 .byte, interfaces := #[4, 5], accessFlags := 1041 }

/-- the primitive int -/
def k8 : Class := { plain "int" none with kind := .primitive 'I', accessFlags := 0x411 }
/-- [I -/
def k9 : Class := { plain "[I" (some 0) with kind := .array 8 .int, interfaces := #[4, 5], accessFlags := 1041 }

def heap : Heap := #[]
def classes : Array Class := #[k0, k1, k2, k3, k4, k5, k6, k7, k8, k9]
def interned : List (Array UInt16 × Addr) := []
def slotsUsed : Nat := 0
def theMethod : MethodId := ⟨1, 1⟩
def args0 : Array Value := #[.int 1, .int 2, .int 5, .int 4, .int 3]
def aboutOver (below : List Frame) : State where
  vm := { classes := classes, interned := interned.toArray }
  heap := heap
  slotsUsed := slotsUsed
  threads := #[{ frames := .invoking theMethod args0 :: below }]
def below0 : List Frame := [.native { method := ⟨0, 0⟩, args := #[] }]
def about1 : State := aboutOver below0
def p0 : Program := .bare "" "" ""
def e0 : Env := launch0.env 0 0 0
theorem w_frames : about1.frames = Frame.invoking theMethod args0 :: below0 := rfl
set_option maxRecDepth 65536 in
theorem w_args : argsFit about1.vm theMethod args0 = true := by decide +kernel
set_option maxRecDepth 65536 in
theorem w_heap : heapFits about1 = true := by decide +kernel
set_option maxRecDepth 65536 in
theorem w_runnable : about1.curStatus? = some .runnable := by decide +kernel
set_option maxRecDepth 65536 in
theorem w_alone : about1.alone = true := by decide +kernel
set_option maxRecDepth 65536 in
theorem w_named : about1.methodNamed? x = some theMethod := by decide +kernel
set_option maxRecDepth 65536 in
theorem w_hears : about1.hears theMethod below0 = true := by decide +kernel
set_option maxRecDepth 65536 in
theorem w_ripe : about1.ripe theMethod args0 below0 = true := by decide +kernel
theorem w_running : about1.status = .running := rfl
set_option maxRecDepth 65536 in
theorem w_room : about1.hasRoom e0.platform room_1 = true :=
  launch0.hasRoom_least _ room_1 (by decide +kernel) (by decide +kernel) (by decide +kernel) (by decide +kernel) (by decide +kernel) (by decide +kernel)
theorem allAtoms_all (ts : List Jvm.Cond) (a : Array Jvm.Value) (st : Jvm.State) : (allAtoms ts).before a st = ts.all (fun c => c.before a st) := by
  induction ts with
  | nil => rfl
  | cons c t ih =>
    show (Jvm.Cond.and c (allAtoms t)).before a st = _
    rw [Jvm.Cond.before_and, ih, List.all_cons]
def words1 : List Jvm.Cond := Jvm.Cond.code x code maxLocals ret :: tables_1
/-- a 'code' word, met by the world's own term for the bytes: nothing is compared byte by byte -/
theorem code_word {y : MethodName} {bytes : ByteArray} {mx : Nat} {rt : Option FieldType} {a : Array Value} {s : State} {m : MethodId} {meth : Method} {c : Code} (h1 : s.methodNamed? y = some m) (h2 : s.vm.method? m = some meth) (h3 : meth.code = some c) (h4 : c.code = bytes)
    (h5 : (c.maxLocals == mx && c.exceptionTable.isEmpty && decide (c.maxStack ≤ mostOperands) && decide (meth.sig.returnType = rt) && !meth.locks && decide (parseMethodDescriptor y.desc = some meth.sig)) = true) : (Jvm.Cond.code y bytes mx rt).before a s = true := by
  simp only [Bool.and_eq_true, beq_iff_eq, Bool.not_eq_true', decide_eq_true_eq] at h5
  obtain ⟨⟨⟨⟨⟨g1, g2⟩, g3⟩, g4⟩, g5⟩, g6⟩ := h5
  simp [Cond.before, Cond.holds, Cond.value, h1, h2, h3, h4, g1, g2, g3, g4, g5, g6]
def isCode : Jvm.Cond → Bool
  | .code _ _ _ _ => true
  | _ => false
theorem all_split {L : List Jvm.Cond} {P : Jvm.Cond → Bool} (h1 : L.all (fun c => isCode c || P c) = true) (h2 : ∀ c ∈ L.filter isCode, P c = true) : L.all P = true := by
  refine List.all_eq_true.mpr fun c hc => ?_
  have h := List.all_eq_true.mp h1 c hc
  rcases Bool.eq_false_or_eq_true (isCode c) with hi | hi
  · exact h2 c (List.mem_filter.mpr ⟨hc, hi⟩)
  · simpa [hi] using h
set_option maxRecDepth 65536 in
theorem w_c0 : (Jvm.Cond.code x code maxLocals ret).before args0 about1 = true := code_word (m := ⟨1, 1⟩) (meth := k1m1) (c := k1c1) (by decide +kernel) rfl rfl rfl (by decide +kernel)
set_option maxRecDepth 65536 in
theorem w_c1 : (Jvm.Cond.code ({ cls := "com/example/weaverbird/weaverbird/alignment/Subgradient", name := "<init>", desc := "(DI)V" } : Jvm.MethodName) prog_86_method_1_code (4 : Nat) (Option.none : Option Jvm.ClassFile.FieldType)).before args0 about1 = true := code_word (m := ⟨2, 0⟩) (meth := k2m0) (c := k2c0) (by decide +kernel) rfl rfl rfl (by decide +kernel)
set_option maxRecDepth 65536 in
theorem w_c2 : (Jvm.Cond.code ({ cls := "com/example/weaverbird/weaverbird/alignment/Subgradient", name := "<init>", desc := "(DIID)V" } : Jvm.MethodName) prog_86_method_2_code (7 : Nat) (Option.none : Option Jvm.ClassFile.FieldType)).before args0 about1 = true := code_word (m := ⟨2, 1⟩) (meth := k2m1) (c := k2c1) (by decide +kernel) rfl rfl rfl (by decide +kernel)
set_option maxRecDepth 65536 in
theorem w_c3 : (Jvm.Cond.code ({ cls := "java/lang/Object", name := "<init>", desc := "()V" } : Jvm.MethodName) object_method_1_code (1 : Nat) (Option.none : Option Jvm.ClassFile.FieldType)).before args0 about1 = true := code_word (m := ⟨0, 0⟩) (meth := k0m0) (c := k0c0) (by decide +kernel) rfl rfl rfl (by decide +kernel)
set_option maxRecDepth 65536 in
theorem w_c4 : (Jvm.Cond.code ({ cls := "com/example/weaverbird/weaverbird/alignment/Subgradient", name := "lowers", desc := "(D)Z" } : Jvm.MethodName) prog_86_method_6_code (5 : Nat) (Option.some Jvm.ClassFile.FieldType.boolean)).before args0 about1 = true := code_word (m := ⟨2, 2⟩) (meth := k2m2) (c := k2c2) (by decide +kernel) rfl rfl rfl (by decide +kernel)
set_option maxRecDepth 65536 in
theorem w_c5 : (Jvm.Cond.code ({ cls := "java/lang/Math", name := "min", desc := "(II)I" } : Jvm.MethodName) jdk_29_method_69_code (2 : Nat) (Option.some Jvm.ClassFile.FieldType.int)).before args0 about1 = true := code_word (m := ⟨3, 1⟩) (meth := k3m1) (c := k3c1) (by decide +kernel) rfl rfl rfl (by decide +kernel)
set_option maxRecDepth 65536 in
theorem w_c6 : (Jvm.Cond.code ({ cls := "com/example/weaverbird/weaverbird/alignment/Subgradient", name := "least", desc := "()D" } : Jvm.MethodName) prog_86_method_10_code (1 : Nat) (Option.some Jvm.ClassFile.FieldType.double)).before args0 about1 = true := code_word (m := ⟨2, 4⟩) (meth := k2m4) (c := k2c4) (by decide +kernel) rfl rfl rfl (by decide +kernel)
set_option maxRecDepth 65536 in
theorem w_c7 : (Jvm.Cond.code ({ cls := "com/example/weaverbird/weaverbird/alignment/Subgradient", name := "rounds", desc := "()I" } : Jvm.MethodName) prog_86_method_9_code (1 : Nat) (Option.some Jvm.ClassFile.FieldType.int)).before args0 about1 = true := code_word (m := ⟨2, 3⟩) (meth := k2m3) (c := k2c3) (by decide +kernel) rfl rfl rfl (by decide +kernel)
set_option maxRecDepth 65536 in
theorem w_c8 : (Jvm.Cond.code ({ cls := "com/example/weaverbird/weaverbird/alignment/Subgradient", name := "factor", desc := "()D" } : Jvm.MethodName) prog_86_method_11_code (1 : Nat) (Option.some Jvm.ClassFile.FieldType.double)).before args0 about1 = true := code_word (m := ⟨2, 5⟩) (meth := k2m5) (c := k2c5) (by decide +kernel) rfl rfl rfl (by decide +kernel)
def codes1 : List Jvm.Cond := [Jvm.Cond.code x code maxLocals ret, Jvm.Cond.code ({ cls := "com/example/weaverbird/weaverbird/alignment/Subgradient", name := "<init>", desc := "(DI)V" } : Jvm.MethodName) prog_86_method_1_code (4 : Nat) (Option.none : Option Jvm.ClassFile.FieldType), Jvm.Cond.code ({ cls := "com/example/weaverbird/weaverbird/alignment/Subgradient", name := "<init>", desc := "(DIID)V" } : Jvm.MethodName) prog_86_method_2_code (7 : Nat) (Option.none : Option Jvm.ClassFile.FieldType), Jvm.Cond.code ({ cls := "java/lang/Object", name := "<init>", desc := "()V" } : Jvm.MethodName) object_method_1_code (1 : Nat) (Option.none : Option Jvm.ClassFile.FieldType), Jvm.Cond.code ({ cls := "com/example/weaverbird/weaverbird/alignment/Subgradient", name := "lowers", desc := "(D)Z" } : Jvm.MethodName) prog_86_method_6_code (5 : Nat) (Option.some Jvm.ClassFile.FieldType.boolean), Jvm.Cond.code ({ cls := "java/lang/Math", name := "min", desc := "(II)I" } : Jvm.MethodName) jdk_29_method_69_code (2 : Nat) (Option.some Jvm.ClassFile.FieldType.int), Jvm.Cond.code ({ cls := "com/example/weaverbird/weaverbird/alignment/Subgradient", name := "least", desc := "()D" } : Jvm.MethodName) prog_86_method_10_code (1 : Nat) (Option.some Jvm.ClassFile.FieldType.double), Jvm.Cond.code ({ cls := "com/example/weaverbird/weaverbird/alignment/Subgradient", name := "rounds", desc := "()I" } : Jvm.MethodName) prog_86_method_9_code (1 : Nat) (Option.some Jvm.ClassFile.FieldType.int), Jvm.Cond.code ({ cls := "com/example/weaverbird/weaverbird/alignment/Subgradient", name := "factor", desc := "()D" } : Jvm.MethodName) prog_86_method_11_code (1 : Nat) (Option.some Jvm.ClassFile.FieldType.double)]
set_option maxRecDepth 65536 in
theorem codes_eq : words1.filter isCode = codes1 := rfl
theorem w_codes : ∀ c ∈ words1.filter isCode, c.before args0 about1 = true := by
  rw [codes_eq]
  intro c hc
  simp only [codes1, List.mem_cons, List.not_mem_nil, or_false] at hc
  rcases hc with rfl | rfl | rfl | rfl | rfl | rfl | rfl | rfl | rfl
  · exact w_c0
  · exact w_c1
  · exact w_c2
  · exact w_c3
  · exact w_c4
  · exact w_c5
  · exact w_c6
  · exact w_c7
  · exact w_c8
set_option maxRecDepth 65536 in
theorem w_t1 : (words1.take 24).all (fun c => isCode c || c.before args0 about1) = true := by decide +kernel
set_option maxRecDepth 65536 in
theorem w_t2 : ((words1.drop 24).take 24).all (fun c => isCode c || c.before args0 about1) = true := by decide +kernel
set_option maxRecDepth 65536 in
theorem w_t3 : ((words1.drop 24).drop 24).all (fun c => isCode c || c.before args0 about1) = true := by decide +kernel
theorem w_tables : (allAtoms (Jvm.Cond.code x code maxLocals ret :: tables_1)).before args0 about1 = true := by
  rw [allAtoms_all]
  show words1.all (fun c => c.before args0 about1) = true
  refine all_split ?_ w_codes
  rw [← List.take_append_drop 24 words1, List.all_append, w_t1, ← List.take_append_drop 24 (words1.drop 24), List.all_append, w_t2, w_t3]
  rfl
set_option maxRecDepth 65536 in
theorem w_case : (Jvm.Cond.and given_1 narrow_1).before args0 about1 = true := by decide +kernel
theorem w_applies : (headSpec (Jvm.Cond.code x code maxLocals ret :: tables_1) room_1).applies x e0.platform about1 = true :=
  (Spec.applies_iff w_frames).mpr ⟨w_running, w_runnable, w_alone, w_named, w_hears, w_ripe, w_room, w_tables⟩
theorem atStart : AtStart classFile x code maxLocals ret World_1 tables_1 room_1 Calls_1 rest_1 Pre_1 launch0 p0 e0 about1 theMethod args0 below0 :=
  ⟨lists_1, trivial, launch0.admits_env _ _ _, launch0.least_env, fairChoices_fair.cas, fairChoices_fair.clock, w_frames, w_args, w_heap, w_applies, trivial, trivial, w_case⟩
end start1
theorem witness_1 : WitnessClaimed_1 := ⟨start1.p0, start1.e0, start1.about1, start1.theMethod, start1.args0, start1.below0, start1.atStart⟩
end Jvm.Pilot.@@N@@
