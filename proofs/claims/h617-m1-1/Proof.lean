import JvmDerived
import JvmDerived.Pilot.@@N@@Statement
import JvmDerived.Pilot.@@N@@Code
set_option linter.unusedVariables false
set_option linter.unusedSimpArgs false
namespace Jvm.Pilot.@@N@@
open Jvm Jvm.ClassFile Sem Op Lib Jvm.Free Jvm.Stand Jvm.LawKit Jvm.RoadKit Bundle Jvm.Pilot.@@N@@.Jvm.D
section OwnKit
variable {p : Program} {l : Launch} {e : Env} {R : Room} {s : State} {m : MethodId} {args : Array Value} {below : List Frame} {meth : Method} {c : Code} {T : State} {locs : List Loc} {cells slots kc ks : Nat} {Z : State} {a0 : Array Value} {own nm : String} {bytes : ByteArray} {ml : Nat} {ret : Option FieldType} {Q : Option Value → Heap → Prop} {h h' : Heap} {pc pc' : Nat} {ls ls' : Array Slot} {st st' rest : List Value}
/-- what is left to show where the run stands at S -/
def OGoal (p : Program) (e : Env) (below : List Frame) (s : State) (kc ks n0 : Nat) (Q : Option Value → Heap → Prop) (S : State) : Prop :=
  ∃ s₂ o, Steps p.tables e below S s₂ ∧ s₂.status = .running ∧ Ended s₂ below o ∧ ∃ v L, o = .returned v ∧ ((Q v s₂.heap ∧ s.heap.size ≤ s₂.heap.size) ∧ Fr n0 L) ∧ FrameEnd s o s₂ L kc ks
theorem OGoal.via {n0 : Nat} {S S' : State} (hs : ∀ t, Steps p.tables e below S' t → Steps p.tables e below S t) (g : OGoal p e below s kc ks n0 Q S') : OGoal p e below s kc ks n0 Q S := by
  obtain ⟨s2, o, h1, r⟩ := g
  exact ⟨s2, o, hs _ h1, r⟩
/-- what holds throughout a body -/
def OCtx (p : Program) (s : State) (m : MethodId) (meth : Method) (c : Code) (Z : State) (own nm : String) (bytes : ByteArray) (ml : Nat) (ret : Option FieldType) : Prop :=
  p.tables.exec = Jvm.exec ∧ Z.Warmed39 s.vm ∧ s.vm.findClass own = some m.cls ∧ c.code = bytes ∧ c.maxLocals = ml ∧ meth.sig.returnType = ret ∧ meth.locks = false ∧ meth.name = nm ∧ Ext Z.heap s.heap
/-- from every state with the heap h whose top frame is g the body comes to its end -/
def OG (p : Program) (l : Launch) (e : Env) (R : Room) (s : State) (m : MethodId) (args : Array Value) (below : List Frame) (meth : Method) (c : Code) (Z : State) (own nm : String) (bytes : ByteArray) (ml : Nat) (ret : Option FieldType) (Q : Option Value → Heap → Prop) (kc ks : Nat) (h : Heap) (cells slots : Nat) (g : JFrame) : Prop :=
  OCtx p s m meth c Z own nm bytes ml ret → ∀ T locs, Stand p l e R s m args below meth c T locs cells slots → T.heap = h → Fr Z.heap.size locs → OGoal p e below s kc ks Z.heap.size Q (T.setTop g)
theorem own_ext (X : Stand p l e R s m args below meth c T locs cells slots) (E : Ext Z.heap s.heap) (N : Fr Z.heap.size locs) : Ext Z.heap T.heap := by
  have q := X.same
  refine ⟨Nat.le_trans E.1 q.2.1, fun a cl hc => ?_⟩
  obtain ⟨c', h1, h2, h3, h4⟩ := q.2.2.2.2.2 a cl (E.2 a cl hc)
  have ha : a < Z.heap.size := (Array.getElem?_eq_some_iff.mp hc).1
  have e1 : c'.slots = cl.slots := Array.ext_getElem? fun i => h4 i fun hm => absurd (N _ hm) (Nat.not_le.mpr ha)
  rw [e1] at h2
  have e2 : c' = cl := h2
  rw [← e2]
  exact h1
/-- the contract of a body, at its arguments and heap -/
def OCtr (l : Launch) (Z : State) (y : MethodName) (yb : ByteArray) (yl : Nat) (yr : Option FieldType) (rm : Room) (as' : Array Value) (h0 : Heap) (yQ : Option Value → Heap → Prop) : Prop :=
  ∀ ws : List Jvm.Cond, MetFree l y (head1 (Jvm.Cond.code y yb yl yr :: ws) rm) (fun a U => a = as' ∧ Z.Warmed39 U.vm ∧ U.heap = h0) (fun _ _ _ _ _ => True) (fun _ U o U' => ∃ v L, o = .returned v ∧ ((yQ v U'.heap ∧ h0.size ≤ U'.heap.size) ∧ Fr Z.heap.size L) ∧ FrameEnd U o U' L rm.cells rm.slots)
theorem o_body {y : MethodName} {yb : ByteArray} {yl : Nat} {yr : Option FieldType} {rm : Room} {as' : Array Value} {h0 : Heap} {yQ : Option Value → Heap → Prop} {ls0 : Array Slot} (hpl : plainFor y = true) (hE : Ext Z.heap h0)
    (hef : ∀ m : MethodId, entryFrame m as' yl = mkF m 0 ls0 [])
    (k : ∀ (p : Program) (e : Env) (s : State) (m : MethodId) (below : List Frame) (meth : Method) (c : Code), OG p l e rm s m as' below meth c Z y.cls y.name yb yl yr yQ rm.cells rm.slots h0 0 0 (mkF m 0 ls0 [])) : OCtr l Z y yb yl yr rm as' h0 yQ := by
  intro ws
  refine MetFree.of_bodySF hpl hisR ?_
  intro p e s m args below meth c s₁ Bd hml0 hP hK
  obtain ⟨rfl, hZ, hh⟩ := hP
  have X0 : Stand p l e rm s m args below meth c s₁ [] 0 0 := Stand.of_body Bd
  have e0 : s₁.heap = h0 := by rw [← hh, Bd.state]; rfl
  have g := k p e s m below meth c ⟨Bd.exec, hZ, findClass_of_methodNamed Bd.named, Bd.bytes, hml0, Bd.returns, Bd.notSynchronized, (name_of_methodNamed Bd.named Bd.method).1, by rw [hh]; exact hE⟩ s₁ [] X0 e0 (Fr.nil _)
  rw [hef]
  rw [← hh]
  exact g
/-- a single step that leaves the heap -/
theorem o_pure {n : Nat} {i : Instr} (hd : decode bytes pc = .ok (i, n)) (hs : ∀ (T : State) (locs : List Loc), Stand p l e R s m args below meth c T locs cells slots → p.tables.exec = Jvm.exec → decode c.code pc = .ok (i, n) → ∀ t, Steps p.tables e below (T.setTop (mkF m pc' ls' st')) t → Steps p.tables e below (T.setTop (mkF m pc ls st)) t)
    (k : OG p l e R s m args below meth c Z own nm bytes ml ret Q kc ks h cells slots (mkF m pc' ls' st')) : OG p l e R s m args below meth c Z own nm bytes ml ret Q kc ks h cells slots (mkF m pc ls st) := by
  intro C T locs X eT N
  exact OGoal.via (hs T locs X C.1 (hb C.2.2.2.1 hd)) (k C T locs X eT N)
/-! pure instructions, as one function -/
def oBI (f : Int32 → Int32 → Int32) (st : List Value) (ls : Array Slot) : Option (List Value × Array Slot) :=
  match st with
  | .int y :: .int x :: r => some (.int (f x y) :: r, ls)
  | _ => none
def oBL (f : Int64 → Int64 → Int64) (st : List Value) (ls : Array Slot) : Option (List Value × Array Slot) :=
  match st with
  | .long y :: .long x :: r => some (.long (f x y) :: r, ls)
  | _ => none
def oBLI (f : Int64 → Int32 → Int64) (st : List Value) (ls : Array Slot) : Option (List Value × Array Slot) :=
  match st with
  | .int y :: .long x :: r => some (.long (f x y) :: r, ls)
  | _ => none
def oUI (f : Int32 → Int32) (st : List Value) (ls : Array Slot) : Option (List Value × Array Slot) :=
  match st with
  | .int x :: r => some (.int (f x) :: r, ls)
  | _ => none
def oLdI (k : Nat) (st : List Value) (ls : Array Slot) : Option (List Value × Array Slot) :=
  match ls[k]? with
  | some (.val (.int v)) => some (.int v :: st, ls)
  | _ => none
def oLdL (k : Nat) (st : List Value) (ls : Array Slot) : Option (List Value × Array Slot) :=
  match ls[k]? with
  | some (.val (.long v)) => some (.long v :: st, ls)
  | _ => none
def oLdA (k : Nat) (st : List Value) (ls : Array Slot) : Option (List Value × Array Slot) :=
  match ls[k]? with
  | some (.val (.ref v)) => some (.ref v :: st, ls)
  | some (.val .null) => some (.null :: st, ls)
  | _ => none
def oStI (k : Nat) (st : List Value) (ls : Array Slot) : Option (List Value × Array Slot) :=
  match st with
  | .int v :: r => (storeLocals ls k (.int v)).map fun l' => (r, l')
  | _ => none
def oStL (k : Nat) (st : List Value) (ls : Array Slot) : Option (List Value × Array Slot) :=
  match st with
  | .long v :: r => (storeLocals ls k (.long v)).map fun l' => (r, l')
  | _ => none
def oStA (k : Nat) (st : List Value) (ls : Array Slot) : Option (List Value × Array Slot) :=
  match st with
  | .ref v :: r => (storeLocals ls k (.ref v)).map fun l' => (r, l')
  | .null :: r => (storeLocals ls k .null).map fun l' => (r, l')
  | _ => none
def oInc (k : Nat) (q : Int) (st : List Value) (ls : Array Slot) : Option (List Value × Array Slot) :=
  match ls[k]? with
  | some (.val (.int v)) => (storeLocals ls k (.int (v + Int32.ofInt q))).map fun l' => (st, l')
  | _ => none
def oI2L (st : List Value) (ls : Array Slot) : Option (List Value × Array Slot) :=
  match st with
  | .int x :: r => some (.long x.toInt64 :: r, ls)
  | _ => none
def oL2I (st : List Value) (ls : Array Slot) : Option (List Value × Array Slot) :=
  match st with
  | .long x :: r => some (.int x.toInt32 :: r, ls)
  | _ => none
def oCmp (st : List Value) (ls : Array Slot) : Option (List Value × Array Slot) :=
  match st with
  | .long y :: .long x :: r => some (.int (XT.cmpL x y) :: r, ls)
  | _ => none
def oDup (st : List Value) (ls : Array Slot) : Option (List Value × Array Slot) :=
  match st with
  | .int x :: r => some (.int x :: .int x :: r, ls)
  | .ref x :: r => some (.ref x :: .ref x :: r, ls)
  | _ => none
def oPop (st : List Value) (ls : Array Slot) : Option (List Value × Array Slot) :=
  match st with
  | .int _ :: r => some (r, ls)
  | .ref _ :: r => some (r, ls)
  | .null :: r => some (r, ls)
  | _ => none
def oDupX (st : List Value) (ls : Array Slot) : Option (List Value × Array Slot) :=
  match st with
  | .int x :: .ref y :: r => some (.int x :: .ref y :: .int x :: r, ls)
  | _ => none
def oDup2 (st : List Value) (ls : Array Slot) : Option (List Value × Array Slot) :=
  match st with
  | .int x :: .ref y :: r => some (.int x :: .ref y :: .int x :: .ref y :: r, ls)
  | _ => none
def oDupX2 (st : List Value) (ls : Array Slot) : Option (List Value × Array Slot) :=
  match st with
  | .int x :: .int z :: .ref y :: r => some (.int x :: .int z :: .ref y :: .int x :: r, ls)
  | _ => none
def oLen : Instr → Nat
  | .iload _ | .lload _ | .aload _ | .istore _ | .lstore _ | .astore _ | .bipush _ => 2
  | .sipush _ | .iinc _ _ => 3
  | _ => 1
def opS (i : Instr) (st : List Value) (ls : Array Slot) : Option (List Value × Array Slot) :=
  match i with
  | .iconst k => some (.int (Int32.ofInt k) :: st, ls)
  | .bipush k => some (.int (Int8.ofInt k).toInt32 :: st, ls)
  | .sipush k => some (.int (Int16.ofInt k).toInt32 :: st, ls)
  | .lconst k => some (.long (Int64.ofNat k) :: st, ls)
  | .aconst_null => some (.null :: st, ls)
  | .iload k => oLdI k st ls
  | .iload_n k => oLdI k.val st ls
  | .lload k => oLdL k st ls
  | .lload_n k => oLdL k.val st ls
  | .aload k => oLdA k st ls
  | .aload_n k => oLdA k.val st ls
  | .istore k => oStI k st ls
  | .istore_n k => oStI k.val st ls
  | .lstore k => oStL k st ls
  | .lstore_n k => oStL k.val st ls
  | .astore k => oStA k st ls
  | .astore_n k => oStA k.val st ls
  | .iinc k q => oInc k q st ls
  | .iadd => oBI (fun x y => x + y) st ls
  | .isub => oBI (fun x y => x - y) st ls
  | .imul => oBI (fun x y => x * y) st ls
  | .iand => oBI (fun x y => x &&& y) st ls
  | .ior => oBI (fun x y => x ||| y) st ls
  | .ixor => oBI (fun x y => x ^^^ y) st ls
  | .ishl => oBI (fun x y => x <<< (y &&& 31)) st ls
  | .ishr => oBI (fun x y => x >>> (y &&& 31)) st ls
  | .iushr => oBI (fun x y => XT.ushr x y) st ls
  | .ladd => oBL (fun x y => x + y) st ls
  | .lsub => oBL (fun x y => x - y) st ls
  | .lmul => oBL (fun x y => x * y) st ls
  | .land => oBL (fun x y => x &&& y) st ls
  | .lor => oBL (fun x y => x ||| y) st ls
  | .lxor => oBL (fun x y => x ^^^ y) st ls
  | .lshl => oBLI (fun x y => x <<< (y.toInt64 &&& 63)) st ls
  | .lshr => oBLI (fun x y => x >>> (y.toInt64 &&& 63)) st ls
  | .lushr => oBLI (fun x y => XT.ushrL x y) st ls
  | .i2b => oUI (fun x => x.toInt8.toInt32) st ls
  | .i2c => oUI (fun x => x.toUInt32.toUInt16.toUInt32.toInt32) st ls
  | .i2s => oUI (fun x => x.toInt16.toInt32) st ls
  | .ineg => oUI (fun x => -x) st ls
  | .i2l => oI2L st ls
  | .l2i => oL2I st ls
  | .lcmp => oCmp st ls
  | .dup => oDup st ls
  | .pop => oPop st ls
  | .dup_x1 => oDupX st ls
  | .dup2 => oDup2 st ls
  | .dup_x2 => oDupX2 st ls
  | _ => none
/-- the instructions from pc on, one behind the other; what stands behind them -/
def oBlk (code : ByteArray) : Nat → List Instr → Option Nat
  | pc, [] => some pc
  | pc, i :: is => if decode code pc = .ok (i, oLen i) then oBlk code (pc + oLen i) is else none
def oRun : List Instr → List Value → Array Slot → Option (List Value × Array Slot)
  | [], st, ls => some (st, ls)
  | i :: is, st, ls => match opS i st ls with
    | some (st', ls') => oRun is st' ls'
    | none => none
theorem oBI_inv {f : Int32 → Int32 → Int32} {r : List Value × Array Slot} (q : oBI f st ls = some r) : ∃ x y t, st = .int y :: .int x :: t ∧ r = (.int (f x y) :: t, ls) := by
  unfold oBI at q
  split at q
  · exact ⟨_, _, _, rfl, (Option.some.inj q).symm⟩
  · cases q
theorem oBL_inv {f : Int64 → Int64 → Int64} {r : List Value × Array Slot} (q : oBL f st ls = some r) : ∃ x y t, st = .long y :: .long x :: t ∧ r = (.long (f x y) :: t, ls) := by
  unfold oBL at q
  split at q
  · exact ⟨_, _, _, rfl, (Option.some.inj q).symm⟩
  · cases q
theorem oBLI_inv {f : Int64 → Int32 → Int64} {r : List Value × Array Slot} (q : oBLI f st ls = some r) : ∃ x y t, st = .int y :: .long x :: t ∧ r = (.long (f x y) :: t, ls) := by
  unfold oBLI at q
  split at q
  · exact ⟨_, _, _, rfl, (Option.some.inj q).symm⟩
  · cases q
theorem oUI_inv {f : Int32 → Int32} {r : List Value × Array Slot} (q : oUI f st ls = some r) : ∃ x t, st = .int x :: t ∧ r = (.int (f x) :: t, ls) := by
  unfold oUI at q
  split at q
  · exact ⟨_, _, rfl, (Option.some.inj q).symm⟩
  · cases q
theorem oLdI_inv {k : Nat} {r : List Value × Array Slot} (q : oLdI k st ls = some r) : ∃ v, ls[k]? = some (.val (.int v)) ∧ r = (.int v :: st, ls) := by
  unfold oLdI at q
  split at q
  · next v hv => exact ⟨v, hv, (Option.some.inj q).symm⟩
  · cases q
theorem oLdL_inv {k : Nat} {r : List Value × Array Slot} (q : oLdL k st ls = some r) : ∃ v, ls[k]? = some (.val (.long v)) ∧ r = (.long v :: st, ls) := by
  unfold oLdL at q
  split at q
  · next v hv => exact ⟨v, hv, (Option.some.inj q).symm⟩
  · cases q
theorem oLdA_inv {k : Nat} {r : List Value × Array Slot} (q : oLdA k st ls = some r) : ∃ v, ls[k]? = some (.val v) ∧ v.isRef = true ∧ r = (v :: st, ls) := by
  unfold oLdA at q
  split at q
  · next v hv => exact ⟨.ref v, hv, rfl, (Option.some.inj q).symm⟩
  · next hv => exact ⟨.null, hv, rfl, (Option.some.inj q).symm⟩
  · cases q
theorem own_map {o : Option (Array Slot)} {t : List Value} {r : List Value × Array Slot} (q : o.map (fun l' => (t, l')) = some r) : ∃ l', o = some l' ∧ r = (t, l') := by
  cases o with
  | none => cases q
  | some l' => exact ⟨l', rfl, (Option.some.inj q).symm⟩
theorem oStI_inv {k : Nat} {r : List Value × Array Slot} (q : oStI k st ls = some r) : ∃ v t l', st = .int v :: t ∧ storeLocals ls k (.int v) = some l' ∧ r = (t, l') := by
  unfold oStI at q
  split at q
  · obtain ⟨l', h1, h2⟩ := own_map q; exact ⟨_, _, l', rfl, h1, h2⟩
  · cases q
theorem oStL_inv {k : Nat} {r : List Value × Array Slot} (q : oStL k st ls = some r) : ∃ v t l', st = .long v :: t ∧ storeLocals ls k (.long v) = some l' ∧ r = (t, l') := by
  unfold oStL at q
  split at q
  · obtain ⟨l', h1, h2⟩ := own_map q; exact ⟨_, _, l', rfl, h1, h2⟩
  · cases q
theorem oStA_inv {k : Nat} {r : List Value × Array Slot} (q : oStA k st ls = some r) : ∃ v t l', st = v :: t ∧ v.isRef = true ∧ storeLocals ls k v = some l' ∧ r = (t, l') := by
  unfold oStA at q
  split at q
  · obtain ⟨l', h1, h2⟩ := own_map q; exact ⟨_, _, l', rfl, rfl, h1, h2⟩
  · obtain ⟨l', h1, h2⟩ := own_map q; exact ⟨_, _, l', rfl, rfl, h1, h2⟩
  · cases q
theorem oInc_inv {k : Nat} {z : Int} {r : List Value × Array Slot} (q : oInc k z st ls = some r) : ∃ v l', ls[k]? = some (.val (.int v)) ∧ storeLocals ls k (.int (v + Int32.ofInt z)) = some l' ∧ r = (st, l') := by
  unfold oInc at q
  split at q
  · next v hv => obtain ⟨l', h1, h2⟩ := own_map q; exact ⟨v, l', hv, h1, h2⟩
  · cases q
theorem oI2L_inv {r : List Value × Array Slot} (q : oI2L st ls = some r) : ∃ x t, st = .int x :: t ∧ r = (.long x.toInt64 :: t, ls) := by
  unfold oI2L at q
  split at q
  · exact ⟨_, _, rfl, (Option.some.inj q).symm⟩
  · cases q
theorem oL2I_inv {r : List Value × Array Slot} (q : oL2I st ls = some r) : ∃ x t, st = .long x :: t ∧ r = (.int x.toInt32 :: t, ls) := by
  unfold oL2I at q
  split at q
  · exact ⟨_, _, rfl, (Option.some.inj q).symm⟩
  · cases q
theorem oCmp_inv {r : List Value × Array Slot} (q : oCmp st ls = some r) : ∃ x y t, st = .long y :: .long x :: t ∧ r = (.int (XT.cmpL x y) :: t, ls) := by
  unfold oCmp at q
  split at q
  · exact ⟨_, _, _, rfl, (Option.some.inj q).symm⟩
  · cases q
theorem oDup_inv {r : List Value × Array Slot} (q : oDup st ls = some r) : ∃ x t, st = x :: t ∧ x.category = 1 ∧ r = (x :: x :: t, ls) := by
  unfold oDup at q
  split at q
  · exact ⟨_, _, rfl, rfl, (Option.some.inj q).symm⟩
  · exact ⟨_, _, rfl, rfl, (Option.some.inj q).symm⟩
  · cases q
theorem oPop_inv {r : List Value × Array Slot} (q : oPop st ls = some r) : ∃ x t, st = x :: t ∧ x.category = 1 ∧ r = (t, ls) := by
  unfold oPop at q
  split at q
  · exact ⟨_, _, rfl, rfl, (Option.some.inj q).symm⟩
  · exact ⟨_, _, rfl, rfl, (Option.some.inj q).symm⟩
  · exact ⟨_, _, rfl, rfl, (Option.some.inj q).symm⟩
  · cases q
theorem oDupX_inv {r : List Value × Array Slot} (q : oDupX st ls = some r) : ∃ x y t, st = .int x :: .ref y :: t ∧ r = (.int x :: .ref y :: .int x :: t, ls) := by
  unfold oDupX at q
  split at q
  · exact ⟨_, _, _, rfl, (Option.some.inj q).symm⟩
  · cases q
theorem oDup2_inv {r : List Value × Array Slot} (q : oDup2 st ls = some r) : ∃ x y t, st = .int x :: .ref y :: t ∧ r = (.int x :: .ref y :: .int x :: .ref y :: t, ls) := by
  unfold oDup2 at q
  split at q
  · exact ⟨_, _, _, rfl, (Option.some.inj q).symm⟩
  · cases q
theorem oDupX2_inv {r : List Value × Array Slot} (q : oDupX2 st ls = some r) : ∃ x z y t, st = .int x :: .int z :: .ref y :: t ∧ r = (.int x :: .int z :: .ref y :: .int x :: t, ls) := by
  unfold oDupX2 at q
  split at q
  · exact ⟨_, _, _, _, rfl, (Option.some.inj q).symm⟩
  · cases q
theorem own_dupX2 {tb : Tables} [Ours tb] {target : State} {g : JFrame} (h : At T m c below) (hx : tb.exec = Jvm.exec) (hg : g.method = m) {x y z : Value} (hd : decode c.code g.pc = .ok (.dup_x2, 1)) (hs : g.stack = x :: y :: z :: rest) (hc : x.category = 1) (hc' : y.category = 1) (hc2 : z.category = 1)
    (hr : Steps tb e below (T.setTop { g with pc := g.pc + 1, stack := x :: y :: z :: x :: rest }) target) : Steps tb e below (T.setTop g) target := by
  subst hg
  jvm_step h [h.top, hx, hd, hs, hc, hc', hc2]
  exact hr
theorem o_op {i : Instr} (hd : decode bytes pc = .ok (i, oLen i)) (q : opS i st ls = some (st', ls'))
    (k : OG p l e R s m args below meth c Z own nm bytes ml ret Q kc ks h cells slots (mkF m (pc + oLen i) ls' st')) : OG p l e R s m args below meth c Z own nm bytes ml ret Q kc ks h cells slots (mkF m pc ls st) := by
  refine o_pure hd (fun T locs X hx hd t kk => ?_) k
  cases i with
  | iconst z => cases q; exact XS.iconst X.here hx rfl hd kk
  | bipush z => cases q; exact XS.bipush X.here hx rfl hd kk
  | sipush z => cases q; exact XS.sipush X.here hx rfl hd kk
  | lconst z => cases q; exact XT.lconst X.here hx rfl hd kk
  | aconst_null => cases q; exact XS.aconstNull X.here hx rfl hd kk
  | iload z => obtain ⟨v, h1, h3⟩ := oLdI_inv q; cases h3; exact XS.iload X.here hx rfl hd h1 kk
  | iload_n z => obtain ⟨v, h1, h3⟩ := oLdI_inv q; cases h3; exact XS.iloadN X.here hx rfl hd h1 kk
  | lload z => obtain ⟨v, h1, h3⟩ := oLdL_inv q; cases h3; exact XT.lload X.here hx rfl hd h1 kk
  | lload_n z => obtain ⟨v, h1, h3⟩ := oLdL_inv q; cases h3; exact XT.lloadN X.here hx rfl hd h1 kk
  | aload z => obtain ⟨v, h1, h2, h3⟩ := oLdA_inv q; cases h3; exact XS.aload X.here hx rfl hd h1 h2 kk
  | aload_n z => obtain ⟨v, h1, h2, h3⟩ := oLdA_inv q; cases h3; exact XS.aloadN X.here hx rfl hd h1 h2 kk
  | istore z => obtain ⟨v, r, l', rfl, h2, h3⟩ := oStI_inv q; cases h3; exact XS.istore X.here hx rfl hd rfl h2 kk
  | istore_n z => obtain ⟨v, r, l', rfl, h2, h3⟩ := oStI_inv q; cases h3; exact XS.istoreN X.here hx rfl hd rfl h2 kk
  | lstore z => obtain ⟨v, r, l', rfl, h2, h3⟩ := oStL_inv q; cases h3; exact XT.lstore X.here hx rfl hd rfl h2 kk
  | lstore_n z => obtain ⟨v, r, l', rfl, h2, h3⟩ := oStL_inv q; cases h3; exact XT.lstoreN X.here hx rfl hd rfl h2 kk
  | astore z => obtain ⟨v, r, l', rfl, h1, h2, h3⟩ := oStA_inv q; cases h3; exact XS.astore X.here hx rfl hd rfl h1 h2 kk
  | astore_n z => obtain ⟨v, r, l', rfl, h1, h2, h3⟩ := oStA_inv q; cases h3; exact XS.astoreN X.here hx rfl hd rfl h1 h2 kk
  | iinc z y => obtain ⟨v, l', h1, h2, h3⟩ := oInc_inv q; cases h3; exact XS.iinc X.here hx rfl hd h1 h2 kk
  | iadd => obtain ⟨x, y, r, rfl, h3⟩ := oBI_inv q; cases h3; exact XS.iadd X.here hx rfl hd rfl kk
  | isub => obtain ⟨x, y, r, rfl, h3⟩ := oBI_inv q; cases h3; exact XS.isub X.here hx rfl hd rfl kk
  | imul => obtain ⟨x, y, r, rfl, h3⟩ := oBI_inv q; cases h3; exact XS.imul X.here hx rfl hd rfl kk
  | iand => obtain ⟨x, y, r, rfl, h3⟩ := oBI_inv q; cases h3; exact XS.iand X.here hx rfl hd rfl kk
  | ior => obtain ⟨x, y, r, rfl, h3⟩ := oBI_inv q; cases h3; exact XT.ior X.here hx rfl hd rfl kk
  | ixor => obtain ⟨x, y, r, rfl, h3⟩ := oBI_inv q; cases h3; exact XT.ixor X.here hx rfl hd rfl kk
  | ishl => obtain ⟨x, y, r, rfl, h3⟩ := oBI_inv q; cases h3; exact XT.ishl X.here hx rfl hd rfl kk
  | ishr => obtain ⟨x, y, r, rfl, h3⟩ := oBI_inv q; cases h3; exact XT.ishr X.here hx rfl hd rfl kk
  | iushr => obtain ⟨x, y, r, rfl, h3⟩ := oBI_inv q; cases h3; exact XT.iushr X.here hx rfl hd rfl kk
  | ladd => obtain ⟨x, y, r, rfl, h3⟩ := oBL_inv q; cases h3; exact XT.ladd X.here hx rfl hd rfl kk
  | lsub => obtain ⟨x, y, r, rfl, h3⟩ := oBL_inv q; cases h3; exact XT.lsub X.here hx rfl hd rfl kk
  | lmul => obtain ⟨x, y, r, rfl, h3⟩ := oBL_inv q; cases h3; exact XT.lmul X.here hx rfl hd rfl kk
  | land => obtain ⟨x, y, r, rfl, h3⟩ := oBL_inv q; cases h3; exact XT.land X.here hx rfl hd rfl kk
  | lor => obtain ⟨x, y, r, rfl, h3⟩ := oBL_inv q; cases h3; exact XT.lor X.here hx rfl hd rfl kk
  | lxor => obtain ⟨x, y, r, rfl, h3⟩ := oBL_inv q; cases h3; exact XT.lxor X.here hx rfl hd rfl kk
  | lshl => obtain ⟨x, y, r, rfl, h3⟩ := oBLI_inv q; cases h3; exact XT.lshl X.here hx rfl hd rfl kk
  | lshr => obtain ⟨x, y, r, rfl, h3⟩ := oBLI_inv q; cases h3; exact XT.lshr X.here hx rfl hd rfl kk
  | lushr => obtain ⟨x, y, r, rfl, h3⟩ := oBLI_inv q; cases h3; exact XT.lushr X.here hx rfl hd rfl kk
  | i2b => obtain ⟨x, r, rfl, h3⟩ := oUI_inv q; cases h3; exact XT.i2b X.here hx rfl hd rfl kk
  | i2c => obtain ⟨x, r, rfl, h3⟩ := oUI_inv q; cases h3; exact XT.i2c X.here hx rfl hd rfl kk
  | i2s => obtain ⟨x, r, rfl, h3⟩ := oUI_inv q; cases h3; exact XT.i2s X.here hx rfl hd rfl kk
  | ineg => obtain ⟨x, r, rfl, h3⟩ := oUI_inv q; cases h3; exact XS.ineg X.here hx rfl hd rfl kk
  | i2l => obtain ⟨x, r, rfl, h3⟩ := oI2L_inv q; cases h3; exact XT.i2l X.here hx rfl hd rfl kk
  | l2i => obtain ⟨x, r, rfl, h3⟩ := oL2I_inv q; cases h3; exact XT.l2i X.here hx rfl hd rfl kk
  | lcmp => obtain ⟨x, y, r, rfl, h3⟩ := oCmp_inv q; cases h3; exact XT.lcmp X.here hx rfl hd rfl kk
  | dup => obtain ⟨x, r, rfl, hc, h3⟩ := oDup_inv q; cases h3; exact XS.dup X.here hx rfl hd rfl hc kk
  | pop => obtain ⟨x, r, rfl, hc, h3⟩ := oPop_inv q; cases h3; exact XT.pop X.here hx rfl hd rfl hc kk
  | dup_x1 => obtain ⟨x, y, r, rfl, h3⟩ := oDupX_inv q; cases h3; exact XT.dupX1 X.here hx rfl hd rfl rfl rfl kk
  | dup2 => obtain ⟨x, y, r, rfl, h3⟩ := oDup2_inv q; cases h3; exact XT.dup2 X.here hx rfl hd rfl rfl rfl kk
  | dup_x2 => obtain ⟨x, z, y, r, rfl, h3⟩ := oDupX2_inv q; cases h3; exact own_dupX2 X.here hx rfl hd rfl rfl rfl rfl kk
  | _ => cases q
theorem o_blk : ∀ {is : List Instr} {pc : Nat} {st : List Value} {ls : Array Slot}, oBlk bytes pc is = some pc' → oRun is st ls = some (st', ls') →
    OG p l e R s m args below meth c Z own nm bytes ml ret Q kc ks h cells slots (mkF m pc' ls' st') → OG p l e R s m args below meth c Z own nm bytes ml ret Q kc ks h cells slots (mkF m pc ls st)
  | [], pc, st, ls, hb, hr, k => by
    cases hb; cases hr; exact k
  | i :: is, pc, st, ls, hb, hr, k => by
    unfold oBlk at hb
    split at hb
    · next hd =>
      unfold oRun at hr
      split at hr
      · next st1 ls1 hq => exact o_op hd hq (o_blk hb hr k)
      · cases hr
    · cases hb
/-! branches -/
def oC : ClassFile.Cond → Int32 → Int32 → Prop
  | .eq, x, y => x = y
  | .ne, x, y => ¬ x = y
  | .lt, x, y => x < y
  | .ge, x, y => ¬ x < y
  | .gt, x, y => y < x
  | .le, x, y => ¬ y < x
def oCn : ClassFile.Cond → Int32 → Int32 → Prop
  | .eq, x, y => ¬ x = y
  | .ne, x, y => x = y
  | .lt, x, y => ¬ x < y
  | .ge, x, y => x < y
  | .gt, x, y => ¬ y < x
  | .le, x, y => y < x
theorem oC_yes {cd : ClassFile.Cond} {x y : Int32} (q : oC cd x y) : if_icmp.holds cd x y = true := by
  cases cd
  · exact (teq q).1
  · exact (feq q).2
  · exact (tlt q).1
  · exact (flt q).2.1
  · exact (tlt q).2.2.1
  · exact (flt q).2.2.2
theorem oC_no {cd : ClassFile.Cond} {x y : Int32} (q : oCn cd x y) : if_icmp.holds cd x y = false := by
  cases cd
  · exact (feq q).1
  · exact (teq q).2
  · exact (flt q).1
  · exact (tlt q).2.1
  · exact (flt q).2.2.1
  · exact (tlt q).2.2.2
theorem oC_or (cd : ClassFile.Cond) (x y : Int32) : oC cd x y ∨ oCn cd x y := by
  cases cd
  · exact Classical.em _
  · exact (Classical.em (x = y)).symm
  · exact Classical.em _
  · exact (Classical.em (x < y)).symm
  · exact Classical.em _
  · exact (Classical.em (y < x)).symm
theorem o_ifY {cd : ClassFile.Cond} {o : Int} {x : Int32} (hd : decode bytes pc = .ok (.ifCond cd o, 3)) (ho : 0 ≤ (pc : Int) + o) (hp : ((pc : Int) + o).toNat = pc') (hc : oC cd x 0)
    (k : OG p l e R s m args below meth c Z own nm bytes ml ret Q kc ks h cells slots (mkF m pc' ls rest)) : OG p l e R s m args below meth c Z own nm bytes ml ret Q kc ks h cells slots (mkF m pc ls (.int x :: rest)) :=
  o_pure hd (fun T locs X hx hd t kk => XS.ifYes X.here hx rfl (pc0 := pc) rfl hd rfl (by rw [if0]; exact oC_yes hc) ho hp kk) k
theorem o_ifN {cd : ClassFile.Cond} {o : Int} {x : Int32} (hd : decode bytes pc = .ok (.ifCond cd o, 3)) (hp : pc + 3 = pc') (hc : oCn cd x 0)
    (k : OG p l e R s m args below meth c Z own nm bytes ml ret Q kc ks h cells slots (mkF m pc' ls rest)) : OG p l e R s m args below meth c Z own nm bytes ml ret Q kc ks h cells slots (mkF m pc ls (.int x :: rest)) :=
  o_pure hd (fun T locs X hx hd t kk => XS.ifNo X.here hx rfl hd rfl (by rw [if0]; exact oC_no hc) (by subst hp; exact kk)) k
theorem o_if {cd : ClassFile.Cond} {o : Int} {x : Int32} {pc'' : Nat} (hd : decode bytes pc = .ok (.ifCond cd o, 3)) (ho : 0 ≤ (pc : Int) + o) (hp : ((pc : Int) + o).toNat = pc') (hp' : pc + 3 = pc'')
    (ky : oC cd x 0 → OG p l e R s m args below meth c Z own nm bytes ml ret Q kc ks h cells slots (mkF m pc' ls rest)) (kn : oCn cd x 0 → OG p l e R s m args below meth c Z own nm bytes ml ret Q kc ks h cells slots (mkF m pc'' ls rest)) : OG p l e R s m args below meth c Z own nm bytes ml ret Q kc ks h cells slots (mkF m pc ls (.int x :: rest)) :=
  (oC_or cd x 0).elim (fun q => o_ifY hd ho hp q (ky q)) (fun q => o_ifN hd hp' q (kn q))
theorem o_icY {cd : ClassFile.Cond} {o : Int} {x y : Int32} (hd : decode bytes pc = .ok (.if_icmp cd o, 3)) (ho : 0 ≤ (pc : Int) + o) (hp : ((pc : Int) + o).toNat = pc') (hc : oC cd x y)
    (k : OG p l e R s m args below meth c Z own nm bytes ml ret Q kc ks h cells slots (mkF m pc' ls rest)) : OG p l e R s m args below meth c Z own nm bytes ml ret Q kc ks h cells slots (mkF m pc ls (.int y :: .int x :: rest)) :=
  o_pure hd (fun T locs X hx hd t kk => XS.icmpYes X.here hx rfl (pc0 := pc) rfl hd rfl (oC_yes hc) ho hp kk) k
theorem o_icN {cd : ClassFile.Cond} {o : Int} {x y : Int32} (hd : decode bytes pc = .ok (.if_icmp cd o, 3)) (hp : pc + 3 = pc') (hc : oCn cd x y)
    (k : OG p l e R s m args below meth c Z own nm bytes ml ret Q kc ks h cells slots (mkF m pc' ls rest)) : OG p l e R s m args below meth c Z own nm bytes ml ret Q kc ks h cells slots (mkF m pc ls (.int y :: .int x :: rest)) :=
  o_pure hd (fun T locs X hx hd t kk => XS.icmpNo X.here hx rfl hd rfl (oC_no hc) (by subst hp; exact kk)) k
theorem o_ic {cd : ClassFile.Cond} {o : Int} {x y : Int32} {pc'' : Nat} (hd : decode bytes pc = .ok (.if_icmp cd o, 3)) (ho : 0 ≤ (pc : Int) + o) (hp : ((pc : Int) + o).toNat = pc') (hp' : pc + 3 = pc'')
    (ky : oC cd x y → OG p l e R s m args below meth c Z own nm bytes ml ret Q kc ks h cells slots (mkF m pc' ls rest)) (kn : oCn cd x y → OG p l e R s m args below meth c Z own nm bytes ml ret Q kc ks h cells slots (mkF m pc'' ls rest)) : OG p l e R s m args below meth c Z own nm bytes ml ret Q kc ks h cells slots (mkF m pc ls (.int y :: .int x :: rest)) :=
  (oC_or cd x y).elim (fun q => o_icY hd ho hp q (ky q)) (fun q => o_icN hd hp' q (kn q))
def oA : ClassFile.ACond → Value → Value → Prop
  | .eq, x, y => x = y
  | .ne, x, y => ¬ x = y
def oAn : ClassFile.ACond → Value → Value → Prop
  | .eq, x, y => ¬ x = y
  | .ne, x, y => x = y
theorem o_acY {cd : ClassFile.ACond} {o : Int} {x y : Value} (hd : decode bytes pc = .ok (.if_acmp cd o, 3)) (hx' : x.isRef = true) (hy' : y.isRef = true) (ho : 0 ≤ (pc : Int) + o) (hp : ((pc : Int) + o).toNat = pc') (hc : oA cd x y)
    (k : OG p l e R s m args below meth c Z own nm bytes ml ret Q kc ks h cells slots (mkF m pc' ls rest)) : OG p l e R s m args below meth c Z own nm bytes ml ret Q kc ks h cells slots (mkF m pc ls (y :: x :: rest)) :=
  o_pure hd (fun T locs X hx hd t kk => XT.acmpYes X.here hx rfl (pc0 := pc) rfl hd rfl hx' hy' (by cases cd <;> exact decide_eq_true hc) ho hp kk) k
theorem o_acN {cd : ClassFile.ACond} {o : Int} {x y : Value} (hd : decode bytes pc = .ok (.if_acmp cd o, 3)) (hx' : x.isRef = true) (hy' : y.isRef = true) (hp : pc + 3 = pc') (hc : oAn cd x y)
    (k : OG p l e R s m args below meth c Z own nm bytes ml ret Q kc ks h cells slots (mkF m pc' ls rest)) : OG p l e R s m args below meth c Z own nm bytes ml ret Q kc ks h cells slots (mkF m pc ls (y :: x :: rest)) :=
  o_pure hd (fun T locs X hx hd t kk => XT.acmpNo X.here hx rfl hd rfl hx' hy' (by cases cd <;> first | exact decide_eq_false hc | exact decide_eq_false (fun q => q hc)) (by subst hp; exact kk)) k
theorem o_goto {o : Int} (hd : decode bytes pc = .ok (.goto o, 3)) (ho : 0 ≤ (pc : Int) + o) (hp : ((pc : Int) + o).toNat = pc')
    (k : OG p l e R s m args below meth c Z own nm bytes ml ret Q kc ks h cells slots (mkF m pc' ls st)) : OG p l e R s m args below meth c Z own nm bytes ml ret Q kc ks h cells slots (mkF m pc ls st) :=
  o_pure hd (fun T locs X hx hd t kk => XS.goto X.here hx rfl (pc0 := pc) rfl hd ho hp kk) k
theorem o_irem {x y : Int32} (hd : decode bytes pc = .ok (.irem, 1)) (hy : y ≠ 0) (hp : pc + 1 = pc')
    (k : OG p l e R s m args below meth c Z own nm bytes ml ret Q kc ks h cells slots (mkF m pc' ls (.int (x % y) :: rest))) : OG p l e R s m args below meth c Z own nm bytes ml ret Q kc ks h cells slots (mkF m pc ls (.int y :: .int x :: rest)) :=
  o_pure hd (fun T locs X hx hd t kk => iremM X hx rfl hd rfl hy (by subst hp; exact kk)) k
theorem o_idiv {x y : Int32} (hd : decode bytes pc = .ok (.idiv, 1)) (hy : y ≠ 0) (hp : pc + 1 = pc')
    (k : OG p l e R s m args below meth c Z own nm bytes ml ret Q kc ks h cells slots (mkF m pc' ls (.int (x / y) :: rest))) : OG p l e R s m args below meth c Z own nm bytes ml ret Q kc ks h cells slots (mkF m pc ls (.int y :: .int x :: rest)) :=
  o_pure hd (fun T locs X hx hd t kk => XS.idiv X.here hx rfl hd rfl hy (by subst hp; exact kk)) k
/-! constants, statics -/
theorem o_ldc {index : Nat} {v : Int32} (w : (Cond.constant own index v).before a0 Z = true) (hd : decode bytes pc = .ok (.ldc index, 2)) (hp : pc + 2 = pc')
    (k : OG p l e R s m args below meth c Z own nm bytes ml ret Q kc ks h cells slots (mkF m pc' ls (.int v :: st))) : OG p l e R s m args below meth c Z own nm bytes ml ret Q kc ks h cells slots (mkF m pc ls st) := by
  intro C T locs X eT N
  refine OGoal.via (fun t kk => X.ldcInt C.1 C.2.2.1 (mvT C.2.1 w) (g := mkF m pc ls st) rfl (hb C.2.2.2.1 hd) t ?_) (k C T locs X eT N)
  subst hp
  exact kk
theorem o_ldc2 {index : Nat} {v : Int64} (w : (Cond.constantLong own index v).before a0 Z = true) (hd : decode bytes pc = .ok (.ldc2_w index, 3)) (hp : pc + 3 = pc')
    (k : OG p l e R s m args below meth c Z own nm bytes ml ret Q kc ks h cells slots (mkF m pc' ls (.long v :: st))) : OG p l e R s m args below meth c Z own nm bytes ml ret Q kc ks h cells slots (mkF m pc ls st) := by
  intro C T locs X eT N
  refine OGoal.via (fun t kk => X.ldc2Long C.1 C.2.2.1 (mvT C.2.1 w) (g := mkF m pc ls st) rfl (hb C.2.2.2.1 hd) t ?_) (k C T locs X eT N)
  subst hp
  exact kk
theorem o_getS {O n d : String} {index : Nat} {v : Value} (w : (Cond.fieldLink own index O n d).before a0 Z = true) (F : Sta Z Z.heap O n d v) (hd : decode bytes pc = .ok (.getstatic index, 3)) (hp : pc + 3 = pc')
    (k : OG p l e R s m args below meth c Z own nm bytes ml ret Q kc ks h cells slots (mkF m pc' ls (v :: st))) : OG p l e R s m args below meth c Z own nm bytes ml ret Q kc ks h cells slots (mkF m pc ls st) := by
  intro C T locs X eT N
  obtain ⟨T', X', e', stp⟩ := getS (host := "") X C.1 C.2.1 C.2.2.1 w Via.refl eT (F.ext (eT ▸ own_ext X C.2.2.2.2.2.2.2.2 N)) (g := mkF m pc ls st) rfl (hb C.2.2.2.1 hd)
  subst hp
  exact OGoal.via stp (k C T' locs X' e' N)
/-! returns -/
theorem own_end {v : Option Value} {S : State} (X : Stand p l e R s m args below meth c T locs cells slots) (hlk : meth.locks = false) (hv : meth.sig.returnType = none → v = none) (hc : cells ≤ kc) (hs : slots ≤ ks) (N : Fr Z.heap.size locs) (eT : T.heap = h) (hq : Q v h)
    (stp : ∀ fs, (∀ (f : JFrame) (acts : List Action), f.method = m → f.locked = none → f.entered = [] → (doReturn e (T.setTop f) acts v).1 = T.setFrames fs) → Steps p.tables e below S (T.setFrames fs)) : OGoal p e below s kc ks Z.heap.size Q S := by
  obtain ⟨fs, hr, hrun, hended, hW, hsame⟩ := X.leave (v := v) hv hlk
  exact ⟨_, _, stp fs hr, hrun, hended, v, locs, rfl, ⟨⟨by rw [show (T.setFrames fs).heap = h from eT]; exact hq, X.same.2.1⟩, N⟩, ⟨v, rfl⟩, hW, hsame.mono hc hs⟩
theorem o_retI {z : Int32} (hd : decode bytes pc = .ok (.ireturn, 1)) (hc : cells ≤ kc) (hs : slots ≤ ks) (hr : ret = some .int) (hq : Q (some (.int z)) h) : OG p l e R s m args below meth c Z own nm bytes ml ret Q kc ks h cells slots (mkF m pc ls (.int z :: rest)) := by
  intro C T locs X eT N
  have hR : meth.sig.returnType = some .int := C.2.2.2.2.2.1.trans hr
  exact own_end X C.2.2.2.2.2.2.1 (fun q => by rw [hR] at q; cases q) hc hs N eT hq (fun fs hl => retOut X C.1 hR rfl (Or.inl ⟨rfl, Or.inl rfl, z, rfl⟩) (hb C.2.2.2.1 hd) hl)
theorem o_retZ {z w : Int32} (hd : decode bytes pc = .ok (.ireturn, 1)) (hc : cells ≤ kc) (hs : slots ≤ ks) (hr : ret = some .boolean) (hz : z = 0 ∨ z = 1) (hq : Q (some (.int z)) h) : OG p l e R s m args below meth c Z own nm bytes ml ret Q kc ks h cells slots (mkF m pc ls (.int z :: rest)) := by
  intro C T locs X eT N
  have hR : meth.sig.returnType = some .boolean := C.2.2.2.2.2.1.trans hr
  have hn : nar .boolean z = z := by rcases hz with rfl | rfl <;> rfl
  exact own_end X C.2.2.2.2.2.2.1 (fun q => by rw [hR] at q; cases q) hc hs N eT hq (fun fs hl => retN X C.1 hR (Or.inl rfl) (hb C.2.2.2.1 hd) (by rw [hn]; exact hl))
theorem o_retL {z : Int64} (hd : decode bytes pc = .ok (.lreturn, 1)) (hc : cells ≤ kc) (hs : slots ≤ ks) (hr : ret = some .long) (hq : Q (some (.long z)) h) : OG p l e R s m args below meth c Z own nm bytes ml ret Q kc ks h cells slots (mkF m pc ls (.long z :: rest)) := by
  intro C T locs X eT N
  have hR : meth.sig.returnType = some .long := C.2.2.2.2.2.1.trans hr
  exact own_end X C.2.2.2.2.2.2.1 (fun q => by rw [hR] at q; cases q) hc hs N eT hq (fun fs hl => retOut X C.1 hR rfl (Or.inr (Or.inl ⟨rfl, rfl, z, rfl⟩)) (hb C.2.2.2.1 hd) hl)
theorem o_retA {w : Value} {t : FieldType} (hd : decode bytes pc = .ok (.areturn, 1)) (hc : cells ≤ kc) (hs : slots ≤ ks) (hr : ret = some t) (ht : t.isReference = true) (hw : w.isRef = true) (hq : Q (some w) h) : OG p l e R s m args below meth c Z own nm bytes ml ret Q kc ks h cells slots (mkF m pc ls (w :: rest)) := by
  intro C T locs X eT N
  have hR : meth.sig.returnType = some t := C.2.2.2.2.2.1.trans hr
  have hn : narrow t w = w := by cases t <;> first | rfl | (cases ht; done)
  exact own_end X C.2.2.2.2.2.2.1 (fun q => by rw [hR] at q; cases q) hc hs N eT hq (fun fs hl => retOut X C.1 hR hn (Or.inr (Or.inr (Or.inr (Or.inr ⟨rfl, ht, hw⟩)))) (hb C.2.2.2.1 hd) hl)
theorem o_retV (hd : decode bytes pc = .ok (.return_, 1)) (hc : cells ≤ kc) (hs : slots ≤ ks) (hr : ret = none) (hq : Q none h) : OG p l e R s m args below meth c Z own nm bytes ml ret Q kc ks h cells slots (mkF m pc ls []) := by
  intro C T locs X eT N
  exact own_end X C.2.2.2.2.2.2.1 (fun _ => rfl) hc hs N eT hq (fun fs hl => X.returnOut C.1 (C.2.2.2.2.2.1.trans hr) (hb C.2.2.2.1 hd) hl)
/-! calls -/
theorem o_callS {index yl W : Nat} {y : MethodName} {yb : ByteArray} {yr : Option FieldType} {rm : Room} {yQ : Option Value → Heap → Prop} {argsL : List Value} {ps : List FieldType} {yr' : Option FieldType}
    (w1 : (Cond.methodLink own index y).before a0 Z = true) (w2 : (Cond.static y).before a0 Z = true) (w3 : (Cond.initialized y.cls).before a0 Z = true) (w4 : (Cond.code y yb yl yr).before a0 Z = true)
    (hy : y.cls ≠ "java/lang/invoke/MethodHandle" ∧ y.cls ≠ "java/lang/invoke/VarHandle") (K : Ext Z.heap h → OCtr l Z y yb yl yr rm argsL.toArray h yQ) (hd : decode bytes pc = .ok (.invokestatic index, 3))
    (hpd : parseMethodDescriptor y.desc = some ⟨ps, yr'⟩) (hpl : argsL.length = ps.length) (hsz : ls.size = ml) (hst : st = argsL.reverse ++ rest) (hW : (rest.map fun v => v.category).sum ≤ W)
    (hf : rm.frames + 1 ≤ R.frames) (hl : W + (yl + 11) + rm.locals ≤ R.locals) (hcc : cells + rm.cells ≤ R.cells) (hss : slots + rm.slots ≤ R.slots) (hp : pc + 3 = pc')
    (k : ∀ v h', yQ v h' → h.size ≤ h'.size → OG p l e R s m args below meth c Z own nm bytes ml ret Q kc ks h' (cells + rm.cells) (slots + rm.slots) (mkF m pc' ls (v.toList ++ rest))) : OG p l e R s m args below meth c Z own nm bytes ml ret Q kc ks h cells slots (mkF m pc ls st) := by
  intro C T locs X eT N
  have hE : Ext Z.heap h := eT ▸ own_ext X C.2.2.2.2.2.2.2.2 N
  obtain ⟨v, vm₁, ⟨T', L', k', n'⟩, -, X', ⟨L, ⟨hQ, hN⟩, e1, e2, e3⟩, stp⟩ := Jvm.LawKit.callS X C.1 (y := y) C.2.2.1 (mvT C.2.1 w1) (mvT C.2.1 w2) (mvT C.2.1 w3) (mvT C.2.1 w4) hy
    (backOf (W := W) (Q := fun v h2 L => (yQ v h2 ∧ h.size ≤ h2.size) ∧ Fr Z.heap.size L) (K hE []) C.2.1 w4 w3 hf hl) (g := mkF m pc ls st) rfl (hsz.trans C.2.2.2.2.1.symm) (argsL := argsL) (rest := rest) (lenOf hpd hpl) hst (by show 2 * 0 + _ ≤ _; rw [Nat.mul_zero, Nat.zero_add]; exact hW) (hb C.2.2.2.1 hd) (fun _ _ => ⟨rfl, eT, hcc, hss⟩)
  dsimp only [Pt.U, Pt.locs, Pt.cells, Pt.slots] at X' e1 e2 e3 hQ stp
  subst e1 e2 e3 hp
  exact OGoal.via stp (k v T'.heap hQ.1 hQ.2 C T' _ X' rfl (Fr.app N hN))
theorem o_callV {index yl W : Nat} {C0 C1 : String} {y z : MethodName} {yb : ByteArray} {yr : Option FieldType} {rm : Room} {yQ : Option Value → Heap → Prop} {a : Addr} {argsL : List Value} {ps : List FieldType} {yr' : Option FieldType}
    (w1 : (Cond.methodLink own index y).before a0 Z = true) (w2 : (Cond.declares y).before a0 Z = true) (w3 : (Cond.selects C0 y z).before a0 Z = true) (wf : (Cond.selects C1 y y).before a0 Z = true) (w4 : (Cond.instanceMethod z).before a0 Z = true) (w5 : (Cond.code z yb yl yr).before a0 Z = true) (w6 : (Cond.initialized z.cls).before a0 Z = true)
    (hy : y.cls ≠ "java/lang/invoke/MethodHandle" ∧ y.cls ≠ "java/lang/invoke/VarHandle") (E : Exa Z h a C0) (K : Ext Z.heap h → OCtr l Z z yb yl yr rm (.ref a :: argsL).toArray h yQ) (hd : decode bytes pc = .ok (.invokevirtual index, 3))
    (hpd : parseMethodDescriptor y.desc = some ⟨ps, yr'⟩) (hpl : argsL.length = ps.length) (hsz : ls.size = ml) (hst : st = argsL.reverse ++ .ref a :: rest) (hW : (rest.map fun v => v.category).sum ≤ W)
    (hf : rm.frames + 1 ≤ R.frames) (hl : W + (yl + 11) + rm.locals ≤ R.locals) (hcc : cells + rm.cells ≤ R.cells) (hss : slots + rm.slots ≤ R.slots) (hp : pc + 3 = pc')
    (k : ∀ v h', yQ v h' → h.size ≤ h'.size → OG p l e R s m args below meth c Z own nm bytes ml ret Q kc ks h' (cells + rm.cells) (slots + rm.slots) (mkF m pc' ls (v.toList ++ rest))) : OG p l e R s m args below meth c Z own nm bytes ml ret Q kc ks h cells slots (mkF m pc ls st) := by
  intro C T locs X eT N
  have hE : Ext Z.heap h := eT ▸ own_ext X C.2.2.2.2.2.2.2.2 N
  obtain ⟨cq, kq, qa, qb, qc⟩ := isOf C.2.1 eT E
  obtain ⟨v, vm₁, ⟨T', L', k', n'⟩, -, X', ⟨L, ⟨hQ, hN⟩, e1, e2, e3⟩, stp⟩ := X.virtualBack C.1 (y := y) (z := z) C.2.2.1 (mvT C.2.1 w1) (mvT C.2.1 w2) (notFace_of_selects (args := #[]) (mvT C.2.1 wf)) (mvT C.2.1 w3) (mvT C.2.1 w4) hy
    (backOf (W := W) (Q := fun v h2 L => (yQ v h2 ∧ h.size ≤ h2.size) ∧ Fr Z.heap.size L) (K hE []) C.2.1 w5 w6 hf hl) qa qc (g := mkF m pc ls st) rfl (hsz.trans C.2.2.2.2.1.symm) (Steps.refl _) (argsL := argsL) (rest := rest) (lenOf hpd hpl) hst (by show 2 * 0 + _ ≤ _; rw [Nat.mul_zero, Nat.zero_add]; exact hW) (hb C.2.2.2.1 hd) (fun _ _ => ⟨rfl, eT, hcc, hss⟩)
  dsimp only [Pt.U, Pt.locs, Pt.cells, Pt.slots] at X' e1 e2 e3 hQ stp
  subst e1 e2 e3 hp
  exact OGoal.via (fun t kk => stp.trans kk) (k v T'.heap hQ.1 hQ.2 C T' _ X' rfl (Fr.app N hN))
theorem o_callI {index yl W : Nat} {y : MethodName} {yb : ByteArray} {rm : Room} {yQ : Option Value → Heap → Prop} {a : Addr} {argsL : List Value} {ps : List FieldType} {yr' : Option FieldType}
    (hyn : y.name = "<init>") (w1 : (Cond.methodLink own index y).before a0 Z = true) (w4 : (Cond.instanceMethod y).before a0 Z = true) (w5 : (Cond.code y yb yl none).before a0 Z = true) (w6 : (Cond.initialized y.cls).before a0 Z = true)
    (hy : y.cls ≠ "java/lang/invoke/MethodHandle" ∧ y.cls ≠ "java/lang/invoke/VarHandle") (K : Ext Z.heap h → OCtr l Z y yb yl none rm (.ref a :: argsL).toArray h yQ) (hd : decode bytes pc = .ok (.invokespecial index, 3))
    (hpd : parseMethodDescriptor y.desc = some ⟨ps, yr'⟩) (hpl : argsL.length = ps.length) (hsz : ls.size = ml) (hst : st = argsL.reverse ++ .ref a :: rest) (hW : (rest.map fun v => v.category).sum ≤ W)
    (hf : rm.frames + 1 ≤ R.frames) (hl : W + (yl + 11) + rm.locals ≤ R.locals) (hcc : cells + rm.cells ≤ R.cells) (hss : slots + rm.slots ≤ R.slots) (hp : pc + 3 = pc')
    (k : ∀ v h', yQ v h' → h.size ≤ h'.size → OG p l e R s m args below meth c Z own nm bytes ml ret Q kc ks h' (cells + rm.cells) (slots + rm.slots) (mkF m pc' ls (v.toList ++ rest))) : OG p l e R s m args below meth c Z own nm bytes ml ret Q kc ks h cells slots (mkF m pc ls st) := by
  intro C T locs X eT N
  have hE : Ext Z.heap h := eT ▸ own_ext X C.2.2.2.2.2.2.2.2 N
  obtain ⟨v, vm₁, ⟨T', L', k', n'⟩, -, X', ⟨L, ⟨hQ, hN⟩, e1, e2, e3⟩, stp⟩ := X.specialBack C.1 (y := y) hyn C.2.2.1 (mvT C.2.1 w1) (mvT C.2.1 w4) (mvT C.2.1 w5) hy
    (backOf (W := W) (Q := fun v h2 L => (yQ v h2 ∧ h.size ≤ h2.size) ∧ Fr Z.heap.size L) (K hE []) C.2.1 w5 w6 hf hl) (g := mkF m pc ls st) rfl (hsz.trans C.2.2.2.2.1.symm) (Steps.refl _) (a := a) (argsL := argsL) (rest := rest) (lenOf hpd hpl) hst (by show 2 * 0 + _ ≤ _; rw [Nat.mul_zero, Nat.zero_add]; exact hW) (hb C.2.2.2.1 hd) (fun _ _ => ⟨rfl, eT, hcc, hss⟩)
  dsimp only [Pt.U, Pt.locs, Pt.cells, Pt.slots] at X' e1 e2 e3 hQ stp
  subst e1 e2 e3 hp
  exact OGoal.via (fun t kk => stp.trans kk) (k v T'.heap hQ.1 hQ.2 C T' _ X' rfl (Fr.app N hN))
theorem o_initO {index W : Nat} {a : Addr} (w1 : (Cond.methodLink own index Lib.objectInit).before a0 Z = true) (w2 : (Cond.instanceMethod Lib.objectInit).before a0 Z = true) (w3 : (Cond.code Lib.objectInit ⟨#[0xb1]⟩ 1 none).before a0 Z = true)
    (hd : decode bytes pc = .ok (.invokespecial index, 3)) (hsz : ls.size = ml) (hW : (rest.map fun v => v.category).sum ≤ W) (hf : 1 ≤ R.frames) (hl : W + 12 ≤ R.locals) (hp : pc + 3 = pc')
    (k : OG p l e R s m args below meth c Z own nm bytes ml ret Q kc ks h cells slots (mkF m pc' ls rest)) : OG p l e R s m args below meth c Z own nm bytes ml ret Q kc ks h cells slots (mkF m pc ls (.ref a :: rest)) := by
  intro C T locs X eT N
  obtain ⟨T', X', e', stp⟩ := initO X C.1 C.2.1 C.2.2.1 w1 w2 w3 eT (g := mkF m pc ls (.ref a :: rest)) rfl (hsz.trans C.2.2.2.2.1.symm) rfl (hb C.2.2.2.1 hd) hf (W := W) (by show 2 * 0 + _ ≤ _; rw [Nat.mul_zero, Nat.zero_add]; exact hW) hl
  subst hp
  exact OGoal.via stp (k C T' locs X' e' N)
/-! objects -/
theorem o_getF {O n d host : String} {index : Nat} {a : Addr} {v : Value} (w : (Cond.fieldLink own index O n d).before a0 Z = true ∨ (Cond.fieldLinkNest own index O n d host).before a0 Z = true) (F : Fld Z h a O n d v) (hd : decode bytes pc = .ok (.getfield index, 3)) (hp : pc + 3 = pc')
    (k : OG p l e R s m args below meth c Z own nm bytes ml ret Q kc ks h cells slots (mkF m pc' ls (v :: rest))) : OG p l e R s m args below meth c Z own nm bytes ml ret Q kc ks h cells slots (mkF m pc ls (.ref a :: rest)) := by
  intro C T locs X eT N
  obtain ⟨T', X', e', stp⟩ := getF X C.1 C.2.1 C.2.2.1 w Via.refl eT F (g := mkF m pc ls (.ref a :: rest)) rfl rfl (hb C.2.2.2.1 hd)
  subst hp
  exact OGoal.via stp (k C T' locs X' e' N)
theorem o_putF {O n d host C0 : String} {index kk : Nat} {ty : FieldType} {a : Addr} {v old : Value} (w : (Cond.fieldLink own index O n d).before a0 Z = true ∨ (Cond.fieldLinkNest own index O n d host).before a0 Z = true) (F : Fld Z h a O n d old) (E : Exa Z h a C0)
    (L : (Cond.lays C0 O n d).before a0 Z = true ∨ ((Cond.laysFinal C0 O n d).before a0 Z = true ∧ own = O ∧ nm = "<init>")) (wi : (Cond.instantiable C0 kk).before a0 Z = true) (hty : parseFieldDescriptor d = some ty) (hn : narrow ty v = v) (hf : fits ty v = true) (ha : Z.heap.size ≤ a)
    (hd : decode bytes pc = .ok (.putfield index, 3)) (hp : pc + 3 = pc')
    (k : ∀ h', Wr h h' a (Jvm.RoadKit.slotOf Z O n d) v → OG p l e R s m args below meth c Z own nm bytes ml ret Q kc ks h' cells slots (mkF m pc' ls rest)) : OG p l e R s m args below meth c Z own nm bytes ml ret Q kc ks h cells slots (mkF m pc ls (v :: .ref a :: rest)) := by
  intro C T locs X eT N
  obtain ⟨T', h', X', e', W', stp⟩ := putF X C.1 C.2.1 C.2.2.1 w Via.refl eT F E (L.imp id fun q => ⟨q.1, q.2.1, C.2.2.2.2.2.2.2.1.trans q.2.2⟩) wi hty hn hf (g := mkF m pc ls (v :: .ref a :: rest)) rfl rfl (hb C.2.2.2.1 hd)
  subst hp
  exact OGoal.via stp (k h' W' C T' _ X' e' (Fr.snoc X' N ha))
theorem o_newO {C0 : String} {index n : Nat} (w : (Cond.classLink own index C0).before a0 Z = true) (wi : (Cond.instantiable C0 n).before a0 Z = true) (wz : (Cond.initialized C0).before a0 Z = true) (hd : decode bytes pc = .ok (.new index, 3)) (hc : cells + 1 ≤ R.cells) (hl : slots + n ≤ R.slots) (hp : pc + 3 = pc')
    (k : ∀ h' a, a = h.size → Z.heap.size ≤ a → Ext h h' → Exa Z h' a C0 → (∀ {O nm d : String} {ty : FieldType}, Laid Z a0 C0 O nm d → parseFieldDescriptor d = some ty → Fld Z h' a O nm d (defaultValue ty)) → OG p l e R s m args below meth c Z own nm bytes ml ret Q kc ks h' (cells + 1) (slots + n) (mkF m pc' ls (.ref a :: st))) : OG p l e R s m args below meth c Z own nm bytes ml ret Q kc ks h cells slots (mkF m pc ls st) := by
  intro C T locs X eT N
  have hE : Ext Z.heap h := eT ▸ own_ext X C.2.2.2.2.2.2.2.2 N
  obtain ⟨T', h', X', e', E', A', D', -, stp⟩ := newO X C.1 C.2.1 C.2.2.1 w wi wz eT (g := mkF m pc ls st) rfl (hb C.2.2.2.1 hd) hc hl
  subst hp
  exact OGoal.via stp (k h' h.size rfl hE.1 E' A' D' C T' _ X' e' N)
theorem own_word {L : List Jvm.Cond} {dc : Jvm.Cond} (hw : ∀ d ∈ L, d.before a0 Z = true) (i : Nat) (q : L[i]? = some dc) : dc.before a0 Z = true := hw _ (List.mem_of_getElem? q)
end OwnKit
section ArrKit
variable {p : Program} {l : Launch} {e : Env} {R : Room} {s : State} {m : MethodId} {args : Array Value} {below : List Frame} {meth : Method} {c : Code} {T : State} {locs : List Loc} {cells slots kc ks : Nat} {Z : State} {a0 : Array Value} {own nm : String} {bytes : ByteArray} {ml : Nat} {ret : Option FieldType} {Q : Option Value → Heap → Prop} {h h' : Heap} {pc pc' : Nat} {ls ls' : Array Slot} {st st' rest : List Value} {a b : Addr} {ty : FieldType} {vs : List Value} {k0 : ClassId}
/-- an array, by what it holds -/
def OArr (Z : State) (h : Heap) (a : Addr) (k0 : ClassId) (ty : FieldType) (vs : List Value) : Prop := ∃ cl : Cell, Arr Z h a cl ty ∧ cl.cls = k0 ∧ cl.slots.toList = vs ∧ vs.length < 2 ^ 31
theorem OArr.lt (F : OArr Z h a k0 ty vs) : a < h.size := by obtain ⟨c, A, -⟩ := F; exact A.lt
theorem OArr.ext (F : OArr Z h a k0 ty vs) (E : Ext h h') : OArr Z h' a k0 ty vs := by obtain ⟨c, A, r⟩ := F; exact ⟨c, A.ext E, r⟩
theorem OArr.other {sl : Nat} {v : Value} (F : OArr Z h b k0 ty vs) (W : Wr h h' a sl v) (q : b ≠ a) : OArr Z h' b k0 ty vs := by obtain ⟨c, A, r⟩ := F; exact ⟨c, A.other W q, r⟩
theorem OArr.keep {ws : List Addr} (F : OArr Z h a k0 ty vs) (K : Keep h h' ws) (q : a ∉ ws) : OArr Z h' a k0 ty vs := by obtain ⟨c, A, r⟩ := F; exact ⟨c, ⟨K.2.1 a c A.1 q, A.2⟩, r⟩
theorem OArr.set {i : Nat} {v : Value} (F : OArr Z h a k0 ty vs) (W : Wr h h' a i v) : OArr Z h' a k0 ty (vs.set i v) := by
  obtain ⟨c, A, q0, q1, q2⟩ := F
  refine ⟨_, A.same W, q0, ?_, by rw [List.length_set]; exact q2⟩
  subst q1
  show (c.slots.setIfInBounds i v).toList = _
  rw [Array.toList_setIfInBounds]
theorem own_clamp {i : Nat} (hi : i < 2 ^ 31) : ¬ (Int32.ofNat i < 0) ∧ (Int32.ofNat i).toNatClampNeg = i := by
  have h1 : (Int32.ofNat i).toInt = i := by
    have : (Int32.ofNat i).toInt = Int.bmod i (2 ^ 32) := Int32.toInt_ofNat'
    rw [this, Int.bmod_def]
    omega
  refine ⟨?_, ?_⟩
  · rw [Int32.lt_iff_toInt_lt, h1]
    show ¬ (i : Int) < 0
    omega
  · show (Int32.ofNat i).toInt.toNat = i
    rw [h1]
    rfl
theorem OArr.at {i : Nat} {v : Value} (F : OArr Z h a k0 ty vs) (hv : vs[i]? = some v) : ∃ cl : Cell, Arr Z h a cl ty ∧ ¬ (Int32.ofNat i < 0 ∨ cl.slots.size ≤ (Int32.ofNat i).toNatClampNeg) ∧ cl.slots[(Int32.ofNat i).toNatClampNeg]? = some v ∧ (Int32.ofNat i).toNatClampNeg = i := by
  obtain ⟨c, A, q0, q1, q2⟩ := F
  subst q1
  have hi : i < c.slots.toList.length := (List.getElem?_eq_some_iff.mp hv).1
  obtain ⟨e1, e2⟩ := own_clamp (i := i) (by omega)
  refine ⟨c, A, ?_, ?_, e2⟩
  · rw [e2]
    intro z
    rcases z with z | z
    · exact e1 z
    · rw [Array.length_toList] at hi; omega
  · rw [e2, ← Array.getElem?_toList]; exact hv
theorem own_inn {i n : Nat} {cl : Cell} (hs : cl.slots.toList.length = n) (hn : n < 2 ^ 31) (hi : i < n) : ¬ (Int32.ofNat i < 0 ∨ cl.slots.size ≤ (Int32.ofNat i).toNatClampNeg) ∧ (Int32.ofNat i).toNatClampNeg = i := by
  obtain ⟨e1, e2⟩ := own_clamp (i := i) (by omega)
  refine ⟨?_, e2⟩
  rw [e2]
  intro z
  rcases z with z | z
  · exact e1 z
  · rw [Array.length_toList] at hs; omega
theorem o_len (F : OArr Z h a k0 ty vs) (hd : decode bytes pc = .ok (.arraylength, 1)) (hp : pc + 1 = pc')
    (k : OG p l e R s m args below meth c Z own nm bytes ml ret Q kc ks h cells slots (mkF m pc' ls (.int (Int32.ofNat vs.length) :: rest))) : OG p l e R s m args below meth c Z own nm bytes ml ret Q kc ks h cells slots (mkF m pc ls (.ref a :: rest)) := by
  intro C T locs X eT N
  obtain ⟨cl, A, q0, q1, q2⟩ := F
  subst hp q1
  refine OGoal.via (fun t kk => X.arraylength C.1 (by rw [eT]; exact A.1) (State.isArrayOf_alike C.2.1.alike A.2.1) (g := mkF m pc ls (.ref a :: rest)) rfl rfl (hb C.2.2.2.1 hd) t ?_) (k C T locs X eT N)
  rw [Array.length_toList] at kk
  exact kk
theorem o_iald {i : Nat} {j : Int32} {v : Value} (F : OArr Z h a k0 .int vs) (hj : j = Int32.ofNat i) (hv : vs[i]? = some v) (hd : decode bytes pc = .ok (.iaload, 1)) (hp : pc + 1 = pc')
    (k : OG p l e R s m args below meth c Z own nm bytes ml ret Q kc ks h cells slots (mkF m pc' ls (v :: rest))) : OG p l e R s m args below meth c Z own nm bytes ml ret Q kc ks h cells slots (mkF m pc ls (.int j :: .ref a :: rest)) := by
  intro C T locs X eT N
  subst hj hp
  obtain ⟨cl, A, e1, e2, -⟩ := F.at hv
  exact OGoal.via (fun t kk => X.iaload C.1 (by rw [eT]; exact A.1) (State.isArrayOf_alike C.2.1.alike A.2.1) A.2.2 e1 e2 (g := mkF m pc ls (.int (Int32.ofNat i) :: .ref a :: rest)) rfl rfl (hb C.2.2.2.1 hd) t kk) (k C T locs X eT N)
theorem o_bald {i : Nat} {j : Int32} {v : Value} (F : OArr Z h a k0 .byte vs) (hj : j = Int32.ofNat i) (hv : vs[i]? = some v) (hd : decode bytes pc = .ok (.baload, 1)) (hp : pc + 1 = pc')
    (k : OG p l e R s m args below meth c Z own nm bytes ml ret Q kc ks h cells slots (mkF m pc' ls (v :: rest))) : OG p l e R s m args below meth c Z own nm bytes ml ret Q kc ks h cells slots (mkF m pc ls (.int j :: .ref a :: rest)) := by
  intro C T locs X eT N
  subst hj hp
  obtain ⟨cl, A, e1, e2, -⟩ := F.at hv
  exact OGoal.via (fun t kk => X.baloadBytes C.1 (by rw [eT]; exact A.1) (State.isArrayOf_alike C.2.1.alike A.2.1) A.2.2 e1 e2 (g := mkF m pc ls (.int (Int32.ofNat i) :: .ref a :: rest)) rfl rfl (hb C.2.2.2.1 hd) t kk) (k C T locs X eT N)
theorem o_zald {i : Nat} {j : Int32} {v : Value} (F : OArr Z h a k0 .boolean vs) (hj : j = Int32.ofNat i) (hv : vs[i]? = some v) (hd : decode bytes pc = .ok (.baload, 1)) (hp : pc + 1 = pc')
    (k : OG p l e R s m args below meth c Z own nm bytes ml ret Q kc ks h cells slots (mkF m pc' ls (v :: rest))) : OG p l e R s m args below meth c Z own nm bytes ml ret Q kc ks h cells slots (mkF m pc ls (.int j :: .ref a :: rest)) := by
  intro C T locs X eT N
  subst hj hp
  obtain ⟨cl, A, e1, e2, -⟩ := F.at hv
  exact OGoal.via (fun t kk => X.baloadBooleans C.1 (by rw [eT]; exact A.1) (State.isArrayOf_alike C.2.1.alike A.2.1) A.2.2 e1 e2 (g := mkF m pc ls (.int (Int32.ofNat i) :: .ref a :: rest)) rfl rfl (hb C.2.2.2.1 hd) t kk) (k C T locs X eT N)
theorem o_aald {i : Nat} {j : Int32} {v : Value} (F : OArr Z h a k0 ty vs) (hty : ty.isReference = true) (hj : j = Int32.ofNat i) (hv : vs[i]? = some v) (hd : decode bytes pc = .ok (.aaload, 1)) (hp : pc + 1 = pc')
    (k : OG p l e R s m args below meth c Z own nm bytes ml ret Q kc ks h cells slots (mkF m pc' ls (v :: rest))) : OG p l e R s m args below meth c Z own nm bytes ml ret Q kc ks h cells slots (mkF m pc ls (.int j :: .ref a :: rest)) := by
  intro C T locs X eT N
  subst hj hp
  obtain ⟨cl, A, e1, e2, -⟩ := F.at hv
  exact OGoal.via (fun t kk => X.aaload C.1 (by rw [eT]; exact A.1) (State.isArrayOf_alike C.2.1.alike A.2.1) hty A.2.2 e1 e2 (g := mkF m pc ls (.int (Int32.ofNat i) :: .ref a :: rest)) rfl rfl (hb C.2.2.2.1 hd) t kk) (k C T locs X eT N)
theorem o_aaldJ {j : Int32} {v : Value} {cl : Cell} (A : Arr Z h a cl ty) (hty : ty.isReference = true) (hj : ¬ (j < 0 ∨ cl.slots.size ≤ j.toNatClampNeg)) (hv : cl.slots[j.toNatClampNeg]? = some v) (hd : decode bytes pc = .ok (.aaload, 1)) (hp : pc + 1 = pc')
    (k : OG p l e R s m args below meth c Z own nm bytes ml ret Q kc ks h cells slots (mkF m pc' ls (v :: rest))) : OG p l e R s m args below meth c Z own nm bytes ml ret Q kc ks h cells slots (mkF m pc ls (.int j :: .ref a :: rest)) := by
  intro C T locs X eT N
  subst hp
  exact OGoal.via (fun t kk => X.aaload C.1 (by rw [eT]; exact A.1) (State.isArrayOf_alike C.2.1.alike A.2.1) hty A.2.2 hj hv (g := mkF m pc ls (.int j :: .ref a :: rest)) rfl rfl (hb C.2.2.2.1 hd) t kk) (k C T locs X eT N)
theorem o_iast {i : Nat} {j x : Int32} (F : OArr Z h a k0 .int vs) (hj : j = Int32.ofNat i) (hi : i < vs.length) (ha : Z.heap.size ≤ a) (hd : decode bytes pc = .ok (.iastore, 1)) (hp : pc + 1 = pc')
    (k : ∀ h', Wr h h' a i (.int x) → OG p l e R s m args below meth c Z own nm bytes ml ret Q kc ks h' cells slots (mkF m pc' ls rest)) : OG p l e R s m args below meth c Z own nm bytes ml ret Q kc ks h cells slots (mkF m pc ls (.int x :: .int j :: .ref a :: rest)) := by
  intro C T locs X eT N
  subst hj hp
  obtain ⟨cl, A, q0, q1, q2⟩ := F
  obtain ⟨e1, e2⟩ := own_inn (i := i) (cl := cl) (by rw [q1]) q2 hi
  obtain ⟨T', h', X', e', W', stp⟩ := stI X C.1 C.2.1 eT A e1 (g := mkF m pc ls (.int x :: .int (Int32.ofNat i) :: .ref a :: rest)) rfl rfl (hb C.2.2.2.1 hd)
  exact OGoal.via stp (k h' (by rw [e2] at W'; exact W') C T' _ X' e' (Fr.snoc X' N ha))
theorem o_bast {i : Nat} {j x : Int32} (F : OArr Z h a k0 .byte vs) (hj : j = Int32.ofNat i) (hi : i < vs.length) (ha : Z.heap.size ≤ a) (hd : decode bytes pc = .ok (.bastore, 1)) (hp : pc + 1 = pc')
    (k : ∀ h', Wr h h' a i (.int (nar .byte x)) → OG p l e R s m args below meth c Z own nm bytes ml ret Q kc ks h' cells slots (mkF m pc' ls rest)) : OG p l e R s m args below meth c Z own nm bytes ml ret Q kc ks h cells slots (mkF m pc ls (.int x :: .int j :: .ref a :: rest)) := by
  intro C T locs X eT N
  subst hj hp
  obtain ⟨cl, A, q0, q1, q2⟩ := F
  obtain ⟨e1, e2⟩ := own_inn (i := i) (cl := cl) (by rw [q1]) q2 hi
  obtain ⟨T', h', X', e', W', stp⟩ := stB X C.1 C.2.1 eT A e1 (g := mkF m pc ls (.int x :: .int (Int32.ofNat i) :: .ref a :: rest)) rfl rfl (hb C.2.2.2.1 hd)
  exact OGoal.via stp (k h' (by rw [e2] at W'; exact W') C T' _ X' e' (Fr.snoc X' N ha))
theorem o_zast {i : Nat} {j x : Int32} (F : OArr Z h a k0 .boolean vs) (hj : j = Int32.ofNat i) (hi : i < vs.length) (ha : Z.heap.size ≤ a) (hd : decode bytes pc = .ok (.bastore, 1)) (hp : pc + 1 = pc')
    (k : ∀ h', Wr h h' a i (.int (nar .boolean x)) → OG p l e R s m args below meth c Z own nm bytes ml ret Q kc ks h' cells slots (mkF m pc' ls rest)) : OG p l e R s m args below meth c Z own nm bytes ml ret Q kc ks h cells slots (mkF m pc ls (.int x :: .int j :: .ref a :: rest)) := by
  intro C T locs X eT N
  subst hj hp
  obtain ⟨cl, A, q0, q1, q2⟩ := F
  obtain ⟨e1, e2⟩ := own_inn (i := i) (cl := cl) (by rw [q1]) q2 hi
  obtain ⟨T', h', X', e', W', stp⟩ := stZ X C.1 C.2.1 eT A e1 (g := mkF m pc ls (.int x :: .int (Int32.ofNat i) :: .ref a :: rest)) rfl rfl (hb C.2.2.2.1 hd)
  exact OGoal.via stp (k h' (by rw [e2] at W'; exact W') C T' _ X' e' (Fr.snoc X' N ha))
theorem o_aast {i : Nat} {j : Int32} {v : Value} (F : OArr Z h a k0 ty vs) (hty : ty.isReference = true) (S : Sto Z h a v) (hj : j = Int32.ofNat i) (hi : i < vs.length) (ha : Z.heap.size ≤ a) (hd : decode bytes pc = .ok (.aastore, 1)) (hp : pc + 1 = pc')
    (k : ∀ h', Wr h h' a i v → OG p l e R s m args below meth c Z own nm bytes ml ret Q kc ks h' cells slots (mkF m pc' ls rest)) : OG p l e R s m args below meth c Z own nm bytes ml ret Q kc ks h cells slots (mkF m pc ls (v :: .int j :: .ref a :: rest)) := by
  intro C T locs X eT N
  subst hj hp
  obtain ⟨cl, A, q0, q1, q2⟩ := F
  obtain ⟨e1, e2⟩ := own_inn (i := i) (cl := cl) (by rw [q1]) q2 hi
  obtain ⟨T', h', X', e', W', stp⟩ := stR X C.1 C.2.1 eT A e1 hty S (g := mkF m pc ls (v :: .int (Int32.ofNat i) :: .ref a :: rest)) rfl rfl (hb C.2.2.2.1 hd)
  exact OGoal.via stp (k h' (by rw [e2] at W'; exact W') C T' _ X' e' (Fr.snoc X' N ha))
theorem own_newA {cA : ClassId} {n : Nat} (hn : n < 2 ^ 31) (A : Arr Z h a (newA cA ty (Int32.ofNat n)) ty) : OArr Z h a cA ty (List.replicate n (defaultValue ty)) := by
  refine ⟨_, A, rfl, ?_, by rw [List.length_replicate]; exact hn⟩
  show (Array.replicate (Int32.ofNat n).toNatClampNeg (defaultValue ty)).toList = _
  rw [(own_clamp hn).2, Array.toList_replicate]
theorem o_newP {aty : ArrayType} {n cap : Nat} {j : Int32} (w : (Cond.arrayClass (newarray.typeOf aty)).before a0 Z = true) (hj : j = Int32.ofNat n) (hn : n ≤ cap) (hcap : cap < 60000000) (hd : decode bytes pc = .ok (.newarray aty, 2)) (hc : cells + 1 ≤ R.cells) (hl : slots + cap ≤ R.slots) (hp : pc + 2 = pc')
    (k : ∀ h' a k0, a = h.size → Z.heap.size ≤ a → Ext h h' → OArr Z h' a k0 (newarray.typeOf aty) (List.replicate n (defaultValue (newarray.typeOf aty))) → OG p l e R s m args below meth c Z own nm bytes ml ret Q kc ks h' (cells + 1) (slots + cap) (mkF m pc' ls (.ref a :: rest))) : OG p l e R s m args below meth c Z own nm bytes ml ret Q kc ks h cells slots (mkF m pc ls (.int j :: rest)) := by
  intro C T locs X eT N
  subst hj hp
  have hE : Ext Z.heap h := eT ▸ own_ext X C.2.2.2.2.2.2.2.2 N
  obtain ⟨e1, e2⟩ := own_clamp (i := n) (by omega)
  obtain ⟨T', h', cA, X', e', E', A', stp⟩ := newP X C.1 C.2.1 w eT (g := mkF m pc ls (.int (Int32.ofNat n) :: rest)) rfl (hb C.2.2.2.1 hd) rfl e1 (cap := cap) (by rw [e2]; exact hn) (by omega) hc hl
  exact OGoal.via stp (k h' h.size cA rfl hE.1 E' (own_newA (by omega) A') C T' _ X' e' N)
theorem o_newR {C0 : String} {index n cap : Nat} {j : Int32} (w1 : (Cond.classLink own index C0).before a0 Z = true) (w2 : (Cond.arrayOver (.object C0)).before a0 Z = true) (hj : j = Int32.ofNat n) (hn : n ≤ cap) (hcap : cap < 60000000) (hd : decode bytes pc = .ok (.anewarray index, 3)) (hc : cells + 1 ≤ R.cells) (hl : slots + cap ≤ R.slots) (hp : pc + 3 = pc')
    (k : ∀ h' a k0, a = h.size → Z.heap.size ≤ a → Ext h h' → OArr Z h' a k0 (.object C0) (List.replicate n .null) → Ovr Z k0 C0 → OG p l e R s m args below meth c Z own nm bytes ml ret Q kc ks h' (cells + 1) (slots + cap) (mkF m pc' ls (.ref a :: rest))) : OG p l e R s m args below meth c Z own nm bytes ml ret Q kc ks h cells slots (mkF m pc ls (.int j :: rest)) := by
  intro C T locs X eT N
  subst hj hp
  have hE : Ext Z.heap h := eT ▸ own_ext X C.2.2.2.2.2.2.2.2 N
  obtain ⟨e1, e2⟩ := own_clamp (i := n) (by omega)
  obtain ⟨T', h', cA, X', e', E', A', O', stp⟩ := newR X C.1 C.2.1 C.2.2.1 w1 w2 eT (g := mkF m pc ls (.int (Int32.ofNat n) :: rest)) rfl (hb C.2.2.2.1 hd) rfl e1 (cap := cap) (by rw [e2]; exact hn) (by omega) hc hl
  exact OGoal.via stp (k h' h.size cA rfl hE.1 E' (own_newA (by omega) A') O' C T' _ X' e' N)
theorem own_sto {y : Addr} {C0 : String} (F : OArr Z h a k0 ty vs) (O : Ovr Z k0 C0) (I : Ins Z h y C0 true) : Sto Z h a (.ref y) := by
  obtain ⟨cl, A, q0, q1, q2⟩ := F
  exact Sto.ofV A q0 O I
end ArrKit
section ObjKit
variable {p : Program} {l : Launch} {e : Env} {R : Room} {s : State} {m : MethodId} {args : Array Value} {below : List Frame} {meth : Method} {c : Code} {T : State} {locs : List Loc} {cells slots kc ks : Nat} {Z : State} {a0 : Array Value} {own nm : String} {bytes : ByteArray} {ml : Nat} {ret : Option FieldType} {Q : Option Value → Heap → Prop} {h h' : Heap} {pc pc' : Nat} {ls ls' : Array Slot} {st st' rest : List Value} {a b : Addr}
theorem o_instY {K : String} {index : Nat} (w : (Cond.classLink own index K).before a0 Z = true) (F : Ins Z h a K true) (hd : decode bytes pc = .ok (.instanceof index, 3)) (hp : pc + 3 = pc')
    (k : OG p l e R s m args below meth c Z own nm bytes ml ret Q kc ks h cells slots (mkF m pc' ls (.int 1 :: rest))) : OG p l e R s m args below meth c Z own nm bytes ml ret Q kc ks h cells slots (mkF m pc ls (.ref a :: rest)) := by
  intro C T locs X eT N
  obtain ⟨T', X', e', stp⟩ := instY X C.1 C.2.1 C.2.2.1 w eT F (g := mkF m pc ls (.ref a :: rest)) rfl rfl (hb C.2.2.2.1 hd)
  subst hp
  exact OGoal.via stp (k C T' locs X' e' N)
theorem o_instNo {K C0 : String} {index : Nat} (w : (Cond.classLink own index K).before a0 Z = true) (E : Exa Z h a C0) (F : ∃ c t, Z.vm.findClass C0 = some c ∧ Z.vm.findClass K = some t ∧ Z.vm.assignable c t = false) (hd : decode bytes pc = .ok (.instanceof index, 3)) (hp : pc + 3 = pc')
    (k : OG p l e R s m args below meth c Z own nm bytes ml ret Q kc ks h cells slots (mkF m pc' ls (.int 0 :: rest))) : OG p l e R s m args below meth c Z own nm bytes ml ret Q kc ks h cells slots (mkF m pc ls (.ref a :: rest)) := by
  intro C T locs X eT N
  obtain ⟨T', X', e', stp⟩ := instNo X C.1 C.2.1 C.2.2.1 w eT E F (g := mkF m pc ls (.ref a :: rest)) rfl rfl (hb C.2.2.2.1 hd)
  subst hp
  exact OGoal.via stp (k C T' locs X' e' N)
theorem o_instNull {index : Nat} (hd : decode bytes pc = .ok (.instanceof index, 3)) (hp : pc + 3 = pc')
    (k : OG p l e R s m args below meth c Z own nm bytes ml ret Q kc ks h cells slots (mkF m pc' ls (.int 0 :: rest))) : OG p l e R s m args below meth c Z own nm bytes ml ret Q kc ks h cells slots (mkF m pc ls (.null :: rest)) := by
  intro C T locs X eT N
  subst hp
  exact OGoal.via (X.instanceofNull C.1 (g := mkF m pc ls (.null :: rest)) rfl rfl (hb C.2.2.2.1 hd)) (k C T locs X eT N)
theorem o_cast {K : String} {index : Nat} (w : (Cond.classLink own index K).before a0 Z = true) (F : Ins Z h a K true) (hd : decode bytes pc = .ok (.checkcast index, 3)) (hp : pc + 3 = pc')
    (k : OG p l e R s m args below meth c Z own nm bytes ml ret Q kc ks h cells slots (mkF m pc' ls (.ref a :: rest))) : OG p l e R s m args below meth c Z own nm bytes ml ret Q kc ks h cells slots (mkF m pc ls (.ref a :: rest)) := by
  intro C T locs X eT N
  obtain ⟨T', X', e', stp⟩ := castY X C.1 C.2.1 C.2.2.1 w eT F (g := mkF m pc ls (.ref a :: rest)) rfl rfl (hb C.2.2.2.1 hd)
  subst hp
  exact OGoal.via stp (k C T' locs X' e' N)
theorem own_root {O K : String} {n : Nat} (w : (Cond.noSuperclass O).before a0 Z = true) (wi : (Cond.instantiable K n).before a0 Z = true) (hn : O ≠ K) : NS Z O K := by
  obtain ⟨c, k, h1, h2, h3, -, -⟩ := Cond.noSuperclass_spec w
  obtain ⟨t, k', g1, -⟩ := Cond.instantiable_spec wi
  have ne := ids_ne h1 g1 hn
  refine ⟨c, t, h1, g1, fun fuel => ?_⟩
  cases fuel with
  | zero => rfl
  | succ f => simp [Vm.isSubclassAux, ne, h2, h3]
theorem own_no {C0 S K : String} {n : Nat} (w : (Cond.superclass C0 S).before a0 Z = true) (wi : (Cond.instantiable K n).before a0 Z = true) (q : NS Z C0 K) (hn : C0 ≠ K) : ∃ c t, Z.vm.findClass C0 = some c ∧ Z.vm.findClass K = some t ∧ Z.vm.assignable c t = false := by
  obtain ⟨c, t, h0, g0, n3⟩ := q
  obtain ⟨p, k, kp, h1, h2, h3, h4, h5, -, h7⟩ := Cond.superclass_spec h0 w
  obtain ⟨t', k', g1, g2, g3, g4, -⟩ := Cond.instantiable_spec wi
  cases g0.symm.trans g1
  have ne := ids_ne h0 g0 hn
  have gi : k'.isInterface = false := (Bool.or_eq_false_iff.mp g4).1
  refine ⟨c, t, h0, g0, ?_⟩
  show Z.vm.assignableAux (255 + 1) c t = false
  simp [Vm.assignableAux, ne, h2, g2, h5, g3, gi, Vm.isSubclass, n3]
end ObjKit
section JdkKit
variable {p : Program} {l : Launch} {e : Env} {R : Room} {s : State} {m : MethodId} {args : Array Value} {below : List Frame} {meth : Method} {c : Code} {T : State} {locs : List Loc} {cells slots kc ks : Nat} {Z : State} {a0 : Array Value} {own nm : String} {bytes : ByteArray} {ml : Nat} {ret : Option FieldType} {Q : Option Value → Heap → Prop} {h h' : Heap} {pc pc' : Nat} {ls ls' : Array Slot} {st st' rest : List Value} {a b : Addr} {ty : FieldType} {vs : List Value} {k0 : ClassId}
theorem o_getFV {R0 O n d host : String} {index : Nat} {v : Value} (w : (Cond.fieldLink own index R0 n d).before a0 Z = true ∨ (Cond.fieldLinkNest own index R0 n d host).before a0 Z = true) (via : (Cond.sameField R0 O n d).before a0 Z = true) (F : Fld Z h a O n d v) (hd : decode bytes pc = .ok (.getfield index, 3)) (hp : pc + 3 = pc')
    (k : OG p l e R s m args below meth c Z own nm bytes ml ret Q kc ks h cells slots (mkF m pc' ls (v :: rest))) : OG p l e R s m args below meth c Z own nm bytes ml ret Q kc ks h cells slots (mkF m pc ls (.ref a :: rest)) := by
  intro C T locs X eT N
  obtain ⟨T', X', e', stp⟩ := getF X C.1 C.2.1 C.2.2.1 w (Via.of via) eT F (g := mkF m pc ls (.ref a :: rest)) rfl rfl (hb C.2.2.2.1 hd)
  subst hp
  exact OGoal.via stp (k C T' locs X' e' N)
theorem o_putFV {R0 O n d host C0 : String} {index kk : Nat} {v old : Value} (w : (Cond.fieldLink own index R0 n d).before a0 Z = true ∨ (Cond.fieldLinkNest own index R0 n d host).before a0 Z = true) (via : (Cond.sameField R0 O n d).before a0 Z = true) (F : Fld Z h a O n d old) (E : Exa Z h a C0)
    (L : (Cond.lays C0 O n d).before a0 Z = true) (wi : (Cond.instantiable C0 kk).before a0 Z = true) (hty : parseFieldDescriptor d = some ty) (hn : narrow ty v = v) (hf : fits ty v = true) (ha : Z.heap.size ≤ a)
    (hd : decode bytes pc = .ok (.putfield index, 3)) (hp : pc + 3 = pc')
    (k : ∀ h', Wr h h' a (Jvm.RoadKit.slotOf Z O n d) v → OG p l e R s m args below meth c Z own nm bytes ml ret Q kc ks h' cells slots (mkF m pc' ls rest)) : OG p l e R s m args below meth c Z own nm bytes ml ret Q kc ks h cells slots (mkF m pc ls (v :: .ref a :: rest)) := by
  intro C T locs X eT N
  obtain ⟨T', h', X', e', W', stp⟩ := putF X C.1 C.2.1 C.2.2.1 w (Via.of via) eT F E (Or.inl L) wi hty hn hf (g := mkF m pc ls (v :: .ref a :: rest)) rfl rfl (hb C.2.2.2.1 hd)
  subst hp
  exact OGoal.via stp (k h' W' C T' _ X' e' (Fr.snoc X' N ha))
theorem own_wide (C : OCtx p s m meth c Z own nm bytes ml ret) (X : Stand p l e R s m args below meth c T locs cells slots) : Z.Warmed39 T.vm := wtrans C.2.1 X.warmed
/-- a field whose entry is resolved already -/
theorem o_getFR {O n d : String} {index : Nat} {v : Value} (w : (Cond.fieldRef own index O n d).before a0 Z = true) (F : Fld Z h a O n d v) (hd : decode bytes pc = .ok (.getfield index, 3)) (hp : pc + 3 = pc')
    (k : OG p l e R s m args below meth c Z own nm bytes ml ret Q kc ks h cells slots (mkF m pc' ls (v :: rest))) : OG p l e R s m args below meth c Z own nm bytes ml ret Q kc ks h cells slots (mkF m pc ls (.ref a :: rest)) := by
  intro C T locs X eT N
  have hZ := own_wide C X
  have w' := Cond.fieldRef_warmed39 hZ w
  have hcur : (Z.setVm T.vm).vm.findClass own = some m.cls := by
    show T.vm.findClass own = some m.cls
    rw [X.warmed.alike.findClass]; exact C.2.2.1
  obtain ⟨cf, k1, i1, f1, q1, q2⟩ := Cond.fieldRef_spec hcur w'
  obtain ⟨cell, cf', k', i', f', h1, h2, h3, h4, -, -, h7⟩ := F
  obtain ⟨k2, hi, -⟩ := State.fieldFound?_setVm (s := Z) hZ.alike h2
  cases hi.symm.trans q1
  subst hp eT
  refine OGoal.via (fun t kk => ?_) (k C T locs X rfl N)
  have hdc := hb C.2.2.2.1 hd
  have hx := C.1
  show Steps p.tables e below (T.setTop { method := m, pc := pc, locals := ls, stack := .ref a :: rest, locked := none }) _
  jvm_step X.here [hx, hdc, getfield.wp_ready (e := e) (s := T) (f := mkF m pc ls (.ref a :: rest)) X.here.top q2 h3 rfl h1 h4 h7]
  exact kk
theorem own_ref (C : OCtx p s m meth c Z own nm bytes ml ret) (X : Stand p l e R s m args below meth c T locs cells slots) {index : Nat} {y : MethodName} {mk : MethodId} (hn : s.methodNamed? y = some mk)
    (hy : y.cls ≠ "java/lang/invoke/MethodHandle" ∧ y.cls ≠ "java/lang/invoke/VarHandle") (w : (Cond.methodRef own index y).before a0 Z = true) : T.vm.methodReady m.cls index mk ∧ namesResolved T.vm m.cls index mk.cls := by
  have hZ := own_wide C X
  have hnZ : Z.methodNamed? y = some mk := by rw [← State.methodNamed?_setVm C.2.1.alike (s := Z)]; exact hn
  have w' := Cond.methodRef_warmed39 hZ hnZ hy w
  have hcur : (Z.setVm T.vm).vm.findClass own = some m.cls := by
    show T.vm.findClass own = some m.cls
    rw [X.warmed.alike.findClass]; exact C.2.2.1
  obtain ⟨m', c', q1, q2, q3, q4⟩ := Cond.methodRef_named e hcur w'
  have hnT : (Z.setVm T.vm).methodNamed? y = some mk := by rw [State.methodNamed?_setVm hZ.alike (s := Z)]; exact hnZ
  have e1 : m' = mk := Option.some.inj (q1.symm.trans (State.methodFound?_of_named hnT hy))
  subst e1
  have e2 : c' = m'.cls := Option.some.inj (q3.symm.trans (findClass_of_methodNamed hnT))
  subst e2
  exact ⟨q2, q4⟩
/-- a constructor whose entry is resolved already -/
theorem o_callIR {index yl W : Nat} {y : MethodName} {yb : ByteArray} {rm : Room} {yQ : Option Value → Heap → Prop} {argsL : List Value} {ps : List FieldType} {yr' : Option FieldType} (hyn : y.name = "<init>") (w1 : (Cond.methodRef own index y).before a0 Z = true) (w4 : (Cond.instanceMethod y).before a0 Z = true) (w5 : (Cond.code y yb yl none).before a0 Z = true) (w6 : (Cond.initialized y.cls).before a0 Z = true)
    (hy : y.cls ≠ "java/lang/invoke/MethodHandle" ∧ y.cls ≠ "java/lang/invoke/VarHandle") (K : Ext Z.heap h → OCtr l Z y yb yl none rm (.ref a :: argsL).toArray h yQ) (hd : decode bytes pc = .ok (.invokespecial index, 3))
    (hpd : parseMethodDescriptor y.desc = some ⟨ps, yr'⟩) (hpl : argsL.length = ps.length) (hsz : ls.size = ml) (hst : st = argsL.reverse ++ .ref a :: rest) (hW : (rest.map fun v => v.category).sum ≤ W)
    (hf : rm.frames + 1 ≤ R.frames) (hl : W + (yl + 11) + rm.locals ≤ R.locals) (hcc : cells + rm.cells ≤ R.cells) (hss : slots + rm.slots ≤ R.slots) (hp : pc + 3 = pc')
    (k : ∀ v h', yQ v h' → h.size ≤ h'.size → OG p l e R s m args below meth c Z own nm bytes ml ret Q kc ks h' (cells + rm.cells) (slots + rm.slots) (mkF m pc' ls (v.toList ++ rest))) : OG p l e R s m args below meth c Z own nm bytes ml ret Q kc ks h cells slots (mkF m pc ls st) := by
  intro C T locs X eT N
  have hE : Ext Z.heap h := eT ▸ own_ext X C.2.2.2.2.2.2.2.2 N
  have w4' : (Cond.instanceMethod y).before args s = true := mvT C.2.1 w4
  have w5' : (Cond.code y yb yl none).before args s = true := mvT C.2.1 w5
  obtain ⟨mk, methM, hnamed, hmethM, hstM, habM⟩ := Cond.instanceMethod_spec w4'
  obtain ⟨methM', cM, hmethM', -, -, -, -, -, -, hsigM⟩ := Cond.code_spec hnamed w5'
  cases hmethM.symm.trans hmethM'
  obtain ⟨hready, hnames⟩ := own_ref C X hnamed hy w1
  obtain ⟨kP, hkP, -⟩ := className_of_methodNamed hnamed
  obtain ⟨hnameM, hdescM⟩ := name_of_methodNamed hnamed hmethM
  have alike := X.warmed.alike
  obtain ⟨kP2, hkP2, -⟩ := alike.2.2 _ _ hkP
  have hm2 : T.vm.method? mk = some methM := by rw [alike.method?]; exact hmethM
  have hfound : lookupSpecial T.vm mk.cls "<init>" methM.desc = .method mk := by
    rw [alike.lookupSpecial, hdescM, ← hyn]; exact lookupSpecial_of_named hnamed hmethM hstM
  have hx := C.1
  have hdc := hb C.2.2.2.1 hd
  have stp : ∀ target, (∀ acts, Steps p.tables e below (doInvoke e (T.setTop { mkF m pc ls st with stack := rest }) acts mk (.ref a :: argsL).toArray).1 target) → Steps p.tables e below (T.setTop (mkF m pc ls st)) target := by
    intro target hrest
    show Steps p.tables e below (T.setTop { method := m, pc := pc, locals := ls, stack := st, locked := none }) _
    jvm_step X.here [hx, hdc, invokespecial.wp_init (e := e) (s := T) (k := kP2) (meth := methM) (m := mk) (a := a) (args := argsL) (rest := rest) (f := mkF m pc ls st) X.here.top hnames hready hkP2 hm2 (by rw [hnameM]; exact hyn) hstM habM hfound (lenOf hpd hpl _ hsigM) hst]
    exact hrest
  have hK : Back l R p e below s args y 3 W _ _ := backOf (W := W) (Q := fun v h2 L => (yQ v h2 ∧ h.size ≤ h2.size) ∧ Fr Z.heap.size L) (K hE []) C.2.1 w5 w6 hf hl
  obtain ⟨v, ⟨T', L', k', n'⟩, X', ⟨L, ⟨hQ, hN⟩, e1, e2, e3⟩, stp2⟩ := hK m meth c ⟨T, locs, cells, slots⟩ { mkF m pc ls st with stack := rest } (.invokespecial index) mk (.ref a :: argsL).toArray X rfl (hsz.trans C.2.2.2.2.1.symm) hdc (by show 2 * 0 + _ ≤ _; rw [Nat.mul_zero, Nat.zero_add]; exact hW) (X.named hnamed) ⟨rfl, eT, hcc, hss⟩
  dsimp only [Pt.U, Pt.locs, Pt.cells, Pt.slots] at X' e1 e2 e3 hQ stp2
  subst e1 e2 e3 hp
  exact OGoal.via (fun t kk => (stp _ fun acts => by rw [doInvoke_state]; exact Steps.refl _).trans (stp2.trans kk)) (k v T'.heap hQ.1 hQ.2 C T' _ X' rfl (Fr.app N hN))
/-- a private method, its entry resolved already -/
theorem o_callPR {index yl W : Nat} {y : MethodName} {yb : ByteArray} {yr : Option FieldType} {rm : Room} {yQ : Option Value → Heap → Prop} {argsL : List Value} {ps : List FieldType} {yr' : Option FieldType} {nn : Nat} (w1 : (Cond.methodRef own index y).before a0 Z = true) (w4 : (Cond.instanceMethod y).before a0 Z = true) (wp : (Cond.privateMethod y).before a0 Z = true) (wi : (Cond.instantiable y.cls nn).before a0 Z = true) (w5 : (Cond.code y yb yl yr).before a0 Z = true) (w6 : (Cond.initialized y.cls).before a0 Z = true)
    (hy : y.cls ≠ "java/lang/invoke/MethodHandle" ∧ y.cls ≠ "java/lang/invoke/VarHandle") {C0 : String} (E : Exa Z h a C0) (K : Ext Z.heap h → OCtr l Z y yb yl yr rm (.ref a :: argsL).toArray h yQ) (hd : decode bytes pc = .ok (.invokevirtual index, 3))
    (hpd : parseMethodDescriptor y.desc = some ⟨ps, yr'⟩) (hpl : argsL.length = ps.length) (hsz : ls.size = ml) (hst : st = argsL.reverse ++ .ref a :: rest) (hW : (rest.map fun v => v.category).sum ≤ W)
    (hf : rm.frames + 1 ≤ R.frames) (hl : W + (yl + 11) + rm.locals ≤ R.locals) (hcc : cells + rm.cells ≤ R.cells) (hss : slots + rm.slots ≤ R.slots) (hp : pc + 3 = pc')
    (k : ∀ v h', yQ v h' → h.size ≤ h'.size → OG p l e R s m args below meth c Z own nm bytes ml ret Q kc ks h' (cells + rm.cells) (slots + rm.slots) (mkF m pc' ls (v.toList ++ rest))) : OG p l e R s m args below meth c Z own nm bytes ml ret Q kc ks h cells slots (mkF m pc ls st) := by
  intro C T locs X eT N
  have hE : Ext Z.heap h := eT ▸ own_ext X C.2.2.2.2.2.2.2.2 N
  have w4' : (Cond.instanceMethod y).before args s = true := mvT C.2.1 w4
  have w5' : (Cond.code y yb yl yr).before args s = true := mvT C.2.1 w5
  have wi' : (Cond.instantiable y.cls nn).before args s = true := mvT C.2.1 wi
  have hpriv : s.PrivateAt y := Cond.privateMethod_at (args := args) (mvT C.2.1 wp)
  obtain ⟨mk, methM, hnamed, hmethM, hstM, habM⟩ := Cond.instanceMethod_spec w4'
  obtain ⟨methM', cM, hmethM', -, -, -, -, -, -, hsigM⟩ := Cond.code_spec hnamed w5'
  cases hmethM.symm.trans hmethM'
  obtain ⟨cI, kI, i1, i2, -, i4, -⟩ := Cond.instantiable_spec wi'
  have hcI : cI = mk.cls := Option.some.inj (i1.symm.trans (findClass_of_methodNamed hnamed))
  subst hcI
  have hni : kI.isInterface = false := (Bool.or_eq_false_iff.mp i4).1
  obtain ⟨cell, kc0, c1, -, -, c4, -⟩ := E
  have hcell : T.heap[a]? = some cell := by rw [eT]; exact c1
  have hobj : ∀ q, cell.vm ≠ .statics q := fun q z => by rw [z] at c4; cases c4
  have hx := C.1
  have hdc := hb C.2.2.2.1 hd
  obtain ⟨hready, hnames⟩ := own_ref C X hnamed hy w1
  obtain ⟨kP, hkP, hnameP⟩ := className_of_methodNamed hnamed
  cases i2.symm.trans hkP
  have alike := X.warmed.alike
  obtain ⟨kP2, hkP2, eP2⟩ := alike.2.2 _ _ hkP
  have hm2 : T.vm.method? mk = some methM := by rw [alike.method?]; exact hmethM
  have hni2 : kP2.isInterface = false := by rw [eP2]; exact hni
  have hpoly : signaturePolymorphic kP2 methM = false := by
    have : kP2.name = y.cls := by rw [eP2]; exact hnameP
    simp [signaturePolymorphic, this, hy.1, hy.2]
  have hsel : selectMethod e.platform T.vm cell.cls mk = .method mk := selectMethod_private hm2 (hpriv mk methM hnamed hmethM)
  have stp : ∀ target, (∀ acts, Steps p.tables e below (doInvoke e (T.setTop { mkF m pc ls st with stack := rest }) acts mk (.ref a :: argsL).toArray).1 target) → Steps p.tables e below (T.setTop (mkF m pc ls st)) target := by
    intro target hrest
    show Steps p.tables e below (T.setTop { method := m, pc := pc, locals := ls, stack := st, locked := none }) _
    jvm_step X.here [hx, hdc, invokevirtual.wp_named (e := e) (s := T) (f := mkF m pc ls st) (a := a) (args := argsL) (rest := rest) (cell := cell) X.here.top hnames hkP2 hni2 hready hkP2 hm2 hpoly hstM (lenOf hpd hpl _ hsigM) hst hcell hobj hsel hm2 habM hkP2 hni2]
    exact hrest
  have hK : Back l R p e below s args y 3 W _ _ := backOf (W := W) (Q := fun v h2 L => (yQ v h2 ∧ h.size ≤ h2.size) ∧ Fr Z.heap.size L) (K hE []) C.2.1 w5 w6 hf hl
  obtain ⟨v, ⟨T', L', k', n'⟩, X', ⟨L, ⟨hQ, hN⟩, e1, e2, e3⟩, stp2⟩ := hK m meth c ⟨T, locs, cells, slots⟩ { mkF m pc ls st with stack := rest } (.invokevirtual index) mk (.ref a :: argsL).toArray X rfl (hsz.trans C.2.2.2.2.1.symm) hdc (by show 2 * 0 + _ ≤ _; rw [Nat.mul_zero, Nat.zero_add]; exact hW) (X.named hnamed) ⟨rfl, eT, hcc, hss⟩
  dsimp only [Pt.U, Pt.locs, Pt.cells, Pt.slots] at X' e1 e2 e3 hQ stp2
  subst e1 e2 e3 hp
  exact OGoal.via (fun t kk => (stp _ fun acts => by rw [doInvoke_state]; exact Steps.refl _).trans (stp2.trans kk)) (k v T'.heap hQ.1 hQ.2 C T' _ X' rfl (Fr.app N hN))
/-- a private method -/
theorem o_callP {index yl W : Nat} {y : MethodName} {yb : ByteArray} {yr : Option FieldType} {rm : Room} {yQ : Option Value → Heap → Prop} {argsL : List Value} {ps : List FieldType} {yr' : Option FieldType} {nn : Nat} (w1 : (Cond.methodLink own index y).before a0 Z = true) (w4 : (Cond.instanceMethod y).before a0 Z = true) (wp : (Cond.privateMethod y).before a0 Z = true) (wi : (Cond.instantiable y.cls nn).before a0 Z = true) (w5 : (Cond.code y yb yl yr).before a0 Z = true) (w6 : (Cond.initialized y.cls).before a0 Z = true)
    (hy : y.cls ≠ "java/lang/invoke/MethodHandle" ∧ y.cls ≠ "java/lang/invoke/VarHandle") {C0 : String} (E : Exa Z h a C0) (K : Ext Z.heap h → OCtr l Z y yb yl yr rm (.ref a :: argsL).toArray h yQ) (hd : decode bytes pc = .ok (.invokevirtual index, 3))
    (hpd : parseMethodDescriptor y.desc = some ⟨ps, yr'⟩) (hpl : argsL.length = ps.length) (hsz : ls.size = ml) (hst : st = argsL.reverse ++ .ref a :: rest) (hW : (rest.map fun v => v.category).sum ≤ W)
    (hf : rm.frames + 1 ≤ R.frames) (hl : W + (yl + 11) + rm.locals ≤ R.locals) (hcc : cells + rm.cells ≤ R.cells) (hss : slots + rm.slots ≤ R.slots) (hp : pc + 3 = pc')
    (k : ∀ v h', yQ v h' → h.size ≤ h'.size → OG p l e R s m args below meth c Z own nm bytes ml ret Q kc ks h' (cells + rm.cells) (slots + rm.slots) (mkF m pc' ls (v.toList ++ rest))) : OG p l e R s m args below meth c Z own nm bytes ml ret Q kc ks h cells slots (mkF m pc ls st) := by
  intro C T locs X eT N
  have hE : Ext Z.heap h := eT ▸ own_ext X C.2.2.2.2.2.2.2.2 N
  have w4' : (Cond.instanceMethod y).before args s = true := mvT C.2.1 w4
  have w5' : (Cond.code y yb yl yr).before args s = true := mvT C.2.1 w5
  have wi' : (Cond.instantiable y.cls nn).before args s = true := mvT C.2.1 wi
  have hpriv : s.PrivateAt y := Cond.privateMethod_at (args := args) (mvT C.2.1 wp)
  obtain ⟨mk, methM, hnamed, hmethM, hstM, habM⟩ := Cond.instanceMethod_spec w4'
  obtain ⟨methM', cM, hmethM', -, -, -, -, -, -, hsigM⟩ := Cond.code_spec hnamed w5'
  cases hmethM.symm.trans hmethM'
  obtain ⟨cI, kI, i1, i2, -, i4, -⟩ := Cond.instantiable_spec wi'
  have hcI : cI = mk.cls := Option.some.inj (i1.symm.trans (findClass_of_methodNamed hnamed))
  subst hcI
  have hni : kI.isInterface = false := (Bool.or_eq_false_iff.mp i4).1
  obtain ⟨cell, kc0, c1, -, -, c4, -⟩ := E
  have hcell : T.heap[a]? = some cell := by rw [eT]; exact c1
  have hobj : ∀ q, cell.vm ≠ .statics q := fun q z => by rw [z] at c4; cases c4
  have hx := C.1
  have hdc := hb C.2.2.2.1 hd
  have hsel : selectMethod e.platform s.vm cell.cls mk = .method mk := selectMethod_private hmethM (hpriv mk methM hnamed hmethM)
  obtain ⟨vm₁, X₁, hstep₁⟩ := X.invokevirtual C.1 C.2.2.1 (mvT C.2.1 w1) hnamed hmethM hstM i2 hni hy (a := a) (cell := cell) hcell hobj hsel hmethM habM i2 hni (g := mkF m pc ls st) rfl (argsL := argsL) (rest := rest) (lenOf hpd hpl _ hsigM) hst hdc
  have hK : Back l R p e below s args y 3 W _ _ := backOf (W := W) (Q := fun v h2 L => (yQ v h2 ∧ h.size ≤ h2.size) ∧ Fr Z.heap.size L) (K hE []) C.2.1 w5 w6 hf hl
  obtain ⟨v, ⟨T', L', k', n'⟩, X', ⟨L, ⟨hQ, hN⟩, e1, e2, e3⟩, stp2⟩ := hK m meth c ⟨T.setVm vm₁, locs, cells, slots⟩ { mkF m pc ls st with stack := rest } (.invokevirtual index) mk (.ref a :: argsL).toArray X₁ rfl (hsz.trans C.2.2.2.2.1.symm) hdc (by show 2 * 0 + _ ≤ _; rw [Nat.mul_zero, Nat.zero_add]; exact hW) (X₁.named hnamed) ⟨rfl, eT, hcc, hss⟩
  dsimp only [Pt.U, Pt.locs, Pt.cells, Pt.slots] at X' e1 e2 e3 hQ stp2
  subst e1 e2 e3 hp
  exact OGoal.via (fun t kk => (hstep₁ _ fun acts => by rw [doInvoke_state]; exact Steps.refl _).trans (stp2.trans kk)) (k v T'.heap hQ.1 hQ.2 C T' _ X' rfl (Fr.app N hN))
/-- a call through an interface -/
theorem o_callF {index yl W : Nat} {y : MethodName} {yb : ByteArray} {yr : Option FieldType} {rm : Room} {yQ : Option Value → Heap → Prop} {argsL : List Value} {ps : List FieldType} {yr' : Option FieldType} {count : Nat} {C0 : String} {xi : MethodName} (w1 : (Cond.methodLink own index xi).before a0 Z = true) (w2 : (Cond.declares xi).before a0 Z = true) (wf : (Cond.interfaceMethod xi.cls xi.cls xi.name xi.desc).before a0 Z = true) (hkf : ((Cond.interfaceMethod xi.cls xi.cls xi.name xi.desc).onTables && (Cond.interfaceMethod xi.cls xi.cls xi.name xi.desc).keepsFace) = true) (w3 : (Cond.selects C0 xi y).before a0 Z = true) (w4 : (Cond.instanceMethod y).before a0 Z = true)
    (wp : (Cond.publicMethod y).before a0 Z = true) (wu : (Cond.unhidden C0 xi.name xi.desc).before a0 Z = true) (wc : (Cond.castable C0 xi.cls).before a0 Z = true) (w5 : (Cond.code y yb yl yr).before a0 Z = true) (w6 : (Cond.initialized y.cls).before a0 Z = true)
    (hy : xi.cls ≠ "java/lang/invoke/MethodHandle" ∧ xi.cls ≠ "java/lang/invoke/VarHandle") (E : Exa Z h a C0) (K : Ext Z.heap h → OCtr l Z y yb yl yr rm (.ref a :: argsL).toArray h yQ) (hd : decode bytes pc = .ok (.invokeinterface index count, 5))
    (hpd : parseMethodDescriptor xi.desc = some ⟨ps, yr'⟩) (hpl : argsL.length = ps.length) (hsz : ls.size = ml) (hst : st = argsL.reverse ++ .ref a :: rest) (hW : (rest.map fun v => v.category).sum ≤ W)
    (hf : rm.frames + 1 ≤ R.frames) (hl : W + (yl + 11) + rm.locals ≤ R.locals) (hcc : cells + rm.cells ≤ R.cells) (hss : slots + rm.slots ≤ R.slots) (hp : pc + 5 = pc')
    (k : ∀ v h', yQ v h' → h.size ≤ h'.size → OG p l e R s m args below meth c Z own nm bytes ml ret Q kc ks h' (cells + rm.cells) (slots + rm.slots) (mkF m pc' ls (v.toList ++ rest))) : OG p l e R s m args below meth c Z own nm bytes ml ret Q kc ks h cells slots (mkF m pc ls st) := by
  intro C T locs X eT N
  have hE : Ext Z.heap h := eT ▸ own_ext X C.2.2.2.2.2.2.2.2 N
  obtain ⟨cq, kq, qa, qb, qc⟩ := isOf C.2.1 eT E
  obtain ⟨v, vm₁, ⟨T', L', k', n'⟩, -, X', ⟨L, ⟨hQ, hN⟩, e1, e2, e3⟩, stp⟩ := X.interfaceBack C.1 (xi := xi) (y := y) C.2.2.1 (mvT C.2.1 w1) (mvT C.2.1 w2) (mvT C.2.1 wf hkf) (mvT C.2.1 w3) (mvT C.2.1 w4) (mvT C.2.1 wp) (mvT C.2.1 wu) (mvT C.2.1 wc) hy
    (backOf (W := W) (Q := fun v h2 L => (yQ v h2 ∧ h.size ≤ h2.size) ∧ Fr Z.heap.size L) (K hE []) C.2.1 w5 w6 hf hl) qa qb qc (g := mkF m pc ls st) rfl (hsz.trans C.2.2.2.2.1.symm) (Steps.refl _) (argsL := argsL) (rest := rest) (lenOf hpd hpl) hst (by show 2 * 0 + _ ≤ _; rw [Nat.mul_zero, Nat.zero_add]; exact hW) (hb C.2.2.2.1 hd) (fun _ _ => ⟨rfl, eT, hcc, hss⟩)
  dsimp only [Pt.U, Pt.locs, Pt.cells, Pt.slots] at X' e1 e2 e3 hQ stp
  subst e1 e2 e3 hp
  exact OGoal.via (fun t kk => stp.trans kk) (k v T'.heap hQ.1 hQ.2 C T' _ X' rfl (Fr.app N hN))
/-- a static method of a nest mate -/
theorem o_callSN {index yl W : Nat} {y : MethodName} {host : String} {yb : ByteArray} {yr : Option FieldType} {rm : Room} {yQ : Option Value → Heap → Prop} {argsL : List Value} {ps : List FieldType} {yr' : Option FieldType}
    (w1 : (Cond.methodLinkNest own index y host).before a0 Z = true) (w2 : (Cond.static y).before a0 Z = true) (w3 : (Cond.initialized y.cls).before a0 Z = true) (w4 : (Cond.code y yb yl yr).before a0 Z = true)
    (hy : y.cls ≠ "java/lang/invoke/MethodHandle" ∧ y.cls ≠ "java/lang/invoke/VarHandle") (K : Ext Z.heap h → OCtr l Z y yb yl yr rm argsL.toArray h yQ) (hd : decode bytes pc = .ok (.invokestatic index, 3))
    (hpd : parseMethodDescriptor y.desc = some ⟨ps, yr'⟩) (hpl : argsL.length = ps.length) (hsz : ls.size = ml) (hst : st = argsL.reverse ++ rest) (hW : (rest.map fun v => v.category).sum ≤ W)
    (hf : rm.frames + 1 ≤ R.frames) (hl : W + (yl + 11) + rm.locals ≤ R.locals) (hcc : cells + rm.cells ≤ R.cells) (hss : slots + rm.slots ≤ R.slots) (hp : pc + 3 = pc')
    (k : ∀ v h', yQ v h' → h.size ≤ h'.size → OG p l e R s m args below meth c Z own nm bytes ml ret Q kc ks h' (cells + rm.cells) (slots + rm.slots) (mkF m pc' ls (v.toList ++ rest))) : OG p l e R s m args below meth c Z own nm bytes ml ret Q kc ks h cells slots (mkF m pc ls st) := by
  intro C T locs X eT N
  have hE : Ext Z.heap h := eT ▸ own_ext X C.2.2.2.2.2.2.2.2 N
  have w1' : (Cond.methodLinkNest own index y host).before args s = true := (Cond.methodLinkNest_wide C.2.1 w1 :)
  obtain ⟨v, vm₁, ⟨T', L', k', n'⟩, -, X', ⟨L, ⟨hQ, hN⟩, e1, e2, e3⟩, stp⟩ := callSN X C.1 (y := y) C.2.2.1 w1' (mvT C.2.1 w2) (mvT C.2.1 w3) (mvT C.2.1 w4) hy
    (backOf (W := W) (Q := fun v h2 L => (yQ v h2 ∧ h.size ≤ h2.size) ∧ Fr Z.heap.size L) (K hE []) C.2.1 w4 w3 hf hl) (g := mkF m pc ls st) rfl (hsz.trans C.2.2.2.2.1.symm) (argsL := argsL) (rest := rest) (lenOf hpd hpl) hst (by show 2 * 0 + _ ≤ _; rw [Nat.mul_zero, Nat.zero_add]; exact hW) (hb C.2.2.2.1 hd) (fun _ _ => ⟨rfl, eT, hcc, hss⟩)
  dsimp only [Pt.U, Pt.locs, Pt.cells, Pt.slots] at X' e1 e2 e3 hQ stp
  subst e1 e2 e3 hp
  exact OGoal.via (fun t kk => stp.trans kk) (k v T'.heap hQ.1 hQ.2 C T' _ X' rfl (Fr.app N hN))
theorem OArr.arv {d : Value} (F : OArr Z h a k0 ty vs) (hf : ∀ v ∈ vs, fits ty v = true) : Arv Z h a k0 ty (Int32.ofNat vs.length) vs d := by
  obtain ⟨cl, A, q0, q1, q2⟩ := F
  obtain ⟨e1, e2⟩ := own_clamp q2
  subst q1
  have hsz : cl.slots.size = cl.slots.toList.length := Array.length_toList.symm
  refine ⟨cl, A, q0, by rw [e2, hsz], e1, fun i hi => ?_, fun i hi => ?_⟩
  · rw [hsz] at hi
    rw [← Array.getElem?_toList, List.getElem?_eq_getElem hi, List.getD_eq_getElem?_getD, List.getElem?_eq_getElem hi]
    rfl
  · rw [hsz] at hi
    rw [List.getD_eq_getElem?_getD, List.getElem?_eq_getElem hi]
    exact hf _ (List.getElem_mem hi)
theorem own_oarr {n : Nat} {d : Value} (F : Arv Z h a k0 ty (Int32.ofNat n) vs d) (hn : n < 2 ^ 31) (hl : vs.length = n) : OArr Z h a k0 ty vs := by
  obtain ⟨cl, A, q0, q1, -, H, -⟩ := F
  rw [(own_clamp hn).2] at q1
  refine ⟨cl, A, q0, ?_, by omega⟩
  apply List.ext_getElem?
  intro i
  by_cases hi : i < n
  · have := H i (by omega)
    rw [Array.getElem?_toList, this, List.getD_eq_getElem?_getD, List.getElem?_eq_getElem (by omega)]
    rfl
  · rw [List.getElem?_eq_none (by rw [Array.length_toList]; omega), List.getElem?_eq_none (by omega)]
theorem own_fitI {xs : List Int32} : ∀ v ∈ xs.map Value.int, fits .int v = true := by
  intro v hv
  obtain ⟨x, -, rfl⟩ := List.mem_map.mp hv
  rfl
/-- System.arraycopy of ints, from one array into another -/
theorem o_cpyI {index W i j n : Nat} {k1 : ClassId} {xs ys : List Int32} {zi zj zn : Int32} (w1 : (Cond.methodLink own index Jvm.Stand.acN).before a0 Z = true) (w2 : (Cond.native Jvm.Stand.acN).before a0 Z = true) (w3 : (Cond.static Jvm.Stand.acN).before a0 Z = true) (w4 : (Cond.initialized "java/lang/System").before a0 Z = true)
    (A : OArr Z h a k0 .int (xs.map Value.int)) (B : OArr Z h b k1 .int (ys.map Value.int)) (hi : zi = Int32.ofNat i) (hj : zj = Int32.ofNat j) (hn : zn = Int32.ofNat n) (h4 : i + n ≤ xs.length) (h5 : j + n ≤ ys.length) (ha : Z.heap.size ≤ b)
    (hd : decode bytes pc = .ok (.invokestatic index, 3)) (hsz : ls.size = ml) (hW : (rest.map fun v => v.category).sum ≤ W) (hf : 1 ≤ R.frames) (hl : W + 18 ≤ R.locals) (hp : pc + 3 = pc')
    (k : ∀ h', Keep h h' [b] → OArr Z h' b k1 .int ((ys.take j ++ (xs.drop i).take n ++ ys.drop (j + n)).map Value.int) → OG p l e R s m args below meth c Z own nm bytes ml ret Q kc ks h' cells slots (mkF m pc' ls rest)) : OG p l e R s m args below meth c Z own nm bytes ml ret Q kc ks h cells slots (mkF m pc ls (.int zn :: .int zj :: .ref b :: .int zi :: .ref a :: rest)) := by
  intro C T locs X eT N
  subst hi hj hn hp
  have lx : xs.length < 2 ^ 31 := by obtain ⟨_, _, _, _, q⟩ := A; rwa [List.length_map] at q
  have ly : ys.length < 2 ^ 31 := by obtain ⟨_, _, _, _, q⟩ := B; rwa [List.length_map] at q
  have A' := A.arv (d := .int 0) own_fitI
  have B' := B.arv (d := .int 0) own_fitI
  rw [List.length_map] at A' B'
  obtain ⟨i1, i2⟩ := own_clamp (i := i) (by omega)
  obtain ⟨j1, j2⟩ := own_clamp (i := j) (by omega)
  obtain ⟨n1, n2⟩ := own_clamp (i := n) (by omega)
  have us_eq : (((xs.drop i).take n).map Value.int) = (List.range (Int32.ofNat n).toNatClampNeg).map fun t => (xs.map Value.int).getD ((Int32.ofNat i).toNatClampNeg + t) (.int 0) := by
    rw [n2, i2]
    apply List.ext_getElem?
    intro t
    by_cases ht : t < n
    · rw [List.getElem?_map, List.getElem?_take_of_lt ht, List.getElem?_drop, List.getElem?_map, List.getElem?_range ht, List.getElem?_eq_getElem (by omega)]
      simp only [Option.map_some, List.getD_eq_getElem?_getD, List.getElem?_map]
      rw [List.getElem?_eq_getElem (by omega)]
      rfl
    · rw [List.getElem?_eq_none (by simp; omega), List.getElem?_eq_none (by simp; omega)]
  obtain ⟨T', h', L, X', e', N', K', B2, stp⟩ := cpA X C.1 C.2.1 C.2.2.1 w1 w2 w3 w4 eT A' B' (Or.inl ⟨rfl, rfl⟩) i1 j1 n1 (by rw [i2, n2, (own_clamp lx).2]; exact h4) (by rw [j2, n2, (own_clamp ly).2]; exact h5) us_eq (by rw [j2, n2, List.length_map]; exact h5) N ha
    (g := mkF m pc ls (.int (Int32.ofNat n) :: .int (Int32.ofNat j) :: .ref b :: .int (Int32.ofNat i) :: .ref a :: rest)) rfl (hsz.trans C.2.2.2.2.1.symm) rfl (hb C.2.2.2.1 hd) hf (W := W) (by show 2 * 0 + _ ≤ _; rw [Nat.mul_zero, Nat.zero_add]; exact hW) (by rw [show nativeFrameWords "java/lang/System" "arraycopy" 5 + 11 = 18 from by rw [nativeFrameWords_plain 5 (by decide)]]; exact hl)
  rw [j2, n2] at B2
  have B3 : OArr Z h' b k1 .int ((ys.take j ++ (xs.drop i).take n ++ ys.drop (j + n)).map Value.int) := by
    rw [List.map_append, List.map_append, List.map_take (l := ys), List.map_drop (l := ys)]
    exact own_oarr B2 ly (by simp; omega)
  exact OGoal.via stp (k h' K' B3 C T' L X' e' N')
theorem o_newPE {aty : ArrayType} {n cap : Nat} {j : Int32} {ad : String} (w : (Cond.arrayClass (newarray.typeOf aty)).before a0 Z = true) (had : "[" ++ (newarray.typeOf aty).toString = ad) (hj : j = Int32.ofNat n) (hn : n ≤ cap) (hcap : cap < 60000000) (hd : decode bytes pc = .ok (.newarray aty, 2)) (hc : cells + 1 ≤ R.cells) (hl : slots + cap ≤ R.slots) (hp : pc + 2 = pc')
    (k : ∀ h' a k0, a = h.size → Z.heap.size ≤ a → Ext h h' → OArr Z h' a k0 (newarray.typeOf aty) (List.replicate n (defaultValue (newarray.typeOf aty))) → Exa Z h' a ad → OG p l e R s m args below meth c Z own nm bytes ml ret Q kc ks h' (cells + 1) (slots + cap) (mkF m pc' ls (.ref a :: rest))) : OG p l e R s m args below meth c Z own nm bytes ml ret Q kc ks h cells slots (mkF m pc ls (.int j :: rest)) := by
  intro C T locs X eT N
  subst hj hp
  have hE : Ext Z.heap h := eT ▸ own_ext X C.2.2.2.2.2.2.2.2 N
  obtain ⟨e1, e2⟩ := own_clamp (i := n) (by omega)
  obtain ⟨T', h', cA, X', e', E', A', G', stp⟩ := newPE X C.1 C.2.1 w eT (g := mkF m pc ls (.int (Int32.ofNat n) :: rest)) rfl (hb C.2.2.2.1 hd) rfl e1 (cap := cap) (by rw [e2]; exact hn) (by omega) hc hl had
  exact OGoal.via stp (k h' h.size cA rfl hE.1 E' (own_newA (by omega) A') G' C T' _ X' e' N)
theorem own_fitC {cl : Cell} {xs : List Int32} (A : Arr Z h a cl .int) (q : cl.slots.toList = xs.map Value.int) : FitC Z cl := by
  intro i v hv
  obtain ⟨-, k, h1, comp, h2⟩ := A.2.1
  have hm : v ∈ xs.map Value.int := by
    rw [← q]
    exact List.mem_of_getElem? (by rw [Array.getElem?_toList]; exact hv)
  have hf := own_fitI v hm
  simp [State.fitsSlot, State.slotType?, h1, h2, hf]
/-- clone() of an int[] -/
theorem o_cloneI {index W cap : Nat} {xs : List Int32} (w1 : (Cond.methodLink own index ⟨"[I", "clone", "()Ljava/lang/Object;"⟩).before a0 Z = true) (w2 : (Cond.sameMethod "[I" "java/lang/Object" "clone" "()Ljava/lang/Object;").before a0 Z = true) (w3 : (Cond.native ⟨"java/lang/Object", "clone", "()Ljava/lang/Object;"⟩).before a0 Z = true)
    (w4 : (Cond.instanceMethod ⟨"java/lang/Object", "clone", "()Ljava/lang/Object;"⟩).before a0 Z = true) (w5 : (Cond.selects "[I" ⟨"[I", "clone", "()Ljava/lang/Object;"⟩ ⟨"java/lang/Object", "clone", "()Ljava/lang/Object;"⟩).before a0 Z = true) (w6 : (Cond.castable "[I" "java/lang/Cloneable").before a0 Z = true)
    (A : OArr Z h a k0 .int (xs.map Value.int)) (E : Exa Z h a "[I") (hd : decode bytes pc = .ok (.invokevirtual index, 3)) (hsz : ls.size = ml) (hW : (rest.map fun v => v.category).sum ≤ W) (hf : 1 ≤ R.frames) (hl : W + 14 ≤ R.locals) (hcap : xs.length ≤ cap) (hc : cells + 1 ≤ R.cells) (hsl : slots + cap ≤ R.slots) (hp : pc + 3 = pc')
    (k : ∀ h' b, b = h.size → Z.heap.size ≤ b → Ext h h' → OArr Z h' b k0 .int (xs.map Value.int) → Exa Z h' b "[I" → OG p l e R s m args below meth c Z own nm bytes ml ret Q kc ks h' (cells + 1) (slots + cap) (mkF m pc' ls (.ref b :: rest))) : OG p l e R s m args below meth c Z own nm bytes ml ret Q kc ks h cells slots (mkF m pc ls (.ref a :: rest)) := by
  intro C T locs X eT N
  subst hp
  have hE : Ext Z.heap h := eT ▸ own_ext X C.2.2.2.2.2.2.2.2 N
  obtain ⟨cl, A1, q0, q1, q2⟩ := A
  have hsz2 : cl.slots.size = xs.length := by rw [← Array.length_toList, q1, List.length_map]
  obtain ⟨T', h', X', e', E', A', G', stp⟩ := cloneA X C.1 C.2.1 C.2.2.1 w1 w2 w3 w4 w5 w6 eT A1 E (own_fitC A1 q1) (g := mkF m pc ls (.ref a :: rest)) rfl (hsz.trans C.2.2.2.2.1.symm) rfl (hb C.2.2.2.1 hd) hf (W := W) (cap := cap) (by show 2 * 0 + _ ≤ _; rw [Nat.mul_zero, Nat.zero_add]; exact hW) hl (by rw [hsz2]; exact hcap) hc hsl
  exact OGoal.via stp (k h' h.size rfl hE.1 E' ⟨_, A', q0, q1, q2⟩ G' C T' _ X' e' N)
end JdkKit
section FaceKit
variable {p : Program} {l : Launch} {e : Env} {R : Room} {s : State} {m : MethodId} {args : Array Value} {below : List Frame} {meth : Method} {c : Code} {T : State} {locs : List Loc} {cells slots kc ks : Nat} {Z : State} {a0 : Array Value} {own nm : String} {bytes : ByteArray} {ml : Nat} {ret : Option FieldType} {Q : Option Value → Heap → Prop} {h h' : Heap} {pc pc' : Nat} {ls ls' : Array Slot} {st st' rest : List Value} {a b : Addr}
theorem own_plain {vm : Vm} {flags : Nat} {c1 t d : ClassId} {ck dk : Class} (q : plainAccess vm flags c1 ck t d dk = true) : vm.Plain flags c1 ck t d dk := by
  simp only [plainAccess, Bool.or_eq_true, Bool.and_eq_true, beq_iff_eq, Bool.not_eq_true'] at q
  rcases q with ((q | q) | q) | q
  · exact Or.inl q
  · exact Or.inr (Or.inl q)
  · exact Or.inr (Or.inr (Or.inl q))
  · exact Or.inr (Or.inr (Or.inr ⟨q.1.1.1, q.1.1.2, q.1.2, by rcases q.2 with (r | r) | r <;> simp [r]⟩))
/-- a reference to a method that a superinterface declares: no word on its flags is asked (the link word holds the access) -/
theorem own_link {cls : String} {x : MethodName} {index d c1 : Nat} {ck ok : Class} {mt : Method} {mf : MethodId} (hd : s.vm.findClass cls = some d) (hc : s.vm.findClass x.cls = some c1) (hck : s.vm.classes[c1]? = some ck) (hvi : ck.isInterface = true) (hnone : ck.findMethod x.name x.desc = none)
    (hf : s.methodFound? x.cls x.name x.desc = some mf) (hok : s.vm.classes[mf.cls]? = some ok) (hm : ok.methods[mf.idx]? = some mt) (hx : x.cls ≠ "java/lang/invoke/MethodHandle" ∧ x.cls ≠ "java/lang/invoke/VarHandle") (hcl : x.name ≠ "clone")
    (hw : (Cond.methodLink cls index x).before args s = true) (pl : Platform) (hpl : pl.magicAccessors = ({} : Platform).magicAccessors) : ∃ ci, s.vm.MethodLinksFF pl d index ci c1 mf ∧ s.rightAt d index (.method mf) = true := by
  obtain ⟨k0, hk0, hname⟩ := Vm.findClass_spec hc
  cases hck.symm.trans hk0
  have hpoly : ∀ y, signaturePolymorphic ck y = false := fun y => by simp [signaturePolymorphic, hname, hx.1, hx.2]
  have hmt : s.vm.method? mf = some mt := by simp [Vm.method?, hok, hm]
  have hcln : (x.name == "clone") = false := by simpa using hcl
  have hw' : (Cond.methodLink cls index x).value args s none s [] = some true := Cond.before_iff.mp hw
  rw [show (Cond.methodLink cls index x).value args s none s [] = (match s.memberEntry? cls index, s.vm.findClass cls, s.vm.findClass x.cls, s.methodFound? x.cls x.name x.desc with
    | some (ci, viaInterface), some d, some c, some m => do
      let linked ← s.classLinks cls ci x.cls
      let dk ← s.vm.classes[d]?
      let ck ← s.vm.classes[c]?
      let mk ← s.vm.classes[m.cls]?
      let meth ← s.vm.method? m
      pure (linked && s.names cls index (.method x.cls x.name x.desc) && s.openOr cls index (.method m) && ck.isInterface == viaInterface &&
        x.cls != "java/lang/invoke/MethodHandle" && x.cls != "java/lang/invoke/VarHandle" && mk.loader.isNone && (plainAccess s.vm meth.accessFlags m.cls mk c d dk || (ck.isArray && x.name == "clone" && m.cls != c)))
    | _, _, _, _ => none) from rfl, hd, hc, hf] at hw'
  rcases hme : s.memberEntry? cls index with _ | ⟨ci, via⟩
  · rw [hme] at hw'; cases hw'
  rw [hme] at hw'
  rcases hcl2 : s.classLinks cls ci x.cls with _ | linked
  · simp [hcl2] at hw'
  rcases hdk : s.vm.classes[d]? with _ | dk
  · simp [hcl2, hdk] at hw'
  simp [hcl2, hdk, hck, hok, hmt, hcln, hvi] at hw'
  obtain ⟨⟨⟨⟨⟨⟨⟨rfl, hnm⟩, hopen⟩, hvia⟩, -⟩, -⟩, hml⟩, hacc⟩ := hw'
  subst hvia
  obtain ⟨cr, hcr, hlinks⟩ := State.classLinks_spec hd hcl2 pl hpl
  cases hc.symm.trans hcr
  obtain ⟨cp, hcp, hnames⟩ := State.names_spec hnm
  obtain ⟨dk', cf, hdk', hcf, rfl⟩ := State.poolOf?_spec hd hcp
  cases hdk.symm.trans hdk'
  obtain ⟨ci', nt, hent, hnt, -⟩ := namesOf?_method hnames
  have hent' : ci' = ci ∧ cf.constantPool[index]? = some (.interfaceMethodref ci nt) := by
    rcases hent with hent | hent <;> simp [State.memberEntry?, hcp, hent] at hme
    exact ⟨hme, hme ▸ hent⟩
  obtain ⟨rfl, hent2⟩ := hent'
  obtain ⟨dk2, cf2, nm2, _, hd2, hcf2, hld2, hname2, -⟩ := hlinks.here
  cases hdk.symm.trans hd2
  cases hcf.symm.trans hcf2
  have hne : ci' ≠ index := by
    intro he
    subst he
    simp [ConstantPool.className?, hent2] at hname2
  refine ⟨ci', ⟨dk, cf, nt, x.name, x.desc, ck, ok, mt, hdk, hcf, hent2, hnt, hlinks, hne, hck, hvi, hpoly, hnone, State.faceFind_of_found hc hck hvi hpoly hnone hf, hok, hm, hld2.trans hml.symm, own_plain hacc, State.openOr_spec hd hdk hopen⟩, ?_⟩
  simp [State.rightAt, hdk, hcf, hnames, hf]
/-- a call through an interface, of a method that a superinterface declares -/
theorem o_callFU {index yl W count : Nat} {y xi : MethodName} {C0 J : String} {yb : ByteArray} {yr : Option FieldType} {rm : Room} {yQ : Option Value → Heap → Prop} {argsL : List Value} {ps : List FieldType} {yr' : Option FieldType}
    (w1 : (Cond.methodLink own index xi).before a0 Z = true) (w2 : (Cond.declares ⟨J, xi.name, xi.desc⟩).before a0 Z = true) (wf : (Cond.interfaceMethod xi.cls J xi.name xi.desc).before a0 Z = true) (hxo : xi.cls ≠ J) (hcl : xi.name ≠ "clone")
    (w3 : (Cond.selects C0 xi y).before a0 Z = true) (w4 : (Cond.instanceMethod y).before a0 Z = true) (wp : (Cond.publicMethod y).before a0 Z = true) (wu : (Cond.unhidden C0 xi.name xi.desc).before a0 Z = true) (wc : (Cond.castable C0 xi.cls).before a0 Z = true) (w5 : (Cond.code y yb yl yr).before a0 Z = true) (w6 : (Cond.initialized y.cls).before a0 Z = true)
    (hy : xi.cls ≠ "java/lang/invoke/MethodHandle" ∧ xi.cls ≠ "java/lang/invoke/VarHandle") (E : Exa Z h a C0) (K : Ext Z.heap h → OCtr l Z y yb yl yr rm (.ref a :: argsL).toArray h yQ) (hd : decode bytes pc = .ok (.invokeinterface index count, 5))
    (hpd : parseMethodDescriptor xi.desc = some ⟨ps, yr'⟩) (hpl : argsL.length = ps.length) (hsz : ls.size = ml) (hst : st = argsL.reverse ++ .ref a :: rest) (hW : (rest.map fun v => v.category).sum ≤ W)
    (hf : rm.frames + 1 ≤ R.frames) (hl : W + (yl + 11) + rm.locals ≤ R.locals) (hcc : cells + rm.cells ≤ R.cells) (hss : slots + rm.slots ≤ R.slots) (hp : pc + 5 = pc')
    (k : ∀ v h', yQ v h' → h.size ≤ h'.size → OG p l e R s m args below meth c Z own nm bytes ml ret Q kc ks h' (cells + rm.cells) (slots + rm.slots) (mkF m pc' ls (v.toList ++ rest))) : OG p l e R s m args below meth c Z own nm bytes ml ret Q kc ks h cells slots (mkF m pc ls st) := by
  intro C T locs X eT N
  have hE : Ext Z.heap h := eT ▸ own_ext X C.2.2.2.2.2.2.2.2 N
  have v2 : (Cond.declares ⟨J, xi.name, xi.desc⟩).before args s = true := mvT C.2.1 w2
  have v3 : (Cond.selects C0 xi y).before args s = true := mvT C.2.1 w3
  have v4 : (Cond.instanceMethod y).before args s = true := mvT C.2.1 w4
  have vp : (Cond.publicMethod y).before args s = true := mvT C.2.1 wp
  have vu : (Cond.unhidden C0 xi.name xi.desc).before args s = true := mvT C.2.1 wu
  have vc : (Cond.castable C0 xi.cls).before args s = true := mvT C.2.1 wc
  have v1 : (Cond.methodLink own index xi).before args s = true := mvT C.2.1 w1
  obtain ⟨cB, kB, hcB, hkB, cellB, hcell, hclsB, hstatB⟩ := isOf C.2.1 eT E
  obtain ⟨r0, r, hn, hrm, hstR, hsigR⟩ := Cond.declares_spec v2
  obtain ⟨cI, kIz, r1, hcIz, hkIz, hiIz, hfz, hnz⟩ := Cond.interfaceMethod_spec wf
  have alZ := C.2.1.alike
  have hcI : s.vm.findClass xi.cls = some cI := by rw [alZ.findClass]; exact hcIz
  obtain ⟨kI, hkI, ekI⟩ := alZ.2.2 _ _ hkIz
  have hiI : kI.isInterface = true := by rw [ekI]; exact hiIz
  have hfound : s.methodFound? xi.cls xi.name xi.desc = some r1 := (State.methodFound?_setVm alZ (s := Z) xi.cls xi.name xi.desc).trans hfz
  have hn1 : s.methodNamed? ⟨J, xi.name, xi.desc⟩ = some r1 := (State.methodNamed?_setVm alZ (s := Z) _).trans hnz
  cases hn.symm.trans hn1
  obtain ⟨hnameR, hdescR⟩ := name_of_methodNamed hn hrm
  obtain ⟨mk, methM, hnamed, hmethM, -, habM⟩ := Cond.instanceMethod_spec v4
  obtain ⟨c2, r2, m2, q1, q2, q3, q4, -⟩ := Cond.selects_spec v3
  cases hcB.symm.trans q1
  cases hfound.symm.trans q2
  cases hnamed.symm.trans q3
  obtain ⟨c3, t3, u1, u2, u3⟩ := Cond.castable_spec vc
  cases hcB.symm.trans u1
  cases hcI.symm.trans u2
  obtain ⟨ok, hok, hokn⟩ := className_of_methodNamed hn
  obtain ⟨kI2, hkI2, hnI⟩ := Vm.findClass_spec hcI
  cases hkI.symm.trans hkI2
  have hpolyI : ∀ z, signaturePolymorphic kI z = false := fun z => by simp [signaturePolymorphic, hnI, hy.1, hy.2]
  have hnone : kI.findMethod xi.name xi.desc = none := by
    rcases hj : kI.findMethod xi.name xi.desc with _ | j
    · rfl
    · exfalso
      obtain ⟨hlt, -, -⟩ := Array.findIdx?_eq_some_iff_getElem.mp hj
      have e1 : r0 = ⟨cI, j⟩ := Option.some.inj (hfound.symm.trans (State.methodFound?_declared hcI hkI hpolyI hj (by simp [hlt])))
      rw [e1] at hok
      cases hkI.symm.trans hok
      exact hxo (hnI.symm.trans hokn)
  have hmO : ok.methods[r0.idx]? = some r := by simpa [Vm.method?, hok] using hrm
  have hpl2 : e.platform.magicAccessors = ({} : Platform).magicAccessors := by rw [X.admits.platform]
  obtain ⟨ci, hlk, hright⟩ := own_link C.2.2.1 hcI hkI hiI hnone hfound hok hmO hy hcl v1 e.platform hpl2
  have hEn : s.MethodEntryUp e T.vm m.cls index cI r0 ci := State.methodEntryFF X.warmed hlk hright
  obtain ⟨dk, cfile, nt, _, _, ck, _, _, hdk, hcf, hcp, -, -, -, hck, hvia, -⟩ := hlk.here
  cases hkI.symm.trans hck
  have al := hEn.warmed.alike
  obtain ⟨dk2, hdk2, hres⟩ := hEn.classReady
  obtain ⟨dk3, hdk3, hed⟩ := al.2.2 _ _ hdk
  cases hdk2.symm.trans hdk3
  obtain ⟨kI3, hkI3, hec⟩ := al.2.2 _ _ hkI
  obtain ⟨kB2, hkB2, -⟩ := al.2.2 _ _ (by rw [hclsB]; exact hkB : s.vm.classes[cellB.cls]? = some kB)
  have hX2 := X.noted hEn.warmed
  generalize hvm : T.vm.calledUp m.cls ci index cI r0 = vm2 at hEn al hdk2 hres hdk3 hkI3 hkB2 hX2
  have hx := C.1
  have hdc := hb C.2.2.2.1 hd
  have hready := hEn.ready
  have hobj : ∀ q, cellB.vm ≠ .statics q := fun q z => by rw [z] at hstatB; cases hstatB
  have hway : ((cellB.cls :: vm2.superclasses cellB.cls).any fun k => (declaredIn vm2 r.name r.desc k).any fun (_, z) => z.isPrivate || z.isStatic) = false := by
    simp only [al.superclasses, al.declaredIn]
    rw [hnameR, hdescR, hclsB]
    exact Cond.unhidden_spec hcB vu
  have hsel2 : selectMethod e.platform vm2 cellB.cls r0 = .method mk := by
    rw [al.selectMethod, Launch.admits_selectMethod X.admits, hclsB]
    exact q4
  have stp : ∀ target, (∀ acts, Steps p.tables e below (doInvoke e ((T.setVm vm2).setTop { mkF m pc ls st with stack := rest }) acts mk (.ref a :: argsL).toArray).1 target) → Steps p.tables e below (T.setTop (mkF m pc ls st)) target := by
    intro target hrest
    show Steps p.tables e below (T.setTop { method := m, pc := pc, locals := ls, stack := st, locked := none }) _
    subst hvm
    jvm_step X.here [hx, hdc, invokeinterface.wp_coldFace (e := e) (s := T) (s₀ := s) (f := mkF m pc ls st) (count := count) X.here.top X.warmed hEn hdk hcf (Or.inr hcp) hck hvia,
      invokeinterface.wp_ready (e := e) (s := T.setVm (T.vm.calledUp m.cls ci index cI r0)) (f := mkF m pc ls st) (count := count) (r := r) (meth := methM) (m := mk) (args := argsL) (rest := rest) (cell := cellB) (kcell := kB2) (ck := dk2) (nk := kI3) (cf := cfile) (ci := ci) (nt := nt) (named := cI)
        X.here.top hready (by rw [State.vm_setVm, al.method?]; exact hrm) hstR (lenOf hpd hpl _ hsigR) hst hcell hobj hkB2 hdk2 (by rw [hed]; exact hcf) hcp hres hkI3 (by rw [hec]; exact hvia) (by rw [State.vm_setVm, al.assignable, hclsB]; exact u3) hsel2 (by rw [State.vm_setVm, al.method?]; exact hmethM) (Or.inr (Or.inr hway)) (Or.inl (Cond.publicMethod_spec hnamed hmethM vp)) habM]
    exact hrest
  have hK : Back l R p e below s args y 5 W _ _ := backOf (W := W) (Q := fun v h2 L => (yQ v h2 ∧ h.size ≤ h2.size) ∧ Fr Z.heap.size L) (K hE []) C.2.1 w5 w6 hf hl
  obtain ⟨v, ⟨T', L', k', n'⟩, X', ⟨L, ⟨hQ, hN⟩, e1, e2, e3⟩, stp2⟩ := hK m meth c ⟨T.setVm vm2, locs, cells, slots⟩ { mkF m pc ls st with stack := rest } (.invokeinterface index count) mk (.ref a :: argsL).toArray hX2 rfl (hsz.trans C.2.2.2.2.1.symm) hdc (by show 2 * 0 + _ ≤ _; rw [Nat.mul_zero, Nat.zero_add]; exact hW) (hX2.named hnamed) ⟨rfl, eT, hcc, hss⟩
  dsimp only [Pt.U, Pt.locs, Pt.cells, Pt.slots] at X' e1 e2 e3 hQ stp2
  subst e1 e2 e3 hp
  exact OGoal.via (fun t kk => (stp _ fun acts => by rw [doInvoke_state]; exact Steps.refl _).trans (stp2.trans kk)) (k v T'.heap hQ.1 hQ.2 C T' _ X' rfl (Fr.app N hN))
end FaceKit
section ModKit
variable {p : Program} {l : Launch} {e : Env} {R : Room} {s : State} {m : MethodId} {args : Array Value} {below : List Frame} {meth : Method} {c : Code} {T : State} {locs : List Loc} {cells slots kc ks : Nat} {Z : State} {a0 : Array Value} {own nm : String} {bytes : ByteArray} {ml : Nat} {ret : Option FieldType} {Q : Option Value → Heap → Prop} {h h' : Heap} {pc pc' : Nat} {ls ls' : Array Slot} {st st' rest : List Value} {a b : Addr} {ca : Nat → Addr}
/-- an object of the model: its kind (0 int[], 1 boolean[], 2 int[][], 3 Object[], 4 and 5 objects), its ints, its references -/
abbrev AO := Nat × List Int32 × List Nat
def nth {α : Type} : List α → Nat → Option α
  | [], _ => none
  | a :: _, 0 => some a
  | _ :: l, n + 1 => nth l n
theorem nth_eq {α : Type} : ∀ (l : List α) (n : Nat), nth l n = l[n]?
  | [], _ => by simp [nth]
  | a :: _, 0 => by simp [nth]
  | _ :: l, n + 1 => by simp [nth, nth_eq l n]
def hget (H : List AO) (r : Nat) : Option AO := match r with
  | 0 => none
  | k + 1 => nth H k
def gt (xs : List Int32) (j : Int32) : Option Int32 := if j < 0 then none else nth xs j.toNatClampNeg
def gr (rs : List Nat) (j : Int32) : Option Nat := if j < 0 then none else nth rs j.toNatClampNeg
def ad (Z : State) (ca : Nat → Addr) (r : Nat) : Addr := if r < 1000 then Z.heap.size + (r - 1) else ca (r - 1000)
def rv (Z : State) (ca : Nat → Addr) (r : Nat) : Value := if r = 0 then .null else .ref (ad Z ca r)
theorem rv_ref {r : Nat} (q : r ≠ 0) : rv Z ca r = .ref (ad Z ca r) := if_neg q
def oCEN : String := "com/example/mild_horn/mildhorn/translation/Centroids"
def oDEQ : String := "java/util/ArrayDeque"
def ocl (t : Nat) : String × List (String × String) × List (String × String) :=
  if t = 4 then ("com/example/mild_horn/mildhorn/translation/Centroids", [("parents", "[I"), ("children", "[[I"), ("neighbours", "[[I"), ("first", "[I"), ("last", "[I"), ("after", "[I")], [("top", "I")])
  else ("java/util/ArrayDeque", [("elements", "[Ljava/lang/Object;")], [("head", "I"), ("tail", "I")])
def RepO (Z : State) (ca : Nat → Addr) (h : Heap) (a : Addr) (o : AO) : Prop := match o with
  | (0, xs, _) => (∃ k0, OArr Z h a k0 .int (xs.map Value.int)) ∧ Exa Z h a "[I"
  | (1, xs, _) => ∃ k0, OArr Z h a k0 .boolean (xs.map Value.int)
  | (2, _, rs) => ∃ k0, OArr Z h a k0 (.array .int) (rs.map (rv Z ca)) ∧ OvrA Z k0 .int "[I"
  | (3, _, rs) => ∃ k0, OArr Z h a k0 (.object "java/lang/Object") (rs.map (rv Z ca)) ∧ Ovr Z k0 "java/lang/Object"
  | (t + 4, xs, rs) => Exa Z h a (ocl (t + 4)).1 ∧ (∀ i n d x, nth (ocl (t + 4)).2.1 i = some (n, d) → nth rs i = some x → Fld Z h a (ocl (t + 4)).1 n d (rv Z ca x)) ∧ (∀ i n d x, nth (ocl (t + 4)).2.2 i = some (n, d) → nth xs i = some x → Fld Z h a (ocl (t + 4)).1 n d (.int x))
theorem RepO.ext {o : AO} (F : RepO Z ca h a o) (E : Ext h h') : RepO Z ca h' a o := by
  obtain ⟨t, xs, rs⟩ := o
  match t, F with
  | 0, F => exact ⟨F.1.imp fun k q => q.ext E, F.2.ext E⟩
  | 1, F => exact F.imp fun k q => q.ext E
  | 2, F => exact F.imp fun k q => ⟨q.1.ext E, q.2⟩
  | 3, F => exact F.imp fun k q => ⟨q.1.ext E, q.2⟩
  | t + 4, F => exact ⟨F.1.ext E, fun i n d x h1 h2 => (F.2.1 i n d x h1 h2).ext E, fun i n d x h1 h2 => (F.2.2 i n d x h1 h2).ext E⟩
theorem RepO.other {o : AO} {sl : Nat} {v : Value} (F : RepO Z ca h a o) (W : Wr h h' b sl v) (q : a ≠ b) : RepO Z ca h' a o := by
  obtain ⟨t, xs, rs⟩ := o
  match t, F with
  | 0, F => exact ⟨F.1.imp fun k z => z.other W q, F.2.wr W⟩
  | 1, F => exact F.imp fun k z => z.other W q
  | 2, F => exact F.imp fun k z => ⟨z.1.other W q, z.2⟩
  | 3, F => exact F.imp fun k z => ⟨z.1.other W q, z.2⟩
  | t + 4, F => exact ⟨F.1.wr W, fun i n d x h1 h2 => (F.2.1 i n d x h1 h2).other W (Or.inl q), fun i n d x h1 h2 => (F.2.2 i n d x h1 h2).other W (Or.inl q)⟩
/-- the heap, behind Z's, is the model's -/
def Rep (Z : State) (ca : Nat → Addr) (h : Heap) (H : List AO) : Prop := Ext Z.heap h ∧ h.size = Z.heap.size + H.length ∧ H.length ≤ 500 ∧ ∀ k o, nth H k = some o → RepO Z ca h (Z.heap.size + k) o
theorem own_wrne {sl x : Nat} {v : Value} (W : Wr h h' b sl v) (q : x ≠ b) : h'[x]? = h[x]? := by
  obtain ⟨cell, _, _, _, rfl⟩ := W
  rw [Array.getElem?_setIfInBounds, if_neg (fun z => q z.symm)]
theorem Rep.put {H : List AO} {k sl : Nat} {o o' : AO} {v : Value} (F : Rep Z ca h H) (hk : nth H k = some o) (W : Wr h h' (Z.heap.size + k) sl v) (N : RepO Z ca h' (Z.heap.size + k) o') : Rep Z ca h' (H.set k o') := by
  refine ⟨⟨by rw [W.size]; exact F.1.1, fun x cl q => ?_⟩, by rw [W.size, List.length_set]; exact F.2.1, by rw [List.length_set]; exact F.2.2.1, fun j oj hj => ?_⟩
  · have hx : x < Z.heap.size := (Array.getElem?_eq_some_iff.mp q).1
    rw [own_wrne W (Nat.ne_of_lt (Nat.lt_of_lt_of_le hx (Nat.le_add_right _ _)))]
    exact F.1.2 x cl q
  · rw [nth_eq, List.getElem?_set] at hj
    by_cases e : k = j
    · subst e
      rw [if_pos rfl] at hj
      split at hj
      · cases hj; exact N
      · cases hj
    · rw [if_neg e, ← nth_eq] at hj
      exact (F.2.2.2 j oj hj).other W (fun z => e (Nat.add_left_cancel z).symm)
theorem Rep.add {H : List AO} {o : AO} (F : Rep Z ca h H) (hl : H.length < 500) (E : Ext h h') (hs : h'.size = h.size + 1) (N : RepO Z ca h' h.size o) : Rep Z ca h' (H ++ [o]) := by
  refine ⟨⟨Nat.le_trans F.1.1 E.1, fun x cl q => E.2 _ _ (F.1.2 x cl q)⟩, by rw [hs, F.2.1, List.length_append]; simp; omega, by rw [List.length_append]; simp; omega, fun j oj hj => ?_⟩
  rw [nth_eq, List.getElem?_append] at hj
  split at hj
  · rw [← nth_eq] at hj; exact (F.2.2.2 j oj hj).ext E
  · next q =>
    have : j = H.length := by
      rcases Nat.lt_or_ge (j - H.length) 1 with z | z
      · omega
      · rw [List.getElem?_eq_none (by simpa using z)] at hj; cases hj
    subst this
    rw [Nat.sub_self] at hj
    cases hj
    rw [← F.2.1]
    exact N
theorem Rep.get {H : List AO} {r : Nat} {o : AO} (F : Rep Z ca h H) (q : hget H r = some o) : r ≠ 0 ∧ ad Z ca r = Z.heap.size + (r - 1) ∧ nth H (r - 1) = some o ∧ RepO Z ca h (ad Z ca r) o := by
  cases r with
  | zero => cases q
  | succ k =>
    have q' : nth H k = some o := q
    have hk : k < H.length := by rw [nth_eq] at q'; exact (List.getElem?_eq_some_iff.mp q').1
    have := F.2.2.1
    have e : ad Z ca (k + 1) = Z.heap.size + k := if_pos (by omega)
    exact ⟨by omega, e, q', by rw [e]; exact F.2.2.2 k o q'⟩
theorem Rep.new {H : List AO} (F : Rep Z ca h H) (hl : H.length < 500) : ad Z ca (H.length + 1) = h.size := by
  rw [F.2.1]
  exact if_pos (by omega)
theorem own_bind {α β : Type} {o : Option α} {f : α → Option β} {r : β} (q : o.bind f = some r) : ∃ v, o = some v ∧ f v = some r := by
  cases o with
  | none => cases q
  | some v => exact ⟨v, rfl, q⟩
theorem own_ite {α : Type} {P : Prop} [Decidable P] {x : Option α} {r : α} (q : (if P then x else none) = some r) : P ∧ x = some r := by
  by_cases hp : P
  · rw [if_pos hp] at q; exact ⟨hp, q⟩
  · rw [if_neg hp] at q; cases q
theorem own_nite {α : Type} {P : Prop} [Decidable P] {x : Option α} {r : α} (q : (if P then none else x) = some r) : ¬ P ∧ x = some r := by
  by_cases hp : P
  · rw [if_pos hp] at q; cases q
  · rw [if_neg hp] at q; exact ⟨hp, q⟩
theorem own_back {j : Int32} (hj : ¬ j < 0) : j = Int32.ofNat j.toNatClampNeg ∧ j.toNatClampNeg < 2 ^ 31 := by
  have h1 : (0 : Int32).toInt = 0 := rfl
  rw [Int32.lt_iff_toInt_lt, h1] at hj
  have h2 := Int32.toInt_lt j
  have h3 : j.toNatClampNeg < 2 ^ 31 := by show j.toInt.toNat < _; omega
  refine ⟨Int32.toInt_inj.mp ?_, h3⟩
  have : (Int32.ofNat j.toNatClampNeg).toInt = Int.bmod j.toNatClampNeg (2 ^ 32) := Int32.toInt_ofNat'
  rw [this, Int.bmod_def]
  show j.toInt = _
  have h4 : j.toNatClampNeg = j.toInt.toNat := rfl
  rw [h4]
  omega
/-! reading and writing -/
def ilo (t : Nat) (H : List AO) (r : Nat) (j : Int32) : Option Int32 := (hget H r).bind fun o => if o.1 = t then gt o.2.1 j else none
def ist (t : Nat) (H : List AO) (r : Nat) (j v : Int32) : Option (List AO) := (hget H r).bind fun o => if o.1 = t then (if j < 0 then none else if j.toNatClampNeg < o.2.1.length then some (H.set (r - 1) (t, o.2.1.set j.toNatClampNeg v, o.2.2)) else none) else none
def aln (H : List AO) (r : Nat) : Option Int32 := (hget H r).bind fun o => if o.1 = 0 then some (Int32.ofNat o.2.1.length) else if o.1 = 2 then some (Int32.ofNat o.2.2.length) else if o.1 = 3 then some (Int32.ofNat o.2.2.length) else none
def rlo (H : List AO) (r : Nat) (j : Int32) : Option Nat := (hget H r).bind fun o => if o.1 = 2 ∨ o.1 = 3 then ((gr o.2.2 j).bind fun x => if x = 0 then none else some x) else none
/-- what an Object[] takes: an int[] or an Integer -/
def isO (H : List AO) (v : Nat) : Bool := if v < 1000 then ((hget H v).any fun o => o.1 == 0) else decide (v < 1256)
def rst (t : Nat) (H : List AO) (r : Nat) (j : Int32) (v : Nat) : Option (List AO) := (hget H r).bind fun o => if o.1 = t then (if j < 0 then none else if j.toNatClampNeg < o.2.2.length then some (H.set (r - 1) (t, o.2.1, o.2.2.set j.toNatClampNeg v)) else none) else none
def rst2 (H : List AO) (r : Nat) (j : Int32) (v : Nat) : Option (List AO) := if ((hget H v).any fun o => o.1 == 0) = true then rst 2 H r j v else none
def rst3 (H : List AO) (r : Nat) (j : Int32) (v : Nat) : Option (List AO) := if isO H v = true then rst 3 H r j v else none
theorem gt_spec {xs : List Int32} {j v : Int32} (q : gt xs j = some v) : j = Int32.ofNat j.toNatClampNeg ∧ (xs.map Value.int)[j.toNatClampNeg]? = some (.int v) := by
  obtain ⟨h1, h2⟩ := own_nite q
  rw [nth_eq] at h2
  exact ⟨(own_back h1).1, by rw [List.getElem?_map, h2]; rfl⟩
theorem m_iald {H : List AO} {r : Nat} {j v : Int32} (F : Rep Z ca h H) (hv : ilo 0 H r j = some v) (hd : decode bytes pc = .ok (.iaload, 1)) (hp : pc + 1 = pc')
    (k : OG p l e R s m args below meth c Z own nm bytes ml ret Q kc ks h cells slots (mkF m pc' ls (.int v :: rest))) : OG p l e R s m args below meth c Z own nm bytes ml ret Q kc ks h cells slots (mkF m pc ls (.int j :: .ref (ad Z ca r) :: rest)) := by
  obtain ⟨⟨t, xs, rs⟩, q1, q2⟩ := own_bind hv
  obtain ⟨q3, q4⟩ := own_ite q2
  dsimp only at q3 q4
  subst q3
  obtain ⟨-, -, -, ⟨⟨k0, G⟩, -⟩⟩ := F.get q1
  obtain ⟨e1, e2⟩ := gt_spec q4
  exact o_iald G e1 e2 hd hp k
theorem m_zald {H : List AO} {r : Nat} {j v : Int32} (F : Rep Z ca h H) (hv : ilo 1 H r j = some v) (hd : decode bytes pc = .ok (.baload, 1)) (hp : pc + 1 = pc')
    (k : OG p l e R s m args below meth c Z own nm bytes ml ret Q kc ks h cells slots (mkF m pc' ls (.int v :: rest))) : OG p l e R s m args below meth c Z own nm bytes ml ret Q kc ks h cells slots (mkF m pc ls (.int j :: .ref (ad Z ca r) :: rest)) := by
  obtain ⟨⟨t, xs, rs⟩, q1, q2⟩ := own_bind hv
  obtain ⟨q3, q4⟩ := own_ite q2
  dsimp only at q3 q4
  subst q3
  obtain ⟨-, -, -, ⟨k0, G⟩⟩ := F.get q1
  obtain ⟨e1, e2⟩ := gt_spec q4
  exact o_zald G e1 e2 hd hp k
theorem own_zle (Z : State) (k : Nat) : Z.heap.size ≤ Z.heap.size + k := Nat.le_add_right _ _
theorem m_iast {H H' : List AO} {r : Nat} {j x : Int32} (F : Rep Z ca h H) (hs : ist 0 H r j x = some H') (hd : decode bytes pc = .ok (.iastore, 1)) (hp : pc + 1 = pc')
    (k : ∀ h', Rep Z ca h' H' → OG p l e R s m args below meth c Z own nm bytes ml ret Q kc ks h' cells slots (mkF m pc' ls rest)) : OG p l e R s m args below meth c Z own nm bytes ml ret Q kc ks h cells slots (mkF m pc ls (.int x :: .int j :: .ref (ad Z ca r) :: rest)) := by
  obtain ⟨⟨t, xs, rs⟩, q1, q2⟩ := own_bind hs
  obtain ⟨q3, q4⟩ := own_ite q2
  dsimp only at q3 q4
  subst q3
  obtain ⟨q5, q6⟩ := own_nite q4
  obtain ⟨q7, q8⟩ := own_ite q6
  cases q8
  obtain ⟨r0, e0, n0, ⟨⟨k0, G⟩, E⟩⟩ := F.get q1
  rw [e0] at G E ⊢
  refine o_iast G (own_back q5).1 (by rw [List.length_map]; exact q7) (own_zle _ _) hd hp fun h' W => k h' ?_
  have G' := G.set W
  rw [← List.map_set] at G'
  exact F.put n0 W ⟨⟨k0, G'⟩, E.wr W⟩
theorem m_zast {H H' : List AO} {r : Nat} {j : Int32} (F : Rep Z ca h H) (hs : ist 1 H r j 1 = some H') (hd : decode bytes pc = .ok (.bastore, 1)) (hp : pc + 1 = pc')
    (k : ∀ h', Rep Z ca h' H' → OG p l e R s m args below meth c Z own nm bytes ml ret Q kc ks h' cells slots (mkF m pc' ls rest)) : OG p l e R s m args below meth c Z own nm bytes ml ret Q kc ks h cells slots (mkF m pc ls (.int 1 :: .int j :: .ref (ad Z ca r) :: rest)) := by
  obtain ⟨⟨t, xs, rs⟩, q1, q2⟩ := own_bind hs
  obtain ⟨q3, q4⟩ := own_ite q2
  dsimp only at q3 q4
  subst q3
  obtain ⟨q5, q6⟩ := own_nite q4
  obtain ⟨q7, q8⟩ := own_ite q6
  cases q8
  obtain ⟨r0, e0, n0, ⟨k0, G⟩⟩ := F.get q1
  rw [e0] at G ⊢
  refine o_zast G (own_back q5).1 (by rw [List.length_map]; exact q7) (own_zle _ _) hd hp fun h' W => k h' ?_
  have G' := G.set W
  rw [show nar .boolean (1 : Int32) = 1 from rfl, ← List.map_set] at G'
  exact F.put n0 W ⟨k0, G'⟩
theorem m_len {H : List AO} {r : Nat} {n : Int32} (F : Rep Z ca h H) (hv : aln H r = some n) (hd : decode bytes pc = .ok (.arraylength, 1)) (hp : pc + 1 = pc')
    (k : OG p l e R s m args below meth c Z own nm bytes ml ret Q kc ks h cells slots (mkF m pc' ls (.int n :: rest))) : OG p l e R s m args below meth c Z own nm bytes ml ret Q kc ks h cells slots (mkF m pc ls (.ref (ad Z ca r) :: rest)) := by
  obtain ⟨⟨t, xs, rs⟩, q1, q2⟩ := own_bind hv
  dsimp only at q2
  by_cases t0 : t = 0
  · subst t0
    cases q2
    obtain ⟨-, -, -, ⟨⟨k0, G⟩, -⟩⟩ := F.get q1
    refine o_len G hd hp ?_
    rw [List.length_map]; exact k
  · rw [if_neg t0] at q2
    by_cases t2 : t = 2
    · subst t2
      cases q2
      obtain ⟨-, -, -, ⟨k0, G, -⟩⟩ := F.get q1
      refine o_len G hd hp ?_
      rw [List.length_map]; exact k
    · rw [if_neg t2] at q2
      obtain ⟨rfl, q3⟩ := own_ite q2
      cases q3
      obtain ⟨-, -, -, ⟨k0, G, -⟩⟩ := F.get q1
      refine o_len G hd hp ?_
      rw [List.length_map]; exact k
theorem m_aald {H : List AO} {r x : Nat} {j : Int32} (F : Rep Z ca h H) (hv : rlo H r j = some x) (hd : decode bytes pc = .ok (.aaload, 1)) (hp : pc + 1 = pc')
    (k : OG p l e R s m args below meth c Z own nm bytes ml ret Q kc ks h cells slots (mkF m pc' ls (.ref (ad Z ca x) :: rest))) : OG p l e R s m args below meth c Z own nm bytes ml ret Q kc ks h cells slots (mkF m pc ls (.int j :: .ref (ad Z ca r) :: rest)) := by
  obtain ⟨⟨t, xs, rs⟩, q1, q2⟩ := own_bind hv
  obtain ⟨q3, q4⟩ := own_ite q2
  dsimp only at q3 q4
  obtain ⟨y, q5, q6⟩ := own_bind q4
  obtain ⟨q7, q8⟩ := own_nite q6
  cases q8
  obtain ⟨h1, h2⟩ := own_nite q5
  rw [nth_eq] at h2
  have e2 : (rs.map (rv Z ca))[j.toNatClampNeg]? = some (.ref (ad Z ca x)) := by rw [List.getElem?_map, h2]; exact congrArg some (rv_ref q7)
  rcases q3 with rfl | rfl
  · obtain ⟨-, -, -, ⟨k0, G, -⟩⟩ := F.get q1
    exact o_aald G rfl (own_back h1).1 e2 hd hp k
  · obtain ⟨-, -, -, ⟨k0, G, -⟩⟩ := F.get q1
    exact o_aald G rfl (own_back h1).1 e2 hd hp k
theorem own_any {H : List AO} {v : Nat} (q : ((hget H v).any fun o => o.1 == 0) = true) (F : Rep Z ca h H) : v ≠ 0 ∧ Exa Z h (ad Z ca v) "[I" := by
  cases hq : hget H v with
  | none => rw [hq] at q; cases q
  | some o =>
    obtain ⟨t, xs, rs⟩ := o
    rw [hq] at q
    have h3 : t = 0 := by simpa using q
    subst h3
    obtain ⟨r0, -, -, ⟨-, E⟩⟩ := F.get hq
    exact ⟨r0, E⟩
theorem m_aast2 {H H' : List AO} {r v : Nat} {j : Int32} (F : Rep Z ca h H) (hs : rst2 H r j v = some H') (hd : decode bytes pc = .ok (.aastore, 1)) (hp : pc + 1 = pc')
    (k : ∀ h', Rep Z ca h' H' → OG p l e R s m args below meth c Z own nm bytes ml ret Q kc ks h' cells slots (mkF m pc' ls rest)) : OG p l e R s m args below meth c Z own nm bytes ml ret Q kc ks h cells slots (mkF m pc ls (.ref (ad Z ca v) :: .int j :: .ref (ad Z ca r) :: rest)) := by
  obtain ⟨p1, p2⟩ := own_ite hs
  obtain ⟨v0, Ev⟩ := own_any p1 F
  obtain ⟨⟨t, xs, rs⟩, q1, q2⟩ := own_bind p2
  obtain ⟨q3, q4⟩ := own_ite q2
  dsimp only at q3 q4
  subst q3
  obtain ⟨q5, q6⟩ := own_nite q4
  obtain ⟨q7, q8⟩ := own_ite q6
  cases q8
  obtain ⟨r0, e0, n0, ⟨k0, G, O⟩⟩ := F.get q1
  rw [e0] at G ⊢
  have S : Sto Z h (Z.heap.size + (r - 1)) (.ref (ad Z ca v)) := by
    obtain ⟨cl, A, z0, -, -⟩ := G
    exact Sto.ofVA A z0 O (Ins.self Ev)
  refine o_aast G rfl S (own_back q5).1 (by rw [List.length_map]; exact q7) (own_zle _ _) hd hp fun h' W => k h' ?_
  have G' := G.set W
  rw [← rv_ref (Z := Z) (ca := ca) v0, ← List.map_set] at G'
  exact F.put n0 W ⟨k0, G', O⟩
/-- the Integers of the cache -/
def OCa (Z : State) (ca : Nat → Addr) : Prop := ∀ i, i < 256 → Exa Z Z.heap (ca i) "java/lang/Integer" ∧ Fld Z Z.heap (ca i) "java/lang/Integer" "value" "I" (.int (Int32.ofNat i - 128))
theorem m_aast3 {H H' : List AO} {r v : Nat} {j : Int32} (F : Rep Z ca h H) (hca : OCa Z ca) (w1 : (Cond.castable "[I" "java/lang/Object").before a0 Z = true) (w2 : (Cond.castable "java/lang/Integer" "java/lang/Object").before a0 Z = true) (hs : rst3 H r j v = some H') (hd : decode bytes pc = .ok (.aastore, 1)) (hp : pc + 1 = pc')
    (k : ∀ h', Rep Z ca h' H' → OG p l e R s m args below meth c Z own nm bytes ml ret Q kc ks h' cells slots (mkF m pc' ls rest)) : OG p l e R s m args below meth c Z own nm bytes ml ret Q kc ks h cells slots (mkF m pc ls (.ref (ad Z ca v) :: .int j :: .ref (ad Z ca r) :: rest)) := by
  obtain ⟨p1, p2⟩ := own_ite hs
  have hv : v ≠ 0 ∧ Ins Z h (ad Z ca v) "java/lang/Object" true := by
    unfold isO at p1
    split at p1
    · obtain ⟨v0, Ev⟩ := own_any p1 F
      exact ⟨v0, Ins.of_exa Ev w1⟩
    · next q =>
      have q2 : v < 1256 := of_decide_eq_true p1
      refine ⟨by omega, ?_⟩
      rw [show ad Z ca v = ca (v - 1000) from if_neg q]
      exact Ins.of_exa ((hca (v - 1000) (by omega)).1.ext F.1) w2
  obtain ⟨⟨t, xs, rs⟩, q1, q2⟩ := own_bind p2
  obtain ⟨q3, q4⟩ := own_ite q2
  dsimp only at q3 q4
  subst q3
  obtain ⟨q5, q6⟩ := own_nite q4
  obtain ⟨q7, q8⟩ := own_ite q6
  cases q8
  obtain ⟨r0, e0, n0, ⟨k0, G, O⟩⟩ := F.get q1
  rw [e0] at G ⊢
  refine o_aast G rfl (own_sto G O hv.2) (own_back q5).1 (by rw [List.length_map]; exact q7) (own_zle _ _) hd hp fun h' W => k h' ?_
  have G' := G.set W
  rw [← rv_ref (Z := Z) (ca := ca) hv.1, ← List.map_set] at G'
  exact F.put n0 W ⟨k0, G', O⟩
theorem m_aastN {H H' : List AO} {r : Nat} {j : Int32} (F : Rep Z ca h H) (hs : rst 3 H r j 0 = some H') (hd : decode bytes pc = .ok (.aastore, 1)) (hp : pc + 1 = pc')
    (k : ∀ h', Rep Z ca h' H' → OG p l e R s m args below meth c Z own nm bytes ml ret Q kc ks h' cells slots (mkF m pc' ls rest)) : OG p l e R s m args below meth c Z own nm bytes ml ret Q kc ks h cells slots (mkF m pc ls (.null :: .int j :: .ref (ad Z ca r) :: rest)) := by
  obtain ⟨⟨t, xs, rs⟩, q1, q2⟩ := own_bind hs
  obtain ⟨q3, q4⟩ := own_ite q2
  dsimp only at q3 q4
  subst q3
  obtain ⟨q5, q6⟩ := own_nite q4
  obtain ⟨q7, q8⟩ := own_ite q6
  cases q8
  obtain ⟨r0, e0, n0, ⟨k0, G, O⟩⟩ := F.get q1
  rw [e0] at G ⊢
  refine o_aast G rfl (Or.inl rfl) (own_back q5).1 (by rw [List.length_map]; exact q7) (own_zle _ _) hd hp fun h' W => k h' ?_
  have G' := G.set W
  rw [show (Value.null) = rv Z ca 0 from rfl, ← List.map_set] at G'
  exact F.put n0 W ⟨k0, G', O⟩
/-! objects -/
def hnew (H : List AO) (o : AO) : Option (List AO × Nat) := if H.length < 500 then some (H ++ [o], H.length + 1) else none
def newI (t : Nat) (H : List AO) (j : Int32) : Option (List AO × Nat) := if j < 0 then none else if j.toNatClampNeg ≤ 8 then hnew H (t, List.replicate j.toNatClampNeg 0, []) else none
def newQ (t cap : Nat) (H : List AO) (j : Int32) : Option (List AO × Nat) := if j < 0 then none else if j.toNatClampNeg ≤ cap then hnew H (t, [], List.replicate j.toNatClampNeg 0) else none
theorem own_push (h : Heap) (cl : Cell) : Ext h (h.push cl) ∧ (h.push cl).size = h.size + 1 ∧ (h.push cl)[h.size]? = some cl :=
  ⟨⟨by simp, fun a c q => by rw [Array.getElem?_push_lt (Array.getElem?_eq_some_iff.mp q).1]; exact (Array.getElem?_eq_getElem _).symm.trans q⟩, by simp, by simp⟩
theorem own_kind {cA : ClassId} {kA : Class} {n0 : String} {K : Kind} (hZ : Z.Warmed39 s.vm) (h1 : s.vm.findClass n0 = some cA) (h2 : s.vm.classes[cA]? = some kA) (h3 : kA.kind = K) : ∃ kZ, Z.vm.findClass n0 = some cA ∧ Z.vm.classes[cA]? = some kZ ∧ kZ.kind = K := by
  rw [hZ.alike.findClass] at h1
  obtain ⟨kZ, z1, -⟩ := Vm.findClass_spec h1
  obtain ⟨k', z2, z3⟩ := hZ.alike.2.2 _ _ z1
  cases h2.symm.trans z2
  exact ⟨kZ, h1, z1, by rw [← h3, z3]⟩
theorem own_arrP {cA comp : ClassId} {kZ : Class} {ty : FieldType} {n0 : String} {n : Nat} (hn : n < 2 ^ 31) (v : Value) (z0 : Z.vm.findClass n0 = some cA) (z1 : Z.vm.classes[cA]? = some kZ) (z2 : kZ.kind = .array comp ty) (h : Heap) :
    OArr Z (h.push { cls := cA, slots := Array.replicate n v, vm := .none }) h.size cA ty (List.replicate n v) ∧ Exa Z (h.push { cls := cA, slots := Array.replicate n v, vm := .none }) h.size n0 := by
  have hN := (own_push h { cls := cA, slots := Array.replicate n v, vm := .none }).2.2
  exact ⟨⟨_, ⟨hN, ⟨by simp, kZ, z1, comp, z2⟩, by simp⟩, rfl, by simp, by simpa using hn⟩, ⟨_, kZ, hN, z0, z1, rfl, fun q => by rw [z2] at q; cases q⟩⟩
theorem m_newI {H : List AO} {j : Int32} {o : List AO × Nat} (F : Rep Z ca h H) (w : (Cond.arrayClass .int).before a0 Z = true) (hv : newI 0 H j = some o) (hd : decode bytes pc = .ok (.newarray .int, 2)) (hc : cells + 1 ≤ R.cells) (hl : slots + 8 ≤ R.slots) (hp : pc + 2 = pc')
    (k : ∀ h', Rep Z ca h' o.1 → OG p l e R s m args below meth c Z own nm bytes ml ret Q kc ks h' (cells + 1) (slots + 8) (mkF m pc' ls (.ref (ad Z ca o.2) :: rest))) : OG p l e R s m args below meth c Z own nm bytes ml ret Q kc ks h cells slots (mkF m pc ls (.int j :: rest)) := by
  intro C T locs X eT N
  obtain ⟨q1, q2⟩ := own_nite hv
  obtain ⟨q3, q4⟩ := own_ite q2
  obtain ⟨q5, q6⟩ := own_ite q4
  cases q6
  obtain ⟨cA, kA, comp, h1, h2, h3, X', stp⟩ := X.newarrayPrim (atype := .int) C.1 (mvA C.2.1 w) (g := mkF m pc ls (.int j :: rest)) rfl (hb C.2.2.2.1 hd) rfl q1 (Nat.le_trans (Nat.mul_le_mul q3 (Nat.le_refl _)) (by decide)) hc (by omega)
  obtain ⟨kZ, z0, z1, z2⟩ := own_kind C.2.1 h1 h2 h3
  subst hp eT
  obtain ⟨A, E⟩ := own_arrP (own_back q1).2 (defaultValue .int) z0 z1 z2 T.heap
  have P := own_push T.heap { cls := cA, slots := Array.replicate j.toNatClampNeg (defaultValue .int), vm := .none }
  have F' := F.add q5 P.1 P.2.1 (o := (0, List.replicate j.toNatClampNeg 0, [])) ⟨⟨cA, by rw [List.map_replicate]; exact A⟩, E⟩
  exact OGoal.via stp (by rw [← F.new q5]; exact k _ F' C _ locs (X'.more (Nat.le_refl _) (by omega)) rfl N)
theorem m_newZ {H : List AO} {j : Int32} {o : List AO × Nat} (F : Rep Z ca h H) (w : (Cond.arrayClass .boolean).before a0 Z = true) (hv : newI 1 H j = some o) (hd : decode bytes pc = .ok (.newarray .boolean, 2)) (hc : cells + 1 ≤ R.cells) (hl : slots + 8 ≤ R.slots) (hp : pc + 2 = pc')
    (k : ∀ h', Rep Z ca h' o.1 → OG p l e R s m args below meth c Z own nm bytes ml ret Q kc ks h' (cells + 1) (slots + 8) (mkF m pc' ls (.ref (ad Z ca o.2) :: rest))) : OG p l e R s m args below meth c Z own nm bytes ml ret Q kc ks h cells slots (mkF m pc ls (.int j :: rest)) := by
  intro C T locs X eT N
  obtain ⟨q1, q2⟩ := own_nite hv
  obtain ⟨q3, q4⟩ := own_ite q2
  obtain ⟨q5, q6⟩ := own_ite q4
  cases q6
  obtain ⟨cA, kA, comp, h1, h2, h3, X', stp⟩ := X.newarrayPrim (atype := .boolean) C.1 (mvA C.2.1 w) (g := mkF m pc ls (.int j :: rest)) rfl (hb C.2.2.2.1 hd) rfl q1 (Nat.le_trans (Nat.mul_le_mul q3 (Nat.le_refl _)) (by decide)) hc (by omega)
  obtain ⟨kZ, z0, z1, z2⟩ := own_kind C.2.1 h1 h2 h3
  subst hp eT
  obtain ⟨A, E⟩ := own_arrP (own_back q1).2 (defaultValue .boolean) z0 z1 z2 T.heap
  have P := own_push T.heap { cls := cA, slots := Array.replicate j.toNatClampNeg (defaultValue .boolean), vm := .none }
  have F' := F.add q5 P.1 P.2.1 (o := (1, List.replicate j.toNatClampNeg 0, [])) ⟨cA, by rw [List.map_replicate]; exact A⟩
  exact OGoal.via stp (by rw [← F.new q5]; exact k _ F' C _ locs (X'.more (Nat.le_refl _) (by omega)) rfl N)
theorem m_newG {H : List AO} {j : Int32} {index : Nat} {o : List AO × Nat} (F : Rep Z ca h H) (w1 : (Cond.classLink own index "[I").before a0 Z = true) (w2 : (Cond.arrayOver (.array .int)).before a0 Z = true) (hv : newQ 2 8 H j = some o) (hd : decode bytes pc = .ok (.anewarray index, 3)) (hc : cells + 1 ≤ R.cells) (hl : slots + 8 ≤ R.slots) (hp : pc + 3 = pc')
    (k : ∀ h', Rep Z ca h' o.1 → OG p l e R s m args below meth c Z own nm bytes ml ret Q kc ks h' (cells + 1) (slots + 8) (mkF m pc' ls (.ref (ad Z ca o.2) :: rest))) : OG p l e R s m args below meth c Z own nm bytes ml ret Q kc ks h cells slots (mkF m pc ls (.int j :: rest)) := by
  intro C T locs X eT N
  obtain ⟨q1, q2⟩ := own_nite hv
  obtain ⟨q3, q4⟩ := own_ite q2
  obtain ⟨q5, q6⟩ := own_ite q4
  cases q6
  obtain ⟨vm1, cA, kA, comp, -, h1, h2, h3, h4, X', stp⟩ := X.anewarrayArrK (ty := .int) C.1 C.2.2.1 (mvT C.2.1 w1) (arrayOver_alikeB C.2.1.alike w2) (g := mkF m pc ls (.int j :: rest)) rfl (hb C.2.2.2.1 hd) rfl q1 (by omega) hc (by omega)
  obtain ⟨kZ, z0, z1, z2⟩ := own_kind C.2.1 h1 h2 h3
  subst hp eT
  obtain ⟨A, E⟩ := own_arrP (own_back q1).2 .null z0 z1 z2 T.heap
  have P := own_push T.heap { cls := cA, slots := Array.replicate j.toNatClampNeg .null, vm := .none }
  have F' := F.add q5 P.1 P.2.1 (o := (2, [], List.replicate j.toNatClampNeg 0)) ⟨cA, by rw [List.map_replicate]; exact A, kZ, comp, z1, z2, by rw [← C.2.1.alike.findClass]; exact h4⟩
  exact OGoal.via stp (by rw [← F.new q5]; exact k _ F' C _ locs (X'.more (Nat.le_refl _) (by omega)) rfl N)
theorem m_newR {H : List AO} {j : Int32} {index : Nat} {o : List AO × Nat} (F : Rep Z ca h H) (w1 : (Cond.classLink own index "java/lang/Object").before a0 Z = true) (w2 : (Cond.arrayOver (.object "java/lang/Object")).before a0 Z = true) (hv : newQ 3 17 H j = some o) (hd : decode bytes pc = .ok (.anewarray index, 3)) (hc : cells + 1 ≤ R.cells) (hl : slots + 17 ≤ R.slots) (hp : pc + 3 = pc')
    (k : ∀ h', Rep Z ca h' o.1 → OG p l e R s m args below meth c Z own nm bytes ml ret Q kc ks h' (cells + 1) (slots + 17) (mkF m pc' ls (.ref (ad Z ca o.2) :: rest))) : OG p l e R s m args below meth c Z own nm bytes ml ret Q kc ks h cells slots (mkF m pc ls (.int j :: rest)) := by
  intro C T locs X eT N
  obtain ⟨q1, q2⟩ := own_nite hv
  obtain ⟨q3, q4⟩ := own_ite q2
  obtain ⟨q5, q6⟩ := own_ite q4
  cases q6
  obtain ⟨vm1, cA, kA, comp, -, h1, h2, h3, h4, X', stp⟩ := X.anewarrayRefK C.1 C.2.2.1 (mvT C.2.1 w1) (Cond.arrayOver_alike C.2.1.alike w2) (g := mkF m pc ls (.int j :: rest)) rfl (hb C.2.2.2.1 hd) rfl q1 (by omega) hc (by omega)
  obtain ⟨kZ, z0, z1, z2⟩ := own_kind C.2.1 h1 h2 h3
  subst hp eT
  obtain ⟨A, E⟩ := own_arrP (own_back q1).2 .null z0 z1 z2 T.heap
  have P := own_push T.heap { cls := cA, slots := Array.replicate j.toNatClampNeg .null, vm := .none }
  have F' := F.add q5 P.1 P.2.1 (o := (3, [], List.replicate j.toNatClampNeg 0)) ⟨cA, by rw [List.map_replicate]; exact A, kZ, comp, z1, z2, by rw [← C.2.1.alike.findClass]; exact h4⟩
  exact OGoal.via stp (by rw [← F.new q5]; exact k _ F' C _ locs (X'.more (Nat.le_refl _) (by omega)) rfl N)
/-- the layout of the two classes -/
def Lay (Z : State) (a0 : Array Value) (t : Nat) : Prop := (∀ i n d, nth (ocl t).2.1 i = some (n, d) → Laid Z a0 (ocl t).1 (ocl t).1 n d ∧ ∃ ty, parseFieldDescriptor d = some ty ∧ defaultValue ty = .null ∧ ∀ a, narrow ty (.ref a) = .ref a ∧ fits ty (.ref a) = true) ∧ (∀ i n d, nth (ocl t).2.2 i = some (n, d) → Laid Z a0 (ocl t).1 (ocl t).1 n d ∧ parseFieldDescriptor d = some .int)
  ∧ (∀ i j n d n' d', nth (ocl t).2.1 i = some (n, d) → nth (ocl t).2.1 j = some (n', d') → i ≠ j → n ≠ n') ∧ (∀ i j n d n' d', nth (ocl t).2.2 i = some (n, d) → nth (ocl t).2.2 j = some (n', d') → i ≠ j → n ≠ n') ∧ (∀ i j n d n' d', nth (ocl t).2.1 i = some (n, d) → nth (ocl t).2.2 j = some (n', d') → n ≠ n')
def gfr (t : Nat) (H : List AO) (r i : Nat) : Option Nat := (hget H r).bind fun o => if o.1 = t then ((nth o.2.2 i).bind fun x => if x = 0 then none else some x) else none
def gfi (t : Nat) (H : List AO) (r i : Nat) : Option Int32 := (hget H r).bind fun o => if o.1 = t then nth o.2.1 i else none
def pfr (t : Nat) (H : List AO) (r i x : Nat) : Option (List AO) := (hget H r).bind fun o => if o.1 = t then ((nth o.2.2 i).bind fun _ => if x = 0 then none else some (H.set (r - 1) (t, o.2.1, o.2.2.set i x))) else none
def pfi (t : Nat) (H : List AO) (r i : Nat) (x : Int32) : Option (List AO) := (hget H r).bind fun o => if o.1 = t then ((nth o.2.1 i).bind fun _ => some (H.set (r - 1) (t, o.2.1.set i x, o.2.2))) else none
theorem m_getR {H : List AO} {t i r x index : Nat} {n d C0 : String} (F : Rep Z ca h H) (hv : gfr (t + 4) H r i = some x) (hi : nth (ocl (t + 4)).2.1 i = some (n, d)) (hC : (ocl (t + 4)).1 = C0) (w : (Cond.fieldLink own index C0 n d).before a0 Z = true) (hd : decode bytes pc = .ok (.getfield index, 3)) (hp : pc + 3 = pc')
    (k : OG p l e R s m args below meth c Z own nm bytes ml ret Q kc ks h cells slots (mkF m pc' ls (.ref (ad Z ca x) :: rest))) : OG p l e R s m args below meth c Z own nm bytes ml ret Q kc ks h cells slots (mkF m pc ls (.ref (ad Z ca r) :: rest)) := by
  obtain ⟨⟨t', xs, rs⟩, q1, q2⟩ := own_bind hv
  obtain ⟨q3, q4⟩ := own_ite q2
  dsimp only at q3 q4
  subst q3
  obtain ⟨y, q5, q6⟩ := own_bind q4
  obtain ⟨q7, q8⟩ := own_nite q6
  cases q8
  obtain ⟨-, -, -, G⟩ := F.get q1
  have D := G.2.1 i n d x hi q5
  rw [rv_ref q7, hC] at D
  exact o_getF (host := "") (Or.inl w) D hd hp k
theorem m_getI {H : List AO} {t i r index : Nat} {x : Int32} {n d C0 : String} (F : Rep Z ca h H) (hv : gfi (t + 4) H r i = some x) (hi : nth (ocl (t + 4)).2.2 i = some (n, d)) (hC : (ocl (t + 4)).1 = C0) (w : (Cond.fieldLink own index C0 n d).before a0 Z = true) (hd : decode bytes pc = .ok (.getfield index, 3)) (hp : pc + 3 = pc')
    (k : OG p l e R s m args below meth c Z own nm bytes ml ret Q kc ks h cells slots (mkF m pc' ls (.int x :: rest))) : OG p l e R s m args below meth c Z own nm bytes ml ret Q kc ks h cells slots (mkF m pc ls (.ref (ad Z ca r) :: rest)) := by
  obtain ⟨⟨t', xs, rs⟩, q1, q2⟩ := own_bind hv
  obtain ⟨q3, q4⟩ := own_ite q2
  dsimp only at q3 q4
  subst q3
  obtain ⟨-, -, -, G⟩ := F.get q1
  have D := G.2.2 i n d x hi q4
  rw [hC] at D
  exact o_getF (host := "") (Or.inl w) D hd hp k
theorem own_nset {α : Type} {xs : List α} {i j : Nat} {x y : α} (q : nth (xs.set i x) j = some y) : (i = j ∧ y = x) ∨ (i ≠ j ∧ nth xs j = some y) := by
  rw [nth_eq, List.getElem?_set] at q
  by_cases z : i = j
  · rw [if_pos z] at q
    split at q
    · cases q; exact Or.inl ⟨z, rfl⟩
    · cases q
  · rw [if_neg z, ← nth_eq] at q
    exact Or.inr ⟨z, q⟩
theorem m_putR {H H' : List AO} {t i r x index kk : Nat} {n d C0 : String} (F : Rep Z ca h H) (Y : Lay Z a0 (t + 4)) (hv : pfr (t + 4) H r i x = some H') (hi : nth (ocl (t + 4)).2.1 i = some (n, d)) (hC : (ocl (t + 4)).1 = C0) (w : (Cond.fieldLink own index C0 n d).before a0 Z = true)
    (L : (Cond.lays C0 C0 n d).before a0 Z = true ∨ ((Cond.laysFinal C0 C0 n d).before a0 Z = true ∧ own = C0 ∧ nm = "<init>")) (wi : (Cond.instantiable C0 kk).before a0 Z = true) (hd : decode bytes pc = .ok (.putfield index, 3)) (hp : pc + 3 = pc')
    (k : ∀ h', Rep Z ca h' H' → OG p l e R s m args below meth c Z own nm bytes ml ret Q kc ks h' cells slots (mkF m pc' ls rest)) : OG p l e R s m args below meth c Z own nm bytes ml ret Q kc ks h cells slots (mkF m pc ls (.ref (ad Z ca x) :: .ref (ad Z ca r) :: rest)) := by
  obtain ⟨⟨t', xs, rs⟩, q1, q2⟩ := own_bind hv
  obtain ⟨q3, q4⟩ := own_ite q2
  dsimp only at q3 q4
  subst q3 hC
  obtain ⟨old, q5, q6⟩ := own_bind q4
  obtain ⟨q7, q8⟩ := own_nite q6
  cases q8
  obtain ⟨r0, e0, n0, G⟩ := F.get q1
  rw [e0] at G ⊢
  obtain ⟨Ln, ty, t1, -, t3⟩ := Y.1 i n d hi
  have D := G.2.1 i n d old hi q5
  refine o_putF (host := "") (Or.inl w) D G.1 L wi t1 (t3 _).1 (t3 _).2 (own_zle _ _) hd hp fun h' W => k h' ?_
  refine F.put n0 W ⟨G.1.wr W, fun j n' d' y h1 h2 => ?_, fun j n' d' y h1 h2 => ?_⟩
  · rcases own_nset h2 with ⟨rfl, rfl⟩ | ⟨z1, z2⟩
    · cases hi.symm.trans h1
      rw [rv_ref q7]
      exact D.same W
    · obtain ⟨Ln', ty', u1, -⟩ := Y.1 j n' d' h1
      exact (G.2.1 j n' d' y h1 z2).other W (Or.inr (slot_ne Ln' Ln (Y.2.2.1 j i n' d' n d h1 hi (Ne.symm z1)) u1 t1))
  · obtain ⟨Ln', u1⟩ := Y.2.1 j n' d' h1
    exact (G.2.2 j n' d' y h1 h2).other W (Or.inr (slot_ne Ln' Ln (Ne.symm (Y.2.2.2.2 i j n d n' d' hi h1)) u1 t1))
theorem m_putI {H H' : List AO} {t i r index kk : Nat} {x : Int32} {n d C0 : String} (F : Rep Z ca h H) (Y : Lay Z a0 (t + 4)) (hv : pfi (t + 4) H r i x = some H') (hi : nth (ocl (t + 4)).2.2 i = some (n, d)) (hC : (ocl (t + 4)).1 = C0) (w : (Cond.fieldLink own index C0 n d).before a0 Z = true)
    (L : (Cond.lays C0 C0 n d).before a0 Z = true ∨ ((Cond.laysFinal C0 C0 n d).before a0 Z = true ∧ own = C0 ∧ nm = "<init>")) (wi : (Cond.instantiable C0 kk).before a0 Z = true) (hd : decode bytes pc = .ok (.putfield index, 3)) (hp : pc + 3 = pc')
    (k : ∀ h', Rep Z ca h' H' → OG p l e R s m args below meth c Z own nm bytes ml ret Q kc ks h' cells slots (mkF m pc' ls rest)) : OG p l e R s m args below meth c Z own nm bytes ml ret Q kc ks h cells slots (mkF m pc ls (.int x :: .ref (ad Z ca r) :: rest)) := by
  obtain ⟨⟨t', xs, rs⟩, q1, q2⟩ := own_bind hv
  obtain ⟨q3, q4⟩ := own_ite q2
  dsimp only at q3 q4
  subst q3 hC
  obtain ⟨old, q5, q6⟩ := own_bind q4
  cases q6
  obtain ⟨r0, e0, n0, G⟩ := F.get q1
  rw [e0] at G ⊢
  obtain ⟨Ln, t1⟩ := Y.2.1 i n d hi
  have D := G.2.2 i n d old hi q5
  refine o_putF (host := "") (ty := .int) (Or.inl w) D G.1 L wi t1 rfl rfl (own_zle _ _) hd hp fun h' W => k h' ?_
  refine F.put n0 W ⟨G.1.wr W, fun j n' d' y h1 h2 => ?_, fun j n' d' y h1 h2 => ?_⟩
  · obtain ⟨Ln', ty', u1, -⟩ := Y.1 j n' d' h1
    exact (G.2.1 j n' d' y h1 h2).other W (Or.inr (slot_ne Ln' Ln (Y.2.2.2.2 j i n' d' n d h1 hi) u1 t1))
  · rcases own_nset h2 with ⟨rfl, rfl⟩ | ⟨z1, z2⟩
    · cases hi.symm.trans h1
      exact D.same W
    · obtain ⟨Ln', u1⟩ := Y.2.1 j n' d' h1
      exact (G.2.2 j n' d' y h1 z2).other W (Or.inr (slot_ne Ln' Ln (Y.2.2.2.1 j i n' d' n d h1 hi (Ne.symm z1)) u1 t1))
theorem m_newO {H : List AO} {t index kk nr ni : Nat} {C0 : String} {o : List AO × Nat} (F : Rep Z ca h H) (Y : Lay Z a0 (t + 4)) (hC : (ocl (t + 4)).1 = C0) (w : (Cond.classLink own index C0).before a0 Z = true) (wi : (Cond.instantiable C0 kk).before a0 Z = true) (wz : (Cond.initialized C0).before a0 Z = true)
    (hv : hnew H (t + 4, List.replicate ni 0, List.replicate nr 0) = some o) (hd : decode bytes pc = .ok (.new index, 3)) (hc : cells + 1 ≤ R.cells) (hl : slots + kk ≤ R.slots) (hp : pc + 3 = pc')
    (k : ∀ h', Rep Z ca h' o.1 → OG p l e R s m args below meth c Z own nm bytes ml ret Q kc ks h' (cells + 1) (slots + kk) (mkF m pc' ls (.ref (ad Z ca o.2) :: st))) : OG p l e R s m args below meth c Z own nm bytes ml ret Q kc ks h cells slots (mkF m pc ls st) := by
  intro C T locs X eT N
  obtain ⟨q5, q6⟩ := own_ite hv
  cases q6
  obtain ⟨vm', cC, kC, h1, h2, h3, h4, X', stp⟩ := X.newCold C.1 C.2.2.1 (mvT C.2.1 w) (mvT C.2.1 wi) (mvT C.2.1 wz) (g := mkF m pc ls st) rfl (hb C.2.2.2.1 hd) hc hl
  subst hp eT hC
  rw [C.2.1.alike.findClass] at h1
  obtain ⟨kZ, z1, -⟩ := Vm.findClass_spec h1
  obtain ⟨k', z2, z3⟩ := C.2.1.alike.2.2 _ _ z1
  cases h2.symm.trans z2
  have ei : kC.instanceTypes = kZ.instanceTypes := by rw [z3]
  have P := own_push T.heap { cls := cC, slots := kC.instanceTypes.map defaultValue, vm := .none }
  have D : ∀ {nm0 d0 : String} {ty : FieldType}, Laid Z a0 (ocl (t + 4)).1 (ocl (t + 4)).1 nm0 d0 → parseFieldDescriptor d0 = some ty → Fld Z (T.heap.push { cls := cC, slots := kC.instanceTypes.map defaultValue, vm := .none }) T.heap.size (ocl (t + 4)).1 nm0 d0 (defaultValue ty) := by
    intro nm0 d0 ty L ht
    obtain ⟨c1, k1, cf, kf, i, f, a1, a2, a3, a4, a5, a6, -⟩ := L.spec
    cases h1.symm.trans a1
    cases z1.symm.trans a2
    exact ⟨_, cf, kf, i, f, P.2.2, a3, a4, by simp, rfl, a5, by simp [ei, a6, (State.fieldFound?_type a3 ht).2]⟩
  have hz : ∀ {α : Type} {n i : Nat} {v x : α}, nth (List.replicate n v) i = some x → x = v := by
    intro α n i v x q
    rw [nth_eq, List.getElem?_replicate] at q
    split at q
    · exact (Option.some.inj q).symm
    · cases q
  have F' := F.add q5 P.1 P.2.1 (o := (t + 4, List.replicate ni 0, List.replicate nr 0)) ⟨⟨_, kZ, P.2.2, h1, z1, rfl, fun _ => by simp [ei]⟩, fun j n' d' y h1 h2 => by
      obtain ⟨Ln, ty, t1, t2, -⟩ := Y.1 j n' d' h1
      rw [hz h2, show rv Z ca 0 = .null from rfl, ← t2]
      exact D Ln t1, fun j n' d' y h1 h2 => by
      obtain ⟨Ln, t1⟩ := Y.2.1 j n' d' h1
      rw [hz h2]
      exact D Ln t1⟩
  exact OGoal.via stp (by rw [← F.new q5]; exact k _ F' C _ locs X' rfl N)
theorem Rep.exa {H : List AO} {t r : Nat} (F : Rep Z ca h H) (q : ((hget H r).any fun o => o.1 == t + 4) = true) : Exa Z h (ad Z ca r) (ocl (t + 4)).1 := by
  cases hq : hget H r with
  | none => rw [hq] at q; cases q
  | some o =>
    obtain ⟨t', xs, rs⟩ := o
    rw [hq] at q
    have h3 : t' = t + 4 := by simpa using q
    subst h3
    obtain ⟨-, -, -, G⟩ := F.get hq
    exact G.1
def isA (t : Nat) (H : List AO) (r : Nat) : Bool := (hget H r).any fun o => o.1 == t
def ival (r : Nat) : Option Int32 := if 1000 ≤ r ∧ r < 1256 then some (Int32.ofNat (r - 1000) - 128) else none
def vof (z : Int32) : Option Nat := if z < -128 then none else if 127 < z then none else some (1000 + (z + 128).toNatClampNeg)
theorem m_castA {H : List AO} {r index : Nat} (F : Rep Z ca h H) (q : isA 0 H r = true) (w : (Cond.classLink own index "[I").before a0 Z = true) (hd : decode bytes pc = .ok (.checkcast index, 3)) (hp : pc + 3 = pc')
    (k : OG p l e R s m args below meth c Z own nm bytes ml ret Q kc ks h cells slots (mkF m pc' ls (.ref (ad Z ca r) :: rest))) : OG p l e R s m args below meth c Z own nm bytes ml ret Q kc ks h cells slots (mkF m pc ls (.ref (ad Z ca r) :: rest)) :=
  o_cast w (Ins.self (own_any q F).2) hd hp k
theorem own_int {r : Nat} (hca : OCa Z ca) (E : Ext Z.heap h) (q : 1000 ≤ r ∧ r < 1256) : Exa Z h (ad Z ca r) "java/lang/Integer" ∧ Fld Z h (ad Z ca r) "java/lang/Integer" "value" "I" (.int (Int32.ofNat (r - 1000) - 128)) := by
  rw [show ad Z ca r = ca (r - 1000) from if_neg (by omega)]
  obtain ⟨h1, h2⟩ := hca (r - 1000) (by omega)
  exact ⟨h1.ext E, h2.ext E⟩
theorem m_castI {r index : Nat} (hca : OCa Z ca) (E : Ext Z.heap h) (q : 1000 ≤ r ∧ r < 1256) (w : (Cond.classLink own index "java/lang/Integer").before a0 Z = true) (hd : decode bytes pc = .ok (.checkcast index, 3)) (hp : pc + 3 = pc')
    (k : OG p l e R s m args below meth c Z own nm bytes ml ret Q kc ks h cells slots (mkF m pc' ls (.ref (ad Z ca r) :: rest))) : OG p l e R s m args below meth c Z own nm bytes ml ret Q kc ks h cells slots (mkF m pc ls (.ref (ad Z ca r) :: rest)) :=
  o_cast w (Ins.self (own_int hca E q).1) hd hp k
theorem o_nnY {o : Int} (hd : decode bytes pc = .ok (.ifnonnull o, 3)) (ho : 0 ≤ (pc : Int) + o) (hp : ((pc : Int) + o).toNat = pc')
    (k : OG p l e R s m args below meth c Z own nm bytes ml ret Q kc ks h cells slots (mkF m pc' ls rest)) : OG p l e R s m args below meth c Z own nm bytes ml ret Q kc ks h cells slots (mkF m pc ls (.ref a :: rest)) :=
  o_pure hd (fun T locs X hx hd t kk => XT.ifnonnullYes X.here hx rfl (pc0 := pc) rfl hd rfl ho hp kk) k
theorem o_nuN {o : Int} (hd : decode bytes pc = .ok (.ifnull o, 3)) (hp : pc + 3 = pc')
    (k : OG p l e R s m args below meth c Z own nm bytes ml ret Q kc ks h cells slots (mkF m pc' ls rest)) : OG p l e R s m args below meth c Z own nm bytes ml ret Q kc ks h cells slots (mkF m pc ls (.ref a :: rest)) :=
  o_pure hd (fun T locs X hx hd t kk => XS.ifnullNo X.here hx rfl hd rfl (by subst hp; exact kk)) k
end ModKit
section ModKit2
variable {p : Program} {l : Launch} {e : Env} {R : Room} {s : State} {m : MethodId} {args : Array Value} {below : List Frame} {meth : Method} {c : Code} {T : State} {locs : List Loc} {cells slots kc ks : Nat} {Z : State} {a0 : Array Value} {own nm : String} {bytes : ByteArray} {ml : Nat} {ret : Option FieldType} {Q : Option Value → Heap → Prop} {h h' : Heap} {pc pc' : Nat} {ls ls' : Array Slot} {st st' rest : List Value} {a b : Addr} {ca : Nat → Addr}
/-- a slot that holds no half of a long -/
def Pl (x : Slot) : Prop := x = .unset ∨ (∃ v, x = .val (.int v)) ∨ ∃ v, x = .val (.ref v)
theorem Pl.u : Pl .unset := Or.inl rfl
theorem Pl.i (v : Int32) : Pl (.val (.int v)) := Or.inr (Or.inl ⟨v, rfl⟩)
theorem Pl.r (v : Addr) : Pl (.val (.ref v)) := Or.inr (Or.inr ⟨v, rfl⟩)
theorem own_stS {i : Nat} {x : Slot} {v : Value} (hx : ls[i]? = some x) (q : Pl x) (hv : v.category = 1) : storeLocals ls i v = some (ls.setIfInBounds i (.val v)) := by
  refine storeLocals_cat1 hx hv ?_
  rcases q with rfl | ⟨v', rfl⟩ | ⟨v', rfl⟩
  · trivial
  · rfl
  · rfl
theorem own_stI {i : Nat} {x : Slot} {v : Int32} (hx : ls[i]? = some x) (q : Pl x) : oStI i (.int v :: rest) ls = some (rest, ls.setIfInBounds i (.val (.int v))) := by
  show (storeLocals ls i (.int v)).map _ = _
  rw [own_stS hx q rfl]; rfl
theorem own_stA {i : Nat} {x : Slot} {v : Addr} (hx : ls[i]? = some x) (q : Pl x) : oStA i (.ref v :: rest) ls = some (rest, ls.setIfInBounds i (.val (.ref v))) := by
  show (storeLocals ls i (.ref v)).map _ = _
  rw [own_stS hx q rfl]; rfl
theorem o_stP {i : Instr} {n : Nat} (hd : decode bytes pc = .ok (i, n)) (hn : oLen i = n) (hp : pc + n = pc') (q : opS i st ls = some (st', ls'))
    (k : OG p l e R s m args below meth c Z own nm bytes ml ret Q kc ks h cells slots (mkF m pc' ls' st')) : OG p l e R s m args below meth c Z own nm bytes ml ret Q kc ks h cells slots (mkF m pc ls st) := by
  subst hn hp
  exact o_op hd q k
theorem o_bodyS {y : MethodName} {yb : ByteArray} {yl : Nat} {yr : Option FieldType} {rm : Room} {as' : Array Value} {h0 : Heap} {yQ : Option Value → Heap → Prop} {ls0 : Array Slot} (hpl : plainFor y = true) (hE : Ext Z.heap h0)
    (hef : ∀ m : MethodId, entryFrame m as' yl = mkF m 0 ls0 [])
    (k : ∀ (p : Program) (e : Env) (s : State) (m : MethodId) (below : List Frame) (meth : Method) (c : Code), s.heap = h0 → OG p l e rm s m as' below meth c Z y.cls y.name yb yl yr yQ rm.cells rm.slots h0 0 0 (mkF m 0 ls0 [])) : OCtr l Z y yb yl yr rm as' h0 yQ := by
  intro ws
  refine MetFree.of_bodySF hpl hisR ?_
  intro p e s m args below meth c s₁ Bd hml0 hP hK
  obtain ⟨rfl, hZ, hh⟩ := hP
  have X0 : Stand p l e rm s m args below meth c s₁ [] 0 0 := Stand.of_body Bd
  have e0 : s₁.heap = h0 := by rw [← hh, Bd.state]; rfl
  have g := k p e s m below meth c hh ⟨Bd.exec, hZ, findClass_of_methodNamed Bd.named, Bd.bytes, hml0, Bd.returns, Bd.notSynchronized, (name_of_methodNamed Bd.named Bd.method).1, by rw [hh]; exact hE⟩ s₁ [] X0 e0 (Fr.nil _)
  rw [hef]
  rw [← hh]
  exact g
theorem RepO.keep {o : AO} {ws : List Addr} (F : RepO Z ca h a o) (K : Keep h h' ws) (q : a ∉ ws) : RepO Z ca h' a o := by
  obtain ⟨t, xs, rs⟩ := o
  match t, F with
  | 0, F => exact ⟨F.1.imp fun k z => z.keep K q, F.2.keep K⟩
  | 1, F => exact F.imp fun k z => z.keep K q
  | 2, F => exact F.imp fun k z => ⟨z.1.keep K q, z.2⟩
  | 3, F => exact F.imp fun k z => ⟨z.1.keep K q, z.2⟩
  | t + 4, F => exact ⟨F.1.keep K, fun i n d x h1 h2 => (F.2.1 i n d x h1 h2).keep K q, fun i n d x h1 h2 => (F.2.2 i n d x h1 h2).keep K q⟩
theorem Rep.kput {H : List AO} {k : Nat} {o o' : AO} (F : Rep Z ca h H) (hk : nth H k = some o) (K : Keep h h' [Z.heap.size + k]) (hs : h'.size ≤ h.size) (N : RepO Z ca h' (Z.heap.size + k) o') : Rep Z ca h' (H.set k o') := by
  have e : h'.size = h.size := Nat.le_antisymm hs K.1
  refine ⟨⟨by rw [e]; exact F.1.1, fun x cl q => ?_⟩, by rw [e, List.length_set]; exact F.2.1, by rw [List.length_set]; exact F.2.2.1, fun j oj hj => ?_⟩
  · have hx : x < Z.heap.size := (Array.getElem?_eq_some_iff.mp q).1
    exact K.2.1 x cl (F.1.2 x cl q) (fun z => by
      rw [List.mem_singleton] at z
      exact absurd hx (by rw [z]; exact Nat.not_lt.mpr (Nat.le_add_right _ _)))
  · rcases own_nset hj with ⟨rfl, rfl⟩ | ⟨z1, z2⟩
    · exact N
    · exact (F.2.2.2 j oj z2).keep K (fun z => by
        rw [List.mem_singleton] at z
        exact z1 (Nat.add_left_cancel z).symm)
def cpy (H : List AO) (r x : Nat) (n : Int32) : Option (List AO) := (hget H r).bind fun o => (hget H x).bind fun o' => if o.1 = 0 then (if o'.1 = 0 then (if n < 0 then none else if n.toNatClampNeg ≤ o.2.1.length then (if n.toNatClampNeg ≤ o'.2.1.length then some (H.set (x - 1) (0, o.2.1.take n.toNatClampNeg ++ o'.2.1.drop n.toNatClampNeg, o'.2.2)) else none) else none) else none) else none
theorem m_cpy {H H' : List AO} {r x index W : Nat} {n : Int32} (F : Rep Z ca h H) (hz : h.size = s.heap.size + cells) (w1 : (Cond.methodLink own index Jvm.Stand.acN).before a0 Z = true) (w2 : (Cond.native Jvm.Stand.acN).before a0 Z = true) (w3 : (Cond.static Jvm.Stand.acN).before a0 Z = true) (w4 : (Cond.initialized "java/lang/System").before a0 Z = true)
    (hv : cpy H r x n = some H') (hd : decode bytes pc = .ok (.invokestatic index, 3)) (hsz : ls.size = ml) (hW : (rest.map fun v => v.category).sum ≤ W) (hf : 1 ≤ R.frames) (hl : W + 18 ≤ R.locals) (hp : pc + 3 = pc')
    (k : ∀ h', Rep Z ca h' H' → OG p l e R s m args below meth c Z own nm bytes ml ret Q kc ks h' cells slots (mkF m pc' ls rest)) : OG p l e R s m args below meth c Z own nm bytes ml ret Q kc ks h cells slots (mkF m pc ls (.int n :: .int 0 :: .ref (ad Z ca x) :: .int 0 :: .ref (ad Z ca r) :: rest)) := by
  obtain ⟨⟨t, xs, rs⟩, q1, q2⟩ := own_bind hv
  obtain ⟨⟨t', ys, rs'⟩, q3, q4⟩ := own_bind q2
  obtain ⟨q5, q6⟩ := own_ite q4
  obtain ⟨q7, q8⟩ := own_ite q6
  dsimp only at q5 q7 q8
  subst q5 q7
  obtain ⟨q9, q10⟩ := own_nite q8
  obtain ⟨q11, q12⟩ := own_ite q10
  obtain ⟨q13, q14⟩ := own_ite q12
  cases q14
  obtain ⟨r0, e0, n0, ⟨⟨k0, G⟩, E⟩⟩ := F.get q1
  obtain ⟨r1, e1, n1, ⟨⟨k1, G1⟩, E1⟩⟩ := F.get q3
  rw [e1] at G1 E1 ⊢
  refine o_cpyI (i := 0) (j := 0) (n := n.toNatClampNeg) w1 w2 w3 w4 G G1 rfl rfl (own_back q9).1 (by omega) (by omega) (own_zle _ _) hd hsz hW hf hl hp fun h' K A => ?_
  intro C T' locs' X' eT' N'
  have hs' : h'.size ≤ h.size := by
    have q := X'.same.2.2.1
    rw [hz, ← eT']
    exact q
  refine k h' (F.kput n1 K hs' ⟨⟨k1, ?_⟩, E1.keep K⟩) C T' locs' X' eT' N'
  simpa using A
theorem newI_len {t : Nat} {H : List AO} {j : Int32} {o : List AO × Nat} (q : newI t H j = some o) : o.1.length = H.length + 1 := by
  obtain ⟨-, q2⟩ := own_nite q
  obtain ⟨-, q4⟩ := own_ite q2
  obtain ⟨-, q6⟩ := own_ite q4
  cases q6
  simp
end ModKit2
section PakKit
variable {p : Program} {l : Launch} {e : Env} {R : Room} {s : State} {m : MethodId} {args : Array Value} {below : List Frame} {meth : Method} {c : Code} {T : State} {locs : List Loc} {cells slots kc ks : Nat} {Z : State} {a0 : Array Value} {own nm : String} {bytes : ByteArray} {ml : Nat} {ret : Option FieldType} {Q : Option Value → Heap → Prop} {h h' : Heap} {pc pc' : Nat} {ls ls' : Array Slot} {st st' rest : List Value} {a b : Addr} {ca : Nat → Addr}
/-! codes: n stands for n - 1 -/
def vi (n : Nat) : Int32 := Int32.ofInt ((n : Int) - 1)
theorem vi_succ (k : Nat) : vi (k + 1) = Int32.ofNat k := by
  unfold vi
  rw [show ((k + 1 : Nat) : Int) - 1 = (k : Int) by omega]
  rfl
theorem vi_toInt {n : Nat} (h : n ≤ 1000) : (vi n).toInt = (n : Int) - 1 := by
  unfold vi
  rw [Int32.toInt_ofInt_of_le (by omega) (by omega)]
theorem vi_add {a b : Nat} (h : Nat.ble 1 (a + b) = true) : vi a + vi b = vi (a + b - 1) := by
  have := Nat.le_of_ble_eq_true h
  unfold vi
  rw [← Int32.ofInt_add]
  congr 1
  omega
theorem vi_inc (a : Nat) : vi a + vi 2 = vi (a + 1) := by rw [vi_add (Nat.ble_eq_true_of_le (by omega))]; rfl
theorem vi_dec {a : Nat} (h : Nat.ble 1 a = true) : vi a - vi 2 = vi (a - 1) := by
  have := Nat.le_of_ble_eq_true h
  unfold vi
  rw [← Int32.ofInt_sub]
  congr 1
  omega
theorem vi_decI {a : Nat} (h : Nat.ble 1 a = true) : vi a + vi 0 = vi (a - 1) := vi_add (b := 0) h
theorem vi_lt {a b : Nat} (h : Nat.ble (a + b) 1000 = true) : (vi a < vi b → Nat.blt a b = true) ∧ (¬ vi a < vi b → Nat.blt a b = false) := by
  have h' : a + b ≤ 1000 := Nat.le_of_ble_eq_true h
  rw [Int32.lt_iff_toInt_lt, vi_toInt (by omega), vi_toInt (by omega)]
  constructor
  · intro q; exact Nat.ble_eq_true_of_le (by omega)
  · intro q
    rw [Bool.eq_false_iff]
    intro z
    have : a + 1 ≤ b := Nat.le_of_ble_eq_true z
    omega
theorem vi_eq {a b : Nat} (h : Nat.ble (a + b) 1000 = true) : (vi a = vi b → Nat.beq a b = true) ∧ (¬ vi a = vi b → Nat.beq a b = false) := by
  have h' : a + b ≤ 1000 := Nat.le_of_ble_eq_true h
  constructor
  · intro q
    have q' := congrArg Int32.toInt q
    rw [vi_toInt (by omega), vi_toInt (by omega)] at q'
    rw [show a = b by omega]
    exact Nat.beq_refl b
  · intro q
    rw [Bool.eq_false_iff]
    intro z
    exact q (by rw [Nat.eq_of_beq_eq_true z])
theorem vi_half {a : Nat} (h : Nat.ble 1 a = true) (h2 : Nat.ble a 1000 = true) : vi a / vi 3 = vi ((a - 1) / 2 + 1) := by
  have h1 := Nat.le_of_ble_eq_true h
  have h3 := Nat.le_of_ble_eq_true h2
  apply Int32.toInt_inj.mp
  rw [vi_toInt (by omega), Int32.toInt_div_of_ne_right _ _ (by decide), vi_toInt h3, vi_toInt (by decide)]
  rw [Int.tdiv_eq_ediv_of_nonneg (by omega)]
  omega
theorem vi_ushr {a : Nat} (h : Nat.ble 1 a = true) (h2 : Nat.ble a 1000 = true) : XT.ushr (vi a) (vi 2) = vi ((a - 1) / 2 + 1) := by
  have h1 := Nat.le_of_ble_eq_true h
  have h3 := Nat.le_of_ble_eq_true h2
  obtain ⟨k, rfl⟩ : ∃ k, a = k + 1 := ⟨a - 1, by omega⟩
  have hk : k < 1000 := by omega
  rw [vi_succ k, Nat.add_sub_cancel, vi_succ (k / 2)]
  have e2 : ∀ k : Fin 1000, XT.ushr (Int32.ofNat k.val) (vi 2) = Int32.ofNat (k.val / 2) := by decide +kernel
  exact e2 ⟨k, hk⟩
theorem vi_lt' {a b : Nat} (h : Nat.ble (a + b) 1000 = true) : (vi b < vi a → Nat.blt b a = true) ∧ (¬ vi b < vi a → Nat.blt b a = false) := vi_lt (by rw [Nat.add_comm]; exact h)
theorem vi_rem {a n : Nat} (h : Nat.ble 1 a = true) (h2 : Nat.ble a 1000 = true) (h3 : 1 ≤ n) (h4 : n ≤ 900) : vi a % vi (n + 1) = vi ((a - 1) % n + 1) := by
  have h1 := Nat.le_of_ble_eq_true h
  have h2 := Nat.le_of_ble_eq_true h2
  have h5 : (a - 1) % n < n := Nat.mod_lt _ h3
  apply Int32.toInt_inj.mp
  rw [vi_toInt (by omega), Int32.toInt_mod, vi_toInt h2, vi_toInt (by omega)]
  rw [Int.tmod_eq_emod_of_nonneg (by omega)]
  have : ((a : Int) - 1) = ((a - 1 : Nat) : Int) := by omega
  rw [this, show (((n + 1 : Nat) : Int) - 1) = (n : Int) by omega, ← Int.natCast_emod]
  omega
theorem own_bif {α : Type} {b : Bool} {x : Option α} {r : α} (q : (bif b then x else none) = some r) : b = true ∧ x = some r := by
  cases b
  · cases q
  · exact ⟨rfl, q⟩
theorem own_condT {α : Type} {b : Bool} {x y : Option α} {r : α} (hb : b = true) (q : (bif b then x else y) = some r) : x = some r := by
  subst hb; exact q
theorem own_condF {α : Type} {b : Bool} {x y : Option α} {r : α} (hb : b = false) (q : (bif b then x else y) = some r) : y = some r := by
  subst hb; exact q
/-! digits -/
def dig (N k : Nat) : Nat := Nat.mod (Nat.shiftRight N (Nat.mul 12 k)) 4096
def setd (N k v : Nat) : Nat := Nat.add (Nat.sub N (Nat.shiftLeft (dig N k) (Nat.mul 12 k))) (Nat.shiftLeft v (Nat.mul 12 k))
theorem own_p12 (k : Nat) : 2 ^ (12 * k) = 4096 ^ k := by rw [Nat.pow_mul]
theorem dig_eq (N k : Nat) : dig N k = N / 4096 ^ k % 4096 := by
  show (N >>> (12 * k)) % 4096 = _
  rw [Nat.shiftRight_eq_div_pow, own_p12]
theorem setd_eq (N k v : Nat) : setd N k v = N - dig N k * 4096 ^ k + v * 4096 ^ k := by
  show N - (dig N k) <<< (12 * k) + v <<< (12 * k) = _
  rw [Nat.shiftLeft_eq, Nat.shiftLeft_eq, own_p12]
/-- a number by its upper part, the digit and its lower part -/
theorem own_split (N k : Nat) : ∃ q lo, lo < 4096 ^ k ∧ N = 4096 ^ k * (4096 * q + dig N k) + lo := by
  refine ⟨N / 4096 ^ k / 4096, N % 4096 ^ k, Nat.mod_lt _ (Nat.pow_pos (by decide)), ?_⟩
  rw [dig_eq, Nat.div_add_mod, Nat.div_add_mod]
theorem dig_of {q v lo k : Nat} (hv : v < 4096) (hl : lo < 4096 ^ k) : dig (4096 ^ k * (4096 * q + v) + lo) k = v := by
  rw [dig_eq, Nat.mul_add_div (Nat.pow_pos (by decide)), Nat.div_eq_of_lt hl, Nat.add_zero, Nat.mul_add_mod, Nat.mod_eq_of_lt hv]
theorem dig_lo {x lo k j : Nat} (hj : j < k) : dig (4096 ^ k * x + lo) j = dig lo j := by
  rw [dig_eq, dig_eq]
  obtain ⟨d, rfl⟩ : ∃ d, k = j + 1 + d := ⟨k - (j + 1), by omega⟩
  rw [show 4096 ^ (j + 1 + d) * x + lo = 4096 ^ j * (4096 * (4096 ^ d * x)) + lo by rw [Nat.pow_add, Nat.pow_succ]; simp only [Nat.mul_assoc]]
  rw [Nat.mul_add_div (Nat.pow_pos (by decide)), Nat.mul_add_mod]
theorem dig_hi {q y lo k j : Nat} (hj : k < j) (hl : lo < 4096 ^ k) (hy : y < 4096) : dig (4096 ^ k * (4096 * q + y) + lo) j = dig q (j - k - 1) := by
  rw [dig_eq, dig_eq]
  obtain ⟨d, rfl⟩ : ∃ d, j = k + (1 + d) := ⟨j - k - 1, by omega⟩
  rw [Nat.pow_add, ← Nat.div_div_eq_div_mul, Nat.mul_add_div (Nat.pow_pos (by decide)), Nat.div_eq_of_lt hl, Nat.add_zero, Nat.pow_add, ← Nat.div_div_eq_div_mul, Nat.pow_one, Nat.mul_add_div (by decide), Nat.div_eq_of_lt hy, Nat.add_zero]
  congr 3
  omega
theorem dig_lt (N k : Nat) : dig N k < 4096 := by rw [dig_eq]; exact Nat.mod_lt _ (by decide)
theorem setd_split {N k v q lo : Nat} (e : N = 4096 ^ k * (4096 * q + dig N k) + lo) : setd N k v = 4096 ^ k * (4096 * q + v) + lo := by
  rw [setd_eq]
  generalize dig N k = d at e ⊢
  subst e
  rw [Nat.mul_add, Nat.mul_add, Nat.mul_comm d]
  have : 4096 ^ k * (4096 * q) + 4096 ^ k * d + lo - 4096 ^ k * d = 4096 ^ k * (4096 * q) + lo := by omega
  rw [this, Nat.mul_comm v]
  omega
theorem dig_setd {N k v : Nat} (hv : v < 4096) (j : Nat) : dig (setd N k v) j = if j = k then v else dig N j := by
  obtain ⟨q, lo, hl, e⟩ := own_split N k
  rw [setd_split e]
  rcases Nat.lt_trichotomy j k with z | z | z
  · rw [if_neg (by omega), dig_lo z]
    conv => rhs; rw [e]
    rw [dig_lo z]
  · subst z
    rw [if_pos rfl, dig_of hv hl]
  · rw [if_neg (by omega), dig_hi z hl hv]
    conv => rhs; rw [e]
    rw [dig_hi z hl (dig_lt N k)]
theorem setd_lt {N k v m : Nat} (hv : v < 4096) (hk : k < m) (hN : N < 4096 ^ m) : setd N k v < 4096 ^ m := by
  obtain ⟨q, lo, hl, e⟩ := own_split N k
  rw [setd_split e]
  obtain ⟨d, rfl⟩ : ∃ d, m = k + 1 + d := ⟨m - (k + 1), by omega⟩
  have hq : q < 4096 ^ d := by
    apply Nat.lt_of_mul_lt_mul_left (a := 4096 ^ (k + 1))
    rw [← Nat.pow_add]
    refine Nat.lt_of_le_of_lt ?_ hN
    conv => rhs; rw [e]
    rw [Nat.pow_succ, Nat.mul_add, Nat.mul_assoc]
    omega
  have h1 : 4096 ^ k * (4096 * q + v) + lo < 4096 ^ (k + 1) * (q + 1) := by
    rw [Nat.pow_succ, Nat.mul_add, Nat.mul_add, Nat.mul_assoc, Nat.mul_one]
    have : 4096 ^ k * v + 4096 ^ k ≤ 4096 ^ k * 4096 := by
      rw [← Nat.mul_succ]; exact Nat.mul_le_mul_left _ hv
    omega
  refine Nat.lt_of_lt_of_le h1 ?_
  rw [Nat.pow_add 4096 (k + 1) d]
  exact Nat.mul_le_mul_left _ hq
theorem dig_app {N B k : Nat} (hN : N < 4096 ^ k) (j : Nat) : dig (N + B * 4096 ^ k) j = if j < k then dig N j else dig B (j - k) := by
  rw [Nat.add_comm, Nat.mul_comm]
  by_cases z : j < k
  · rw [if_pos z, dig_lo z]
  · rw [if_neg z, dig_eq, dig_eq]
    obtain ⟨d, rfl⟩ : ∃ d, j = k + d := ⟨j - k, by omega⟩
    rw [Nat.pow_add, ← Nat.div_div_eq_div_mul, Nat.mul_add_div (Nat.pow_pos (by decide)), Nat.div_eq_of_lt hN, Nat.add_zero, Nat.add_sub_cancel_left]
theorem app_lt {N B k m : Nat} (hN : N < 4096 ^ k) (hB : B < 4096 ^ m) : N + B * 4096 ^ k < 4096 ^ (k + m) := by
  rw [Nat.pow_add]
  have : B * 4096 ^ k + 4096 ^ k ≤ 4096 ^ k * 4096 ^ m := by
    rw [← Nat.succ_mul, Nat.mul_comm (4096 ^ k)]
    exact Nat.mul_le_mul_right _ hB
  omega
theorem dig_big {N k j : Nat} (hN : N < 4096 ^ k) (hj : k ≤ j) : dig N j = 0 := by
  rw [dig_eq, Nat.div_eq_of_lt (Nat.lt_of_lt_of_le hN (Nat.pow_le_pow_right (by decide) hj))]
/-! the packed heap: object r's digits stand from 20 r on: its kind + 1, its length, its references, its ints' codes; digit 1: how many there are -/
def EncO (N r : Nat) (o : AO) : Prop := dig N (20 * r) = o.1 + 1 ∧ o.2.2.length + o.2.1.length ≤ 17 ∧ (o.1 < 4 → dig N (20 * r + 1) = o.2.2.length + o.2.1.length) ∧ (o.1 ≤ 1 → o.2.2 = []) ∧ (o.1 = 2 ∨ o.1 = 3 → o.2.1 = []) ∧ (o.1 = 4 → o.2.2.length = 6 ∧ o.2.1.length = 1) ∧ (o.1 = 5 → o.2.2.length = 1 ∧ o.2.1.length = 2) ∧ o.1 ≤ 5 ∧
  (∀ i x, nth o.2.2 i = some x → x = dig N (20 * r + 2 + i)) ∧ (∀ i x, nth o.2.1 i = some x → x = vi (dig N (20 * r + 2 + o.2.2.length + i)))
def Enc (N : Nat) (H : List AO) : Prop := dig N 0 = 0 ∧ dig N 1 = H.length ∧ H.length ≤ 500 ∧ N < 4096 ^ (20 * (H.length + 1)) ∧ ∀ k o, nth H k = some o → EncO N (k + 1) o
def RepP (Z : State) (ca : Nat → Addr) (h : Heap) (N : Nat) : Prop := ∃ H, Rep Z ca h H ∧ Enc N H
theorem Enc.get {N r t : Nat} {H : List AO} (E : Enc N H) (q : Nat.beq (dig N (20 * r)) (t + 1) = true) : ∃ xs rs, hget H r = some (t, xs, rs) ∧ EncO N r (t, xs, rs) ∧ 1 ≤ r ∧ r ≤ H.length := by
  have q := Nat.eq_of_beq_eq_true q
  obtain ⟨e0, e1, e2, e3, e4⟩ := E
  cases r with
  | zero => rw [Nat.mul_zero, e0] at q; omega
  | succ k =>
    by_cases hk : k < H.length
    · have hn : nth H k = some H[k] := by rw [nth_eq]; exact List.getElem?_eq_getElem hk
      have z := e4 k _ hn
      obtain ⟨t', xs, rs⟩ : AO := H[k]
      generalize H[k] = o at hn z
      obtain ⟨t', xs, rs⟩ := o
      have : t' = t := by have := z.1; dsimp only at this; omega
      subst this
      exact ⟨xs, rs, hn, z, by omega, by omega⟩
    · rw [dig_big e3 (by omega)] at q
      omega
theorem own_get {α : Type} {l : List α} {i : Nat} (hi : i < l.length) : nth l i = some l[i] := by rw [nth_eq]; exact List.getElem?_eq_getElem hi
/-! reading -/
def pilo (t N r j : Nat) : Option Nat := bif Nat.beq (dig N (20 * r)) (t + 1) then (bif Nat.ble 1 j then (bif Nat.ble j (dig N (20 * r + 1)) then some (dig N (20 * r + 1 + j)) else none) else none) else none
theorem own_lt {α : Type} {l : List α} {i : Nat} {x : α} (q : nth l i = some x) : i < l.length := by rw [nth_eq] at q; exact (List.getElem?_eq_some_iff.mp q).1
theorem EncO.ints {N r t : Nat} {xs : List Int32} {rs : List Nat} (E : EncO N r (t, xs, rs)) (ht : t ≤ 1) : rs = [] ∧ dig N (20 * r + 1) = xs.length ∧ xs.length ≤ 17 ∧ ∀ i x, nth xs i = some x → x = vi (dig N (20 * r + 2 + i)) := by
  obtain ⟨_, o2, o3, o4, _, _, _, _, _, o9⟩ := E
  dsimp only at o2 o3 o4 o9
  have er : rs = [] := o4 ht
  subst er
  have h3 := o3 (by omega)
  rw [List.length_nil, Nat.zero_add] at h3 o2
  exact ⟨rfl, h3, o2, o9⟩
theorem EncO.refs {N r t : Nat} {xs : List Int32} {rs : List Nat} (E : EncO N r (t, xs, rs)) (ht : t = 2 ∨ t = 3) : xs = [] ∧ dig N (20 * r + 1) = rs.length ∧ rs.length ≤ 17 ∧ ∀ i x, nth rs i = some x → x = dig N (20 * r + 2 + i) := by
  obtain ⟨_, o2, o3, _, o5, _, _, _, o8, _⟩ := E
  dsimp only at o2 o3 o5 o8
  have er : xs = [] := o5 ht
  subst er
  have h3 := o3 (by omega)
  rw [List.length_nil, Nat.add_zero] at h3 o2
  exact ⟨rfl, h3, o2, o8⟩
theorem EncO.congr {N N' r : Nat} {o : AO} (E : EncO N r o) (q : ∀ j, 20 * r ≤ j → j < 20 * r + 20 → dig N' j = dig N j) : EncO N' r o := by
  obtain ⟨o1, o2, o3, o4, o5, o6, o7, o8, o9, o10⟩ := E
  refine ⟨by rw [q _ (by omega) (by omega)]; exact o1, o2, fun z => by rw [q _ (by omega) (by omega)]; exact o3 z, o4, o5, o6, o7, o8, fun i x h => ?_, fun i x h => ?_⟩
  · have := own_lt h
    rw [q _ (by omega) (by omega)]; exact o9 i x h
  · have := own_lt h
    rw [q _ (by omega) (by omega)]; exact o10 i x h
theorem Enc.set {N r k v : Nat} {H : List AO} {o o' : AO} (E : Enc N H) (g : hget H r = some o) (hk : 2 ≤ k) (hk2 : k < 20) (hv : v < 4096) (F : EncO (setd N (20 * r + k) v) r o') : Enc (setd N (20 * r + k) v) (H.set (r - 1) o') := by
  obtain ⟨e0, e1, e2, e3, e4⟩ := E
  cases r with
  | zero => cases g
  | succ r =>
    have g' : nth H r = some o := g
    have hr := own_lt g'
    refine ⟨by rw [dig_setd hv, if_neg (by omega)]; exact e0, by rw [dig_setd hv, if_neg (by omega), List.length_set]; exact e1, by rw [List.length_set]; exact e2, by rw [List.length_set]; exact setd_lt hv (by omega) e3, fun j oj hj => ?_⟩
    rcases own_nset hj with ⟨z1, z2⟩ | ⟨z1, z2⟩
    · subst z2
      rw [Nat.add_sub_cancel] at z1
      subst z1
      exact F
    · rw [Nat.add_sub_cancel] at z1
      exact (e4 j oj z2).congr fun i h1 h2 => by rw [dig_setd hv, if_neg (by omega)]
theorem vi_idx {k : Nat} (hk : k < 1000) : ¬ vi (k + 1) < 0 ∧ (vi (k + 1)).toNatClampNeg = k := by
  rw [vi_succ]
  exact own_clamp (i := k) (by omega)
theorem enc_ilo {N r t j v : Nat} {H : List AO} (E : Enc N H) (ht : t ≤ 1) (q : pilo t N r j = some v) : ilo t H r (vi j) = some (vi v) := by
  obtain ⟨q1, q⟩ := own_bif q
  obtain ⟨q2, q⟩ := own_bif q
  obtain ⟨q3, q⟩ := own_bif q
  cases q
  obtain ⟨xs, rs, g, O, -, -⟩ := E.get q1
  obtain ⟨rfl, o1, o2, o3⟩ := O.ints ht
  have q2 := Nat.le_of_ble_eq_true q2
  have q3 := Nat.le_of_ble_eq_true q3
  rw [o1] at q3
  obtain ⟨k, rfl⟩ : ∃ k, j = k + 1 := ⟨j - 1, by omega⟩
  have hk : k < xs.length := q3
  obtain ⟨c1, c2⟩ := vi_idx (k := k) (by omega)
  unfold ilo gt
  rw [g]
  show (if t = t then (if vi (k + 1) < 0 then none else nth xs (vi (k + 1)).toNatClampNeg) else none) = _
  rw [if_pos rfl, if_neg c1, c2, own_get hk, o3 k _ (own_get hk), show 20 * r + 1 + (k + 1) = 20 * r + 2 + k by omega]
def pist (t N r j v : Nat) : Option Nat := bif Nat.beq (dig N (20 * r)) (t + 1) then (bif Nat.ble 1 j then (bif Nat.ble j (dig N (20 * r + 1)) then (bif Nat.blt v 4096 then some (setd N (20 * r + (1 + j)) v) else none) else none) else none) else none
theorem enc_ist {N N' r t j v : Nat} {H : List AO} (E : Enc N H) (ht : t ≤ 1) (q : pist t N r j v = some N') : ∃ H', ist t H r (vi j) (vi v) = some H' ∧ Enc N' H' := by
  obtain ⟨q1, q⟩ := own_bif q
  obtain ⟨q2, q⟩ := own_bif q
  obtain ⟨q3, q⟩ := own_bif q
  obtain ⟨q4, q⟩ := own_bif q
  cases q
  obtain ⟨xs, rs, g, O, r1, r2⟩ := E.get q1
  obtain ⟨rfl, o1, o2, o3⟩ := O.ints ht
  have q2 := Nat.le_of_ble_eq_true q2
  have q3 := Nat.le_of_ble_eq_true q3
  have hv : v < 4096 := Nat.le_of_ble_eq_true q4
  rw [o1] at q3
  obtain ⟨k, rfl⟩ : ∃ k, j = k + 1 := ⟨j - 1, by omega⟩
  have hk : k < xs.length := q3
  obtain ⟨c1, c2⟩ := vi_idx (k := k) (by omega)
  refine ⟨H.set (r - 1) (t, xs.set k (vi v), []), ?_, E.set g (by omega) (by omega) hv ?_⟩
  · unfold ist
    rw [g]
    show (if t = t then (if vi (k + 1) < 0 then none else if (vi (k + 1)).toNatClampNeg < xs.length then some _ else none) else none) = _
    rw [if_pos rfl, if_neg c1, c2, if_pos hk]
  · obtain ⟨p1, p2, p3, p4, p5, p6, p7, p8, p9, p10⟩ := O
    refine ⟨by rw [dig_setd hv, if_neg (by omega)]; exact p1, by show _ + (xs.set k (vi v)).length ≤ 17; rw [List.length_set]; exact p2, fun z => by rw [dig_setd hv, if_neg (by omega)]; show _ = _ + (xs.set k (vi v)).length; rw [List.length_set]; exact p3 z, fun _ => rfl, fun z => by dsimp only at z; omega, fun z => by dsimp only at z; omega, fun z => by dsimp only at z; omega, p8, fun i x h => (by rw [nth_eq] at h; simp at h), fun i x h => ?_⟩
    show x = vi (dig _ (20 * r + 2 + 0 + i))
    rcases own_nset h with ⟨z1, z2⟩ | ⟨z1, z2⟩
    · subst z1 z2
      rw [dig_setd hv, if_pos (by omega)]
    · rw [dig_setd hv, if_neg (by omega)]
      exact o3 i x z2
def paln (N r : Nat) : Option Nat := bif (Nat.ble 1 (dig N (20 * r)) && Nat.ble (dig N (20 * r)) 4) then (bif Nat.beq (dig N (20 * r)) 2 then none else some (dig N (20 * r + 1) + 1)) else none
theorem enc_aln {N r v : Nat} {H : List AO} (E : Enc N H) (q : paln N r = some v) : aln H r = some (vi v) := by
  obtain ⟨q1, q⟩ := own_bif q
  rw [Bool.and_eq_true] at q1
  have a1 := Nat.le_of_ble_eq_true q1.1
  have a2 := Nat.le_of_ble_eq_true q1.2
  obtain ⟨t, ht⟩ : ∃ t, dig N (20 * r) = t + 1 := ⟨dig N (20 * r) - 1, by omega⟩
  obtain ⟨xs, rs, g, O, r1, r2⟩ := E.get (r := r) (t := t) (by rw [ht]; exact Nat.beq_refl _)
  have hne : Nat.beq (dig N (20 * r)) 2 = false := by
    cases z : Nat.beq (dig N (20 * r)) 2 with
    | false => rfl
    | true => rw [z] at q; cases q
  have q := own_condF hne q
  cases q
  have t1 : t ≠ 1 := fun z => by rw [ht, z] at hne; cases hne
  unfold aln
  rw [g, vi_succ]
  have : t = 0 ∨ t = 2 ∨ t = 3 := by omega
  rcases this with rfl | rfl | rfl
  · rw [(O.ints (by omega)).2.1]; rfl
  · rw [(O.refs (Or.inl rfl)).2.1]; rfl
  · rw [(O.refs (Or.inr rfl)).2.1]; rfl
def prlo (N r j : Nat) : Option Nat := bif (Nat.ble 3 (dig N (20 * r)) && Nat.ble (dig N (20 * r)) 4) then (bif Nat.ble 1 j then (bif Nat.ble j (dig N (20 * r + 1)) then (bif Nat.beq (dig N (20 * r + 1 + j)) 0 then none else some (dig N (20 * r + 1 + j))) else none) else none) else none
theorem enc_rlo {N r j v : Nat} {H : List AO} (E : Enc N H) (q : prlo N r j = some v) : rlo H r (vi j) = some v := by
  obtain ⟨q1, q⟩ := own_bif q
  obtain ⟨q2, q⟩ := own_bif q
  obtain ⟨q3, q⟩ := own_bif q
  rw [Bool.and_eq_true] at q1
  have a1 := Nat.le_of_ble_eq_true q1.1
  have a2 := Nat.le_of_ble_eq_true q1.2
  obtain ⟨t, ht⟩ : ∃ t, dig N (20 * r) = t + 1 := ⟨dig N (20 * r) - 1, by omega⟩
  obtain ⟨xs, rs, g, O, r1, r2⟩ := E.get (r := r) (t := t) (by rw [ht]; exact Nat.beq_refl _)
  have t3 : t = 2 ∨ t = 3 := by omega
  obtain ⟨rfl, o1, o2, o3⟩ := O.refs t3
  have q2 := Nat.le_of_ble_eq_true q2
  have q3 := Nat.le_of_ble_eq_true q3
  rw [o1] at q3
  obtain ⟨k, rfl⟩ : ∃ k, j = k + 1 := ⟨j - 1, by omega⟩
  have hk : k < rs.length := q3
  obtain ⟨c1, c2⟩ := vi_idx (k := k) (by omega)
  have e := o3 k _ (own_get hk)
  rw [show 20 * r + 1 + (k + 1) = 20 * r + 2 + k by omega, ← e] at q
  have hne : Nat.beq rs[k] 0 = false := by
    cases z : Nat.beq rs[k] 0 with
    | false => rfl
    | true => rw [z] at q; cases q
  have q := own_condF hne q
  cases q
  have nz : rs[k] ≠ 0 := fun z => by rw [z] at hne; cases hne
  unfold rlo gr
  rw [g]
  show (if t = 2 ∨ t = 3 then ((if vi (k + 1) < 0 then none else nth rs (vi (k + 1)).toNatClampNeg).bind fun x => if x = 0 then none else some x) else none) = _
  rw [if_pos t3, if_neg c1, c2, own_get hk]
  show (if rs[k] = 0 then none else some rs[k]) = _
  rw [if_neg nz]
def pisA (t N r : Nat) : Bool := Nat.beq (dig N (20 * r)) (t + 1)
theorem enc_isA {N r t : Nat} {H : List AO} (E : Enc N H) (q : pisA t N r = true) : ((hget H r).any fun o => o.1 == t) = true := by
  obtain ⟨xs, rs, g, -, -, -⟩ := E.get q
  rw [g]
  show (t == t) = true
  exact beq_self_eq_true t
def pisO (N v : Nat) : Bool := bif Nat.blt v 1000 then pisA 0 N v else Nat.blt v 1256
theorem enc_isO {N v : Nat} {H : List AO} (E : Enc N H) (q : pisO N v = true) : isO H v = true ∧ v < 4096 := by
  unfold pisO at q
  unfold isO
  cases z : Nat.blt v 1000 with
  | true =>
    rw [z] at q
    have : v < 1000 := Nat.le_of_ble_eq_true z
    rw [if_pos this]
    exact ⟨enc_isA E q, by omega⟩
  | false =>
    rw [z] at q
    have h1 : ¬ v < 1000 := fun w => by rw [show Nat.blt v 1000 = true from Nat.ble_eq_true_of_le w] at z; cases z
    have h2 : v < 1256 := Nat.le_of_ble_eq_true q
    rw [if_neg h1]
    exact ⟨decide_eq_true h2, by omega⟩
def prst (t N r j v : Nat) : Option Nat := bif Nat.beq (dig N (20 * r)) (t + 1) then (bif Nat.ble 1 j then (bif Nat.ble j (dig N (20 * r + 1)) then (bif Nat.blt v 4096 then some (setd N (20 * r + (1 + j)) v) else none) else none) else none) else none
theorem enc_rst {N N' r t j v : Nat} {H : List AO} (E : Enc N H) (ht : t = 2 ∨ t = 3) (q : prst t N r j v = some N') : ∃ H', rst t H r (vi j) v = some H' ∧ Enc N' H' := by
  obtain ⟨q1, q⟩ := own_bif q
  obtain ⟨q2, q⟩ := own_bif q
  obtain ⟨q3, q⟩ := own_bif q
  obtain ⟨q4, q⟩ := own_bif q
  cases q
  obtain ⟨xs, rs, g, O, r1, r2⟩ := E.get q1
  obtain ⟨rfl, o1, o2, o3⟩ := O.refs ht
  have q2 := Nat.le_of_ble_eq_true q2
  have q3 := Nat.le_of_ble_eq_true q3
  have hv : v < 4096 := Nat.le_of_ble_eq_true q4
  rw [o1] at q3
  obtain ⟨k, rfl⟩ : ∃ k, j = k + 1 := ⟨j - 1, by omega⟩
  have hk : k < rs.length := q3
  obtain ⟨c1, c2⟩ := vi_idx (k := k) (by omega)
  refine ⟨H.set (r - 1) (t, [], rs.set k v), ?_, E.set g (by omega) (by omega) hv ?_⟩
  · unfold rst
    rw [g]
    show (if t = t then (if vi (k + 1) < 0 then none else if (vi (k + 1)).toNatClampNeg < rs.length then some _ else none) else none) = _
    rw [if_pos rfl, if_neg c1, c2, if_pos hk]
  · obtain ⟨p1, p2, p3, p4, p5, p6, p7, p8, p9, p10⟩ := O
    refine ⟨by rw [dig_setd hv, if_neg (by omega)]; exact p1, by show (rs.set k v).length + _ ≤ 17; rw [List.length_set]; exact p2, fun z => by rw [dig_setd hv, if_neg (by omega)]; show _ = (rs.set k v).length + _; rw [List.length_set]; exact p3 z, fun z => by dsimp only at z; omega, fun _ => rfl, fun z => by dsimp only at z; omega, fun z => by dsimp only at z; omega, p8, fun i x h => ?_, fun i x h => (by rw [nth_eq] at h; simp at h)⟩
    rcases own_nset h with ⟨z1, z2⟩ | ⟨z1, z2⟩
    · subst z1 z2
      rw [dig_setd hv, if_pos (by omega)]
    · rw [dig_setd hv, if_neg (by omega)]
      exact o3 i x z2
/-! fields: an object's references come first -/
def pgf (t N r i : Nat) : Option Nat := bif Nat.beq (dig N (20 * r)) (t + 1) then some (dig N (20 * r + (2 + i))) else none
def pgfr (t N r i : Nat) : Option Nat := (pgf t N r i).bind fun x => bif Nat.beq x 0 then none else some x
def pnr (t : Nat) : Nat := bif Nat.beq t 4 then 6 else 1
def pni (t : Nat) : Nat := bif Nat.beq t 4 then 1 else 2
def pgfi (t N r i : Nat) : Option Nat := pgf t N r (pnr t + i)
theorem EncO.obj {N r t : Nat} {xs : List Int32} {rs : List Nat} (E : EncO N r (t, xs, rs)) (ht : t = 4 ∨ t = 5) : rs.length = pnr t ∧ xs.length = pni t := by
  obtain ⟨_, _, _, _, _, o6, o7, _, _, _⟩ := E
  rcases ht with rfl | rfl
  · exact o6 rfl
  · exact o7 rfl
theorem enc_gfr {N r t i v : Nat} {H : List AO} (E : Enc N H) (ht : t = 4 ∨ t = 5) (hi : i < pnr t) (q : pgfr t N r i = some v) : gfr t H r i = some v := by
  obtain ⟨x, q1, q2⟩ := own_bind q
  obtain ⟨g1, q3⟩ := own_bif q1
  cases q3
  obtain ⟨xs, rs, g, O, r1, r2⟩ := E.get g1
  obtain ⟨l1, l2⟩ := O.obj ht
  have hk : i < rs.length := by omega
  have e := O.2.2.2.2.2.2.2.2.1 i _ (own_get hk)
  rw [show 20 * r + (2 + i) = 20 * r + 2 + i by omega, ← e] at q2
  have hne : Nat.beq rs[i] 0 = false := by
    cases z : Nat.beq rs[i] 0 with
    | false => rfl
    | true => rw [z] at q2; cases q2
  have q := own_condF hne q2
  cases q
  have nz : rs[i] ≠ 0 := fun z => by rw [z] at hne; cases hne
  unfold gfr
  rw [g]
  show (if t = t then ((nth rs i).bind fun x => if x = 0 then none else some x) else none) = _
  rw [if_pos rfl, own_get hk]
  show (if rs[i] = 0 then none else some rs[i]) = _
  rw [if_neg nz]
theorem enc_gfi {N r t i v : Nat} {H : List AO} (E : Enc N H) (ht : t = 4 ∨ t = 5) (hi : i < pni t) (q : pgfi t N r i = some v) : gfi t H r i = some (vi v) := by
  obtain ⟨q1, q3⟩ := own_bif q
  cases q3
  obtain ⟨xs, rs, g, O, r1, r2⟩ := E.get q1
  obtain ⟨l1, l2⟩ := O.obj ht
  have hk : i < xs.length := by omega
  have e := O.2.2.2.2.2.2.2.2.2 i _ (own_get hk)
  unfold gfi
  rw [g]
  show (if t = t then nth xs i else none) = _
  rw [if_pos rfl, own_get hk, e]
  show some (vi (dig N (20 * r + 2 + rs.length + i))) = _
  rw [l1, show 20 * r + 2 + pnr t + i = 20 * r + (2 + (pnr t + i)) by omega]
def ppf (t N r i x : Nat) : Option Nat := bif Nat.beq (dig N (20 * r)) (t + 1) then (bif Nat.blt x 4096 then some (setd N (20 * r + (2 + i)) x) else none) else none
def ppfr (t N r i x : Nat) : Option Nat := bif Nat.beq x 0 then none else ppf t N r i x
def ppfi (t N r i x : Nat) : Option Nat := ppf t N r (pnr t + i) x
theorem enc_pfr {N N' r t i v : Nat} {H : List AO} (E : Enc N H) (ht : t = 4 ∨ t = 5) (hi : i < pnr t) (q : ppfr t N r i v = some N') : ∃ H', pfr t H r i v = some H' ∧ Enc N' H' := by
  have hne : Nat.beq v 0 = false := by
    cases z : Nat.beq v 0 with
    | false => rfl
    | true => unfold ppfr at q; rw [z] at q; cases q
  have nz : v ≠ 0 := fun z => by rw [z] at hne; cases hne
  have q := own_condF hne q
  obtain ⟨q1, q⟩ := own_bif q
  obtain ⟨q4, q⟩ := own_bif q
  cases q
  obtain ⟨xs, rs, g, O, r1, r2⟩ := E.get q1
  obtain ⟨l1, l2⟩ := O.obj ht
  have hv : v < 4096 := Nat.le_of_ble_eq_true q4
  have hk : i < rs.length := by omega
  have hp : pnr t ≤ 6 := by rcases ht with rfl | rfl <;> decide
  have hn : 1 ≤ pni t := by rcases ht with rfl | rfl <;> decide
  refine ⟨H.set (r - 1) (t, xs, rs.set i v), ?_, E.set g (by omega) (by omega) hv ?_⟩
  · unfold pfr
    rw [g]
    show (if t = t then ((nth rs i).bind fun _ => if v = 0 then none else some _) else none) = _
    rw [if_pos rfl, own_get hk]
    show (if v = 0 then none else some _) = _
    rw [if_neg nz]
  · obtain ⟨p1, p2, p3, p4, p5, p6, p7, p8, p9, p10⟩ := O
    dsimp only at p1 p2 p3 p4 p5 p6 p7 p8 p9 p10
    refine ⟨by rw [dig_setd hv, if_neg (by omega)]; exact p1, by show (rs.set i v).length + _ ≤ 17; rw [List.length_set]; exact p2, fun z => by dsimp only at z; omega, fun z => by dsimp only at z; omega, fun z => by dsimp only at z; omega, fun z => by show (rs.set i v).length = 6 ∧ _; rw [List.length_set]; exact p6 z, fun z => by show (rs.set i v).length = 1 ∧ _; rw [List.length_set]; exact p7 z, p8, fun j x h => ?_, fun j x h => ?_⟩
    · rcases own_nset h with ⟨z1, z2⟩ | ⟨z1, z2⟩
      · subst z1 z2
        rw [dig_setd hv, if_pos (by omega)]
      · rw [dig_setd hv, if_neg (by omega)]
        exact p9 j x z2
    · show x = vi (dig _ (20 * r + 2 + (rs.set i v).length + j))
      rw [List.length_set, dig_setd hv, if_neg (by omega)]
      exact p10 j x h
theorem enc_pfi {N N' r t i v : Nat} {H : List AO} (E : Enc N H) (ht : t = 4 ∨ t = 5) (hi : i < pni t) (q : ppfi t N r i v = some N') : ∃ H', pfi t H r i (vi v) = some H' ∧ Enc N' H' := by
  obtain ⟨q1, q⟩ := own_bif q
  obtain ⟨q4, q⟩ := own_bif q
  cases q
  obtain ⟨xs, rs, g, O, r1, r2⟩ := E.get q1
  obtain ⟨l1, l2⟩ := O.obj ht
  have hv : v < 4096 := Nat.le_of_ble_eq_true q4
  have hk : i < xs.length := by omega
  have hp : pnr t ≤ 6 := by rcases ht with rfl | rfl <;> decide
  have hn : pni t ≤ 2 := by rcases ht with rfl | rfl <;> decide
  refine ⟨H.set (r - 1) (t, xs.set i (vi v), rs), ?_, E.set g (by omega) (by omega) hv ?_⟩
  · unfold pfi
    rw [g]
    show (if t = t then ((nth xs i).bind fun _ => some _) else none) = _
    rw [if_pos rfl, own_get hk]
    rfl
  · obtain ⟨p1, p2, p3, p4, p5, p6, p7, p8, p9, p10⟩ := O
    dsimp only at p1 p2 p3 p4 p5 p6 p7 p8 p9 p10
    refine ⟨by rw [dig_setd hv, if_neg (by omega)]; exact p1, by show _ + (xs.set i (vi v)).length ≤ 17; rw [List.length_set]; exact p2, fun z => by dsimp only at z; omega, fun z => by dsimp only at z; omega, fun z => by dsimp only at z; omega, fun z => by show _ ∧ (xs.set i (vi v)).length = 1; rw [List.length_set]; exact p6 z, fun z => by show _ ∧ (xs.set i (vi v)).length = 2; rw [List.length_set]; exact p7 z, p8, fun j x h => ?_, fun j x h => ?_⟩
    · have := own_lt h
      dsimp only at this
      rw [dig_setd hv, if_neg (by omega)]
      exact p9 j x h
    · show x = vi (dig _ (20 * r + 2 + rs.length + j))
      rcases own_nset h with ⟨z1, z2⟩ | ⟨z1, z2⟩
      · subst z1 z2
        rw [dig_setd hv, if_pos (by omega)]
      · rw [dig_setd hv, if_neg (by omega)]
        exact p10 j x z2
/-! new objects -/
theorem EncO.shift {N N' r r' : Nat} {o : AO} (E : EncO N r o) (q : ∀ j, j < 20 → dig N' (20 * r' + j) = dig N (20 * r + j)) : EncO N' r' o := by
  obtain ⟨o1, o2, o3, o4, o5, o6, o7, o8, o9, o10⟩ := E
  refine ⟨by rw [show 20 * r' = 20 * r' + 0 from rfl, q 0 (by omega)]; exact o1, o2, fun z => by rw [q 1 (by omega)]; exact o3 z, o4, o5, o6, o7, o8, fun i x h => ?_, fun i x h => ?_⟩
  · have := own_lt h
    rw [show 20 * r' + 2 + i = 20 * r' + (2 + i) by omega, q _ (by omega), show 20 * r + (2 + i) = 20 * r + 2 + i by omega]; exact o9 i x h
  · have := own_lt h
    rw [show 20 * r' + 2 + o.2.2.length + i = 20 * r' + (2 + o.2.2.length + i) by omega, q _ (by omega), show 20 * r + (2 + o.2.2.length + i) = 20 * r + 2 + o.2.2.length + i by omega]; exact o10 i x h
def padd (N B : Nat) : Option (Nat × Nat) := bif Nat.blt (dig N 1) 500 then some (Nat.add (setd N 1 (dig N 1 + 1)) (Nat.shiftLeft B (Nat.mul 12 (20 * (dig N 1 + 1)))), dig N 1 + 1) else none
theorem enc_add {N B : Nat} {H : List AO} {o : AO} {q : Nat × Nat} (E : Enc N H) (hB : B < 4096 ^ 20) (F : EncO B 0 o) (hq : padd N B = some q) : ∃ H', hnew H o = some (H', q.2) ∧ Enc q.1 H' := by
  obtain ⟨e0, e1, e2, e3, e4⟩ := E
  obtain ⟨g1, g2⟩ := own_bif hq
  cases g2
  have hl : H.length < 500 := by rw [← e1]; exact Nat.le_of_ble_eq_true g1
  rw [e1]
  have hv : H.length + 1 < 4096 := by omega
  have hs : setd N 1 (H.length + 1) < 4096 ^ (20 * (H.length + 1)) := setd_lt hv (by omega) e3
  have eN : Nat.add (setd N 1 (H.length + 1)) (Nat.shiftLeft B (Nat.mul 12 (20 * (H.length + 1)))) = setd N 1 (H.length + 1) + B * 4096 ^ (20 * (H.length + 1)) := by
    show _ + B <<< (12 * _) = _
    rw [Nat.shiftLeft_eq, own_p12]
  dsimp only
  rw [eN]
  refine ⟨H ++ [o], by unfold hnew; rw [if_pos hl], ?_⟩
  have d : ∀ j, dig (setd N 1 (H.length + 1) + B * 4096 ^ (20 * (H.length + 1))) j = if j < 20 * (H.length + 1) then (if j = 1 then H.length + 1 else dig N j) else dig B (j - 20 * (H.length + 1)) := fun j => by rw [dig_app hs, dig_setd hv]
  have hlen : (H ++ [o]).length = H.length + 1 := by simp
  refine ⟨by rw [d, if_pos (by omega), if_neg (by omega)]; exact e0, by rw [d, if_pos (by omega), if_pos rfl, hlen], by rw [hlen]; omega, by rw [hlen, show 20 * (H.length + 1 + 1) = 20 * (H.length + 1) + 20 by omega]; exact app_lt hs hB, fun k ok hk => ?_⟩
  rw [nth_eq, List.getElem?_append] at hk
  split at hk
  · next z =>
    rw [← nth_eq] at hk
    refine (e4 k ok hk).congr fun j h1 h2 => ?_
    rw [d, if_pos (by omega), if_neg (by omega)]
  · next z =>
    have : k = H.length := by
      rcases Nat.lt_or_ge (k - H.length) 1 with y | y
      · omega
      · rw [List.getElem?_eq_none (by simpa using y)] at hk; cases hk
    subst this
    rw [Nat.sub_self] at hk
    cases hk
    refine F.shift fun j hj => ?_
    rw [d, if_neg (by omega)]
    congr 1
    omega
def pbI (t n : Nat) : Nat := Nat.add (Nat.add (t + 1) (Nat.mul 4096 n)) (Nat.mul 16777216 (Nat.div (Nat.sub (Nat.shiftLeft 1 (Nat.mul 12 n)) 1) 4095))
def pbQ (t n : Nat) : Nat := Nat.add (t + 1) (Nat.mul 4096 n)
theorem pbI_ok {t n : Nat} (ht : t ≤ 1) (hn : n ≤ 8) : pbI t n < 4096 ^ 20 ∧ EncO (pbI t n) 0 (t, List.replicate n 0, []) := by
  have a := (by decide +kernel : ∀ t : Fin 2, ∀ n : Fin 9, pbI t.val n.val < 4096 ^ 20 ∧ dig (pbI t.val n.val) 0 = t.val + 1 ∧ dig (pbI t.val n.val) 1 = n.val ∧ ∀ i : Fin 8, i.val < n.val → dig (pbI t.val n.val) (2 + i.val) = 1) ⟨t, by omega⟩ ⟨n, by omega⟩
  obtain ⟨a1, a2, a3, a4⟩ := a
  refine ⟨a1, a2, by show 0 + (List.replicate n 0).length ≤ 17; rw [List.length_replicate]; omega, fun _ => by show dig _ 1 = 0 + (List.replicate n 0).length; rw [List.length_replicate, Nat.zero_add]; exact a3, fun _ => rfl, fun z => by dsimp only at z; omega, fun z => by dsimp only at z; omega, fun z => by dsimp only at z; omega, by show t ≤ 5; omega, fun i x h => (by rw [nth_eq] at h; simp at h), fun i x h => ?_⟩
  have hi : i < n := by have := own_lt h; dsimp only at this; rwa [List.length_replicate] at this
  have hx : x = 0 := by
    rw [nth_eq, List.getElem?_replicate, if_pos hi] at h
    exact (Option.some.inj h).symm
  have := a4 ⟨i, by omega⟩ hi
  show x = vi (dig (pbI t n) (20 * 0 + 2 + 0 + i))
  rw [show 20 * 0 + 2 + 0 + i = 2 + i by omega, this, hx]
  rfl
theorem pbQ_ok {t n : Nat} (ht : t = 2 ∨ t = 3) (hn : n ≤ 17) : pbQ t n < 4096 ^ 20 ∧ EncO (pbQ t n) 0 (t, [], List.replicate n 0) := by
  have a := (by decide +kernel : ∀ t : Fin 4, ∀ n : Fin 18, pbQ t.val n.val < 4096 ^ 20 ∧ dig (pbQ t.val n.val) 0 = t.val + 1 ∧ dig (pbQ t.val n.val) 1 = n.val ∧ ∀ i : Fin 17, dig (pbQ t.val n.val) (2 + i.val) = 0) ⟨t, by omega⟩ ⟨n, by omega⟩
  obtain ⟨a1, a2, a3, a4⟩ := a
  refine ⟨a1, a2, by show (List.replicate n 0).length + 0 ≤ 17; rw [List.length_replicate]; omega, fun _ => by show dig _ 1 = (List.replicate n 0).length + 0; rw [List.length_replicate]; exact a3, fun z => by dsimp only at z; omega, fun _ => rfl, fun z => by dsimp only at z; omega, fun z => by dsimp only at z; omega, by show t ≤ 5; omega, fun i x h => ?_, fun i x h => (by rw [nth_eq] at h; simp at h)⟩
  have hi : i < n := by have := own_lt h; dsimp only at this; rwa [List.length_replicate] at this
  have hx : x = 0 := by
    rw [nth_eq, List.getElem?_replicate, if_pos hi] at h
    exact (Option.some.inj h).symm
  have := a4 ⟨i, by omega⟩
  show x = dig (pbQ t n) (20 * 0 + 2 + i)
  rw [show 20 * 0 + 2 + i = 2 + i by omega, this, hx]
def pb4 : Nat := 5 + 4096 ^ 8
def pb5 : Nat := 6 + 4096 ^ 3 + 4096 ^ 4
theorem pb4_ok : pb4 < 4096 ^ 20 ∧ EncO pb4 0 (4, [0], [0, 0, 0, 0, 0, 0]) := by
  refine ⟨by decide +kernel, by decide +kernel, by decide, fun z => by dsimp only at z; omega, fun z => by dsimp only at z; omega, fun z => by dsimp only at z; omega, fun _ => ⟨rfl, rfl⟩, fun z => by dsimp only at z; omega, by decide, fun i x h => ?_, fun i x h => ?_⟩
  · have hi := own_lt h
    exact (by decide +kernel : ∀ i : Fin 6, ∀ x, nth [0, 0, 0, 0, 0, 0] i.val = some x → x = dig pb4 (20 * 0 + 2 + i.val)) ⟨i, hi⟩ x h
  · have hi := own_lt h
    match i, h with
    | 0, h => cases h; decide +kernel
theorem pb5_ok : pb5 < 4096 ^ 20 ∧ EncO pb5 0 (5, [0, 0], [0]) := by
  refine ⟨by decide +kernel, by decide +kernel, by decide, fun z => by dsimp only at z; omega, fun z => by dsimp only at z; omega, fun z => by dsimp only at z; omega, fun z => by dsimp only at z; omega, fun _ => ⟨rfl, rfl⟩, by decide, fun i x h => ?_, fun i x h => ?_⟩
  · have hi := own_lt h
    match i, h with
    | 0, h => cases h; decide +kernel
  · have hi := own_lt h
    match i, h with
    | 0, h => cases h; decide +kernel
    | 1, h => cases h; decide +kernel
theorem RepP.ext {N : Nat} (F : RepP Z ca h N) : Ext Z.heap h := by obtain ⟨H, G, E⟩ := F; exact G.1
theorem RepP.exa {N t r : Nat} (F : RepP Z ca h N) (q : pisA (t + 4) N r = true) : Exa Z h (ad Z ca r) (ocl (t + 4)).1 := by obtain ⟨H, G, E⟩ := F; exact G.exa (enc_isA E q)
theorem p_iald {N : Nat} {r j v : Nat} (F : RepP Z ca h N) (hv : pilo 0 N r j = some v) (hd : decode bytes pc = .ok (.iaload, 1)) (hp : pc + 1 = pc')
    (k : OG p l e R s m args below meth c Z own nm bytes ml ret Q kc ks h cells slots (mkF m pc' ls (.int (vi v) :: rest))) : OG p l e R s m args below meth c Z own nm bytes ml ret Q kc ks h cells slots (mkF m pc ls (.int (vi j) :: .ref (ad Z ca r) :: rest)) := by
  obtain ⟨H, G, E⟩ := F
  exact m_iald G (enc_ilo E (by decide) hv) hd hp k
theorem p_zald {N : Nat} {r j v : Nat} (F : RepP Z ca h N) (hv : pilo 1 N r j = some v) (hd : decode bytes pc = .ok (.baload, 1)) (hp : pc + 1 = pc')
    (k : OG p l e R s m args below meth c Z own nm bytes ml ret Q kc ks h cells slots (mkF m pc' ls (.int (vi v) :: rest))) : OG p l e R s m args below meth c Z own nm bytes ml ret Q kc ks h cells slots (mkF m pc ls (.int (vi j) :: .ref (ad Z ca r) :: rest)) := by
  obtain ⟨H, G, E⟩ := F
  exact m_zald G (enc_ilo E (by decide) hv) hd hp k
theorem p_iast {N : Nat} {r j v N' : Nat} (F : RepP Z ca h N) (hv : pist 0 N r j v = some N') (hd : decode bytes pc = .ok (.iastore, 1)) (hp : pc + 1 = pc')
    (k : ∀ h', RepP Z ca h' N' → OG p l e R s m args below meth c Z own nm bytes ml ret Q kc ks h' cells slots (mkF m pc' ls rest)) : OG p l e R s m args below meth c Z own nm bytes ml ret Q kc ks h cells slots (mkF m pc ls (.int (vi v) :: .int (vi j) :: .ref (ad Z ca r) :: rest)) := by
  obtain ⟨H, G, E⟩ := F
  obtain ⟨H', h1, h2⟩ := enc_ist E (by decide) hv
  exact m_iast G h1 hd hp fun h' G' => k h' ⟨H', G', h2⟩
theorem p_zast {N : Nat} {r j N' : Nat} (F : RepP Z ca h N) (hv : pist 1 N r j 2 = some N') (hd : decode bytes pc = .ok (.bastore, 1)) (hp : pc + 1 = pc')
    (k : ∀ h', RepP Z ca h' N' → OG p l e R s m args below meth c Z own nm bytes ml ret Q kc ks h' cells slots (mkF m pc' ls rest)) : OG p l e R s m args below meth c Z own nm bytes ml ret Q kc ks h cells slots (mkF m pc ls (.int (vi 2) :: .int (vi j) :: .ref (ad Z ca r) :: rest)) := by
  obtain ⟨H, G, E⟩ := F
  obtain ⟨H', h1, h2⟩ := enc_ist E (by decide) hv
  exact m_zast G h1 hd hp fun h' G' => k h' ⟨H', G', h2⟩
theorem p_len {N : Nat} {r v : Nat} (F : RepP Z ca h N) (hv : paln N r = some v) (hd : decode bytes pc = .ok (.arraylength, 1)) (hp : pc + 1 = pc')
    (k : OG p l e R s m args below meth c Z own nm bytes ml ret Q kc ks h cells slots (mkF m pc' ls (.int (vi v) :: rest))) : OG p l e R s m args below meth c Z own nm bytes ml ret Q kc ks h cells slots (mkF m pc ls (.ref (ad Z ca r) :: rest)) := by
  obtain ⟨H, G, E⟩ := F
  exact m_len G (enc_aln E hv) hd hp k
theorem p_aald {N : Nat} {r j v : Nat} (F : RepP Z ca h N) (hv : prlo N r j = some v) (hd : decode bytes pc = .ok (.aaload, 1)) (hp : pc + 1 = pc')
    (k : OG p l e R s m args below meth c Z own nm bytes ml ret Q kc ks h cells slots (mkF m pc' ls (.ref (ad Z ca v) :: rest))) : OG p l e R s m args below meth c Z own nm bytes ml ret Q kc ks h cells slots (mkF m pc ls (.int (vi j) :: .ref (ad Z ca r) :: rest)) := by
  obtain ⟨H, G, E⟩ := F
  exact m_aald G (enc_rlo E hv) hd hp k
def prst2 (N r j v : Nat) : Option Nat := bif pisA 0 N v then prst 2 N r j v else none
def prst3 (N r j v : Nat) : Option Nat := bif pisO N v then prst 3 N r j v else none
theorem p_aast2 {N : Nat} {r j v N' : Nat} (F : RepP Z ca h N) (hv : prst2 N r j v = some N') (hd : decode bytes pc = .ok (.aastore, 1)) (hp : pc + 1 = pc')
    (k : ∀ h', RepP Z ca h' N' → OG p l e R s m args below meth c Z own nm bytes ml ret Q kc ks h' cells slots (mkF m pc' ls rest)) : OG p l e R s m args below meth c Z own nm bytes ml ret Q kc ks h cells slots (mkF m pc ls (.ref (ad Z ca v) :: .int (vi j) :: .ref (ad Z ca r) :: rest)) := by
  obtain ⟨H, G, E⟩ := F
  obtain ⟨g1, g2⟩ := own_bif hv
  obtain ⟨H', h1, h2⟩ := enc_rst E (Or.inl rfl) g2
  exact m_aast2 G (by unfold rst2; rw [if_pos (enc_isA E g1)]; exact h1) hd hp fun h' G' => k h' ⟨H', G', h2⟩
theorem p_aast3 {N : Nat} {r j v N' : Nat} (F : RepP Z ca h N) (hca : OCa Z ca) (w1 : (Cond.castable "[I" "java/lang/Object").before a0 Z = true) (w2 : (Cond.castable "java/lang/Integer" "java/lang/Object").before a0 Z = true) (hv : prst3 N r j v = some N') (hd : decode bytes pc = .ok (.aastore, 1)) (hp : pc + 1 = pc')
    (k : ∀ h', RepP Z ca h' N' → OG p l e R s m args below meth c Z own nm bytes ml ret Q kc ks h' cells slots (mkF m pc' ls rest)) : OG p l e R s m args below meth c Z own nm bytes ml ret Q kc ks h cells slots (mkF m pc ls (.ref (ad Z ca v) :: .int (vi j) :: .ref (ad Z ca r) :: rest)) := by
  obtain ⟨H, G, E⟩ := F
  obtain ⟨g1, g2⟩ := own_bif hv
  obtain ⟨H', h1, h2⟩ := enc_rst E (Or.inr rfl) g2
  exact m_aast3 G hca w1 w2 (by unfold rst3; rw [if_pos (enc_isO E g1).1]; exact h1) hd hp fun h' G' => k h' ⟨H', G', h2⟩
theorem p_aastN {N : Nat} {r j N' : Nat} (F : RepP Z ca h N) (hv : prst 3 N r j 0 = some N') (hd : decode bytes pc = .ok (.aastore, 1)) (hp : pc + 1 = pc')
    (k : ∀ h', RepP Z ca h' N' → OG p l e R s m args below meth c Z own nm bytes ml ret Q kc ks h' cells slots (mkF m pc' ls rest)) : OG p l e R s m args below meth c Z own nm bytes ml ret Q kc ks h cells slots (mkF m pc ls (.null :: .int (vi j) :: .ref (ad Z ca r) :: rest)) := by
  obtain ⟨H, G, E⟩ := F
  obtain ⟨H', h1, h2⟩ := enc_rst E (Or.inr rfl) hv
  exact m_aastN G h1 hd hp fun h' G' => k h' ⟨H', G', h2⟩
def pnewI (t N j : Nat) : Option (Nat × Nat) := bif Nat.ble 1 j then (bif Nat.ble j 9 then padd N (pbI t (j - 1)) else none) else none
def pnewQ (t cap N j : Nat) : Option (Nat × Nat) := bif Nat.ble 1 j then (bif Nat.ble j (cap + 1) then padd N (pbQ t (j - 1)) else none) else none
theorem enc_newI {N t j : Nat} {H : List AO} {q : Nat × Nat} (E : Enc N H) (ht : t ≤ 1) (hq : pnewI t N j = some q) : ∃ H', newI t H (vi j) = some (H', q.2) ∧ Enc q.1 H' := by
  obtain ⟨g1, hq⟩ := own_bif hq
  obtain ⟨g2, hq⟩ := own_bif hq
  have g1 := Nat.le_of_ble_eq_true g1
  have g2 := Nat.le_of_ble_eq_true g2
  obtain ⟨k, rfl⟩ : ∃ k, j = k + 1 := ⟨j - 1, by omega⟩
  rw [Nat.add_sub_cancel] at hq
  obtain ⟨b1, b2⟩ := pbI_ok (t := t) (n := k) ht (by omega)
  obtain ⟨H', h1, h2⟩ := enc_add E b1 b2 hq
  obtain ⟨c1, c2⟩ := vi_idx (k := k) (by omega)
  exact ⟨H', by unfold newI; rw [if_neg c1, c2, if_pos (by omega)]; exact h1, h2⟩
theorem enc_newQ {N t cap j : Nat} {H : List AO} {q : Nat × Nat} (E : Enc N H) (ht : t = 2 ∨ t = 3) (hcap : cap ≤ 17) (hq : pnewQ t cap N j = some q) : ∃ H', newQ t cap H (vi j) = some (H', q.2) ∧ Enc q.1 H' := by
  obtain ⟨g1, hq⟩ := own_bif hq
  obtain ⟨g2, hq⟩ := own_bif hq
  have g1 := Nat.le_of_ble_eq_true g1
  have g2 := Nat.le_of_ble_eq_true g2
  obtain ⟨k, rfl⟩ : ∃ k, j = k + 1 := ⟨j - 1, by omega⟩
  rw [Nat.add_sub_cancel] at hq
  obtain ⟨b1, b2⟩ := pbQ_ok (t := t) (n := k) ht (by omega)
  obtain ⟨H', h1, h2⟩ := enc_add E b1 b2 hq
  obtain ⟨c1, c2⟩ := vi_idx (k := k) (by omega)
  exact ⟨H', by unfold newQ; rw [if_neg c1, c2, if_pos (by omega)]; exact h1, h2⟩
theorem p_newI {N : Nat} {j : Nat} {o : Nat × Nat} (F : RepP Z ca h N) (w : (Cond.arrayClass .int).before a0 Z = true) (hv : pnewI 0 N j = some o) (hd : decode bytes pc = .ok (.newarray .int, 2)) (hc : cells + 1 ≤ R.cells) (hl : slots + 8 ≤ R.slots) (hp : pc + 2 = pc')
    (k : ∀ h', RepP Z ca h' o.1 → OG p l e R s m args below meth c Z own nm bytes ml ret Q kc ks h' (cells + 1) (slots + 8) (mkF m pc' ls (.ref (ad Z ca o.2) :: rest))) : OG p l e R s m args below meth c Z own nm bytes ml ret Q kc ks h cells slots (mkF m pc ls (.int (vi j) :: rest)) := by
  obtain ⟨H, G, E⟩ := F
  obtain ⟨H', h1, h2⟩ := enc_newI E (by decide) hv
  exact m_newI G w h1 hd hc hl hp fun h' G' => k h' ⟨H', G', h2⟩
theorem p_newZ {N : Nat} {j : Nat} {o : Nat × Nat} (F : RepP Z ca h N) (w : (Cond.arrayClass .boolean).before a0 Z = true) (hv : pnewI 1 N j = some o) (hd : decode bytes pc = .ok (.newarray .boolean, 2)) (hc : cells + 1 ≤ R.cells) (hl : slots + 8 ≤ R.slots) (hp : pc + 2 = pc')
    (k : ∀ h', RepP Z ca h' o.1 → OG p l e R s m args below meth c Z own nm bytes ml ret Q kc ks h' (cells + 1) (slots + 8) (mkF m pc' ls (.ref (ad Z ca o.2) :: rest))) : OG p l e R s m args below meth c Z own nm bytes ml ret Q kc ks h cells slots (mkF m pc ls (.int (vi j) :: rest)) := by
  obtain ⟨H, G, E⟩ := F
  obtain ⟨H', h1, h2⟩ := enc_newI E (by decide) hv
  exact m_newZ G w h1 hd hc hl hp fun h' G' => k h' ⟨H', G', h2⟩
theorem p_newG {N : Nat} {j index : Nat} {o : Nat × Nat} (F : RepP Z ca h N) (w1 : (Cond.classLink own index "[I").before a0 Z = true) (w2 : (Cond.arrayOver (.array .int)).before a0 Z = true) (hv : pnewQ 2 8 N j = some o) (hd : decode bytes pc = .ok (.anewarray index, 3)) (hc : cells + 1 ≤ R.cells) (hl : slots + 8 ≤ R.slots) (hp : pc + 3 = pc')
    (k : ∀ h', RepP Z ca h' o.1 → OG p l e R s m args below meth c Z own nm bytes ml ret Q kc ks h' (cells + 1) (slots + 8) (mkF m pc' ls (.ref (ad Z ca o.2) :: rest))) : OG p l e R s m args below meth c Z own nm bytes ml ret Q kc ks h cells slots (mkF m pc ls (.int (vi j) :: rest)) := by
  obtain ⟨H, G, E⟩ := F
  obtain ⟨H', h1, h2⟩ := enc_newQ E (Or.inl rfl) (by decide) hv
  exact m_newG G w1 w2 h1 hd hc hl hp fun h' G' => k h' ⟨H', G', h2⟩
theorem p_newR {N : Nat} {j index : Nat} {o : Nat × Nat} (F : RepP Z ca h N) (w1 : (Cond.classLink own index "java/lang/Object").before a0 Z = true) (w2 : (Cond.arrayOver (.object "java/lang/Object")).before a0 Z = true) (hv : pnewQ 3 17 N j = some o) (hd : decode bytes pc = .ok (.anewarray index, 3)) (hc : cells + 1 ≤ R.cells) (hl : slots + 17 ≤ R.slots) (hp : pc + 3 = pc')
    (k : ∀ h', RepP Z ca h' o.1 → OG p l e R s m args below meth c Z own nm bytes ml ret Q kc ks h' (cells + 1) (slots + 17) (mkF m pc' ls (.ref (ad Z ca o.2) :: rest))) : OG p l e R s m args below meth c Z own nm bytes ml ret Q kc ks h cells slots (mkF m pc ls (.int (vi j) :: rest)) := by
  obtain ⟨H, G, E⟩ := F
  obtain ⟨H', h1, h2⟩ := enc_newQ E (Or.inr rfl) (by decide) hv
  exact m_newR G w1 w2 h1 hd hc hl hp fun h' G' => k h' ⟨H', G', h2⟩
theorem p_new4 {N : Nat} {index kk : Nat} {C0 : String} {o : Nat × Nat} (F : RepP Z ca h N) (Y : Lay Z a0 4) (hC : (ocl 4).1 = C0) (w : (Cond.classLink own index C0).before a0 Z = true) (wi : (Cond.instantiable C0 kk).before a0 Z = true) (wz : (Cond.initialized C0).before a0 Z = true) (hv : padd N pb4 = some o) (hd : decode bytes pc = .ok (.new index, 3)) (hc : cells + 1 ≤ R.cells) (hl : slots + kk ≤ R.slots) (hp : pc + 3 = pc')
    (k : ∀ h', RepP Z ca h' o.1 → OG p l e R s m args below meth c Z own nm bytes ml ret Q kc ks h' (cells + 1) (slots + kk) (mkF m pc' ls (.ref (ad Z ca o.2) :: st))) : OG p l e R s m args below meth c Z own nm bytes ml ret Q kc ks h cells slots (mkF m pc ls st) := by
  obtain ⟨H, G, E⟩ := F
  obtain ⟨H', h1, h2⟩ := enc_add E pb4_ok.1 pb4_ok.2 hv
  exact m_newO (t := 0) (ni := 1) (nr := 6) G Y hC w wi wz h1 hd hc hl hp fun h' G' => k h' ⟨H', G', h2⟩
theorem p_new5 {N : Nat} {index kk : Nat} {C0 : String} {o : Nat × Nat} (F : RepP Z ca h N) (Y : Lay Z a0 5) (hC : (ocl 5).1 = C0) (w : (Cond.classLink own index C0).before a0 Z = true) (wi : (Cond.instantiable C0 kk).before a0 Z = true) (wz : (Cond.initialized C0).before a0 Z = true) (hv : padd N pb5 = some o) (hd : decode bytes pc = .ok (.new index, 3)) (hc : cells + 1 ≤ R.cells) (hl : slots + kk ≤ R.slots) (hp : pc + 3 = pc')
    (k : ∀ h', RepP Z ca h' o.1 → OG p l e R s m args below meth c Z own nm bytes ml ret Q kc ks h' (cells + 1) (slots + kk) (mkF m pc' ls (.ref (ad Z ca o.2) :: st))) : OG p l e R s m args below meth c Z own nm bytes ml ret Q kc ks h cells slots (mkF m pc ls st) := by
  obtain ⟨H, G, E⟩ := F
  obtain ⟨H', h1, h2⟩ := enc_add E pb5_ok.1 pb5_ok.2 hv
  exact m_newO (t := 1) (ni := 2) (nr := 1) G Y hC w wi wz h1 hd hc hl hp fun h' G' => k h' ⟨H', G', h2⟩
theorem p_getR {N : Nat} {t i r x index : Nat} {n d C0 : String} (F : RepP Z ca h N) (ht : t = 0 ∨ t = 1) (hb : i < pnr (t + 4)) (hv : pgfr (t + 4) N r i = some x) (hi : nth (ocl (t + 4)).2.1 i = some (n, d)) (hC : (ocl (t + 4)).1 = C0) (w : (Cond.fieldLink own index C0 n d).before a0 Z = true) (hd : decode bytes pc = .ok (.getfield index, 3)) (hp : pc + 3 = pc')
    (k : OG p l e R s m args below meth c Z own nm bytes ml ret Q kc ks h cells slots (mkF m pc' ls (.ref (ad Z ca x) :: rest))) : OG p l e R s m args below meth c Z own nm bytes ml ret Q kc ks h cells slots (mkF m pc ls (.ref (ad Z ca r) :: rest)) := by
  obtain ⟨H, G, E⟩ := F
  exact m_getR G (enc_gfr E (by rcases ht with rfl | rfl; exact Or.inl rfl; exact Or.inr rfl) hb hv) hi hC w hd hp k
theorem p_getI {N : Nat} {t i r x index : Nat} {n d C0 : String} (F : RepP Z ca h N) (ht : t = 0 ∨ t = 1) (hb : i < pni (t + 4)) (hv : pgfi (t + 4) N r i = some x) (hi : nth (ocl (t + 4)).2.2 i = some (n, d)) (hC : (ocl (t + 4)).1 = C0) (w : (Cond.fieldLink own index C0 n d).before a0 Z = true) (hd : decode bytes pc = .ok (.getfield index, 3)) (hp : pc + 3 = pc')
    (k : OG p l e R s m args below meth c Z own nm bytes ml ret Q kc ks h cells slots (mkF m pc' ls (.int (vi x) :: rest))) : OG p l e R s m args below meth c Z own nm bytes ml ret Q kc ks h cells slots (mkF m pc ls (.ref (ad Z ca r) :: rest)) := by
  obtain ⟨H, G, E⟩ := F
  exact m_getI G (enc_gfi E (by rcases ht with rfl | rfl; exact Or.inl rfl; exact Or.inr rfl) hb hv) hi hC w hd hp k
theorem p_putR {N : Nat} {t i r x index kk N' : Nat} {n d C0 : String} (F : RepP Z ca h N) (Y : Lay Z a0 (t + 4)) (ht : t = 0 ∨ t = 1) (hb : i < pnr (t + 4)) (hv : ppfr (t + 4) N r i x = some N') (hi : nth (ocl (t + 4)).2.1 i = some (n, d)) (hC : (ocl (t + 4)).1 = C0) (w : (Cond.fieldLink own index C0 n d).before a0 Z = true) (L : (Cond.lays C0 C0 n d).before a0 Z = true ∨ ((Cond.laysFinal C0 C0 n d).before a0 Z = true ∧ own = C0 ∧ nm = "<init>")) (wi : (Cond.instantiable C0 kk).before a0 Z = true) (hd : decode bytes pc = .ok (.putfield index, 3)) (hp : pc + 3 = pc')
    (k : ∀ h', RepP Z ca h' N' → OG p l e R s m args below meth c Z own nm bytes ml ret Q kc ks h' cells slots (mkF m pc' ls rest)) : OG p l e R s m args below meth c Z own nm bytes ml ret Q kc ks h cells slots (mkF m pc ls (.ref (ad Z ca x) :: .ref (ad Z ca r) :: rest)) := by
  obtain ⟨H, G, E⟩ := F
  obtain ⟨H', h1, h2⟩ := enc_pfr E (by rcases ht with rfl | rfl; exact Or.inl rfl; exact Or.inr rfl) hb hv
  exact m_putR G Y h1 hi hC w L wi hd hp fun h' G' => k h' ⟨H', G', h2⟩
theorem p_putI {N : Nat} {t i r x index kk N' : Nat} {n d C0 : String} (F : RepP Z ca h N) (Y : Lay Z a0 (t + 4)) (ht : t = 0 ∨ t = 1) (hb : i < pni (t + 4)) (hv : ppfi (t + 4) N r i x = some N') (hi : nth (ocl (t + 4)).2.2 i = some (n, d)) (hC : (ocl (t + 4)).1 = C0) (w : (Cond.fieldLink own index C0 n d).before a0 Z = true) (L : (Cond.lays C0 C0 n d).before a0 Z = true ∨ ((Cond.laysFinal C0 C0 n d).before a0 Z = true ∧ own = C0 ∧ nm = "<init>")) (wi : (Cond.instantiable C0 kk).before a0 Z = true) (hd : decode bytes pc = .ok (.putfield index, 3)) (hp : pc + 3 = pc')
    (k : ∀ h', RepP Z ca h' N' → OG p l e R s m args below meth c Z own nm bytes ml ret Q kc ks h' cells slots (mkF m pc' ls rest)) : OG p l e R s m args below meth c Z own nm bytes ml ret Q kc ks h cells slots (mkF m pc ls (.int (vi x) :: .ref (ad Z ca r) :: rest)) := by
  obtain ⟨H, G, E⟩ := F
  obtain ⟨H', h1, h2⟩ := enc_pfi E (by rcases ht with rfl | rfl; exact Or.inl rfl; exact Or.inr rfl) hb hv
  exact m_putI G Y h1 hi hC w L wi hd hp fun h' G' => k h' ⟨H', G', h2⟩
theorem p_castA {N : Nat} {r index : Nat} (F : RepP Z ca h N) (q : pisA 0 N r = true) (w : (Cond.classLink own index "[I").before a0 Z = true) (hd : decode bytes pc = .ok (.checkcast index, 3)) (hp : pc + 3 = pc')
    (k : OG p l e R s m args below meth c Z own nm bytes ml ret Q kc ks h cells slots (mkF m pc' ls (.ref (ad Z ca r) :: rest))) : OG p l e R s m args below meth c Z own nm bytes ml ret Q kc ks h cells slots (mkF m pc ls (.ref (ad Z ca r) :: rest)) := by
  obtain ⟨H, G, E⟩ := F
  exact m_castA G (enc_isA E q) w hd hp k
def pcp (N r x : Nat) : Nat → Option Nat
  | 0 => some N
  | k + 1 => (pcp N r x k).bind fun M => (pilo 0 N r (k + 1)).bind fun v => pist 0 M x (k + 1) v
def pcpy (N r x n : Nat) : Option Nat := bif pisA 0 N r then (bif pisA 0 N x then (bif Nat.ble 1 n then (bif Nat.ble n 20 then pcp N r x (n - 1) else none) else none) else none) else none
theorem own_tk {α : Type} {xs ys : List α} {k : Nat} (h1 : k < xs.length) (h2 : k < ys.length) : (xs.take k ++ ys.drop k).set k xs[k] = xs.take (k + 1) ++ ys.drop (k + 1) := by
  have e : (xs.take k).length = k := by rw [List.length_take]; omega
  have t : xs.take (k + 1) = xs.take k ++ [xs[k]] := by rw [List.take_add_one, List.getElem?_eq_getElem h1]; rfl
  rw [List.set_append_right _ _ (by omega), e, Nat.sub_self, List.drop_eq_getElem_cons h2, List.set_cons_zero, t, List.append_assoc]
  rfl
theorem enc_cp {N r x : Nat} {H : List AO} {xs ys : List Int32} (E : Enc N H) (gr : hget H r = some (0, xs, [])) (gx : hget H x = some (0, ys, [])) : ∀ {k M : Nat}, pcp N r x k = some M → k ≤ xs.length ∧ k ≤ ys.length ∧ Enc M (H.set (x - 1) (0, xs.take k ++ ys.drop k, [])) := by
  intro k
  induction k with
  | zero =>
    intro M q
    cases q
    refine ⟨Nat.zero_le _, Nat.zero_le _, ?_⟩
    have : H.set (x - 1) (0, xs.take 0 ++ ys.drop 0, []) = H := by
      cases x with
      | zero => cases gx
      | succ x =>
        have g' : H[x]? = some (0, ys, []) := by rw [← nth_eq]; exact gx
        obtain ⟨hx, e⟩ := List.getElem?_eq_some_iff.mp g'
        show H.set x (0, ys, []) = H
        rw [← e, List.set_getElem_self]
    rw [this]
    exact E
  | succ k ih =>
    intro M q
    obtain ⟨M1, q1, q⟩ := own_bind q
    obtain ⟨v, q2, q3⟩ := own_bind q
    obtain ⟨k1, k2, E1⟩ := ih q1
    have i1 := enc_ilo E (by decide) q2
    obtain ⟨H2, i2, E2⟩ := enc_ist E1 (by decide) q3
    have hk : k < 1000 := by
      have hb := E.2.2.2.2
      cases r with
      | zero => cases gr
      | succ r =>
        have := (hb r _ gr).2.1
        dsimp only at this
        omega
    obtain ⟨c1, c2⟩ := vi_idx hk
    unfold ilo gt at i1
    rw [gr] at i1
    have i1 : (if (0 : Nat) = 0 then (if vi (k + 1) < 0 then none else nth xs (vi (k + 1)).toNatClampNeg) else none) = some (vi v) := i1
    rw [if_pos rfl, if_neg c1, c2] at i1
    have hx : k < xs.length := own_lt i1
    have ex : xs[k] = vi v := by rw [own_get hx] at i1; exact Option.some.inj i1
    obtain ⟨⟨t, zs, rs⟩, g1, g2⟩ := own_bind i2
    have gz : hget (H.set (x - 1) (0, xs.take k ++ ys.drop k, [])) x = some (0, xs.take k ++ ys.drop k, []) := by
      cases x with
      | zero => cases gx
      | succ x =>
        have g' : nth H x = some (0, ys, []) := gx
        have hl := own_lt g'
        show nth (H.set x _) x = _
        rw [nth_eq, List.getElem?_set, if_pos rfl, if_pos hl]
    cases gz.symm.trans g1
    obtain ⟨-, g2⟩ := own_ite g2
    dsimp only at g2
    obtain ⟨-, g2⟩ := own_nite g2
    obtain ⟨g3, g2⟩ := own_ite g2
    cases g2
    rw [c2] at g3 E2
    have hl : (xs.take k ++ ys.drop k).length = ys.length := by rw [List.length_append, List.length_take, List.length_drop]; omega
    rw [hl] at g3
    rw [List.set_set, ← ex, own_tk hx g3] at E2
    exact ⟨hx, g3, E2⟩
theorem p_cpy {N N' r x n index W : Nat} (F : RepP Z ca h N) (hz : h.size = s.heap.size + cells) (w1 : (Cond.methodLink own index Jvm.Stand.acN).before a0 Z = true) (w2 : (Cond.native Jvm.Stand.acN).before a0 Z = true) (w3 : (Cond.static Jvm.Stand.acN).before a0 Z = true) (w4 : (Cond.initialized "java/lang/System").before a0 Z = true)
    (hv : pcpy N r x n = some N') (hd : decode bytes pc = .ok (.invokestatic index, 3)) (hsz : ls.size = ml) (hW : (rest.map fun v => v.category).sum ≤ W) (hf : 1 ≤ R.frames) (hl : W + 18 ≤ R.locals) (hp : pc + 3 = pc')
    (k : ∀ h', RepP Z ca h' N' → OG p l e R s m args below meth c Z own nm bytes ml ret Q kc ks h' cells slots (mkF m pc' ls rest)) : OG p l e R s m args below meth c Z own nm bytes ml ret Q kc ks h cells slots (mkF m pc ls (.int (vi n) :: .int (vi 1) :: .ref (ad Z ca x) :: .int (vi 1) :: .ref (ad Z ca r) :: rest)) := by
  obtain ⟨H, G, E⟩ := F
  obtain ⟨q1, hv⟩ := own_bif hv
  obtain ⟨q2, hv⟩ := own_bif hv
  obtain ⟨q3, hv⟩ := own_bif hv
  obtain ⟨q4, hv⟩ := own_bif hv
  have q3 := Nat.le_of_ble_eq_true q3
  have q4 := Nat.le_of_ble_eq_true q4
  obtain ⟨i, rfl⟩ : ∃ i, n = i + 1 := ⟨n - 1, by omega⟩
  rw [Nat.add_sub_cancel] at hv
  obtain ⟨xs, rs, g, O, -, -⟩ := E.get q1
  obtain ⟨ys, rs', g', O', -, -⟩ := E.get q2
  obtain ⟨rfl, -, -, -⟩ := O.ints (by decide)
  obtain ⟨rfl, -, -, -⟩ := O'.ints (by decide)
  obtain ⟨k1, k2, E'⟩ := enc_cp E g g' hv
  obtain ⟨c1, c2⟩ := vi_idx (k := i) (by omega)
  refine m_cpy G hz w1 w2 w3 w4 (H' := H.set (x - 1) (0, xs.take i ++ ys.drop i, [])) ?_ hd hsz hW hf hl hp fun h' G' => k h' ⟨_, G', E'⟩
  unfold cpy
  rw [g, g']
  show (if (0 : Nat) = 0 then (if (0 : Nat) = 0 then (if vi (i + 1) < 0 then none else if (vi (i + 1)).toNatClampNeg ≤ xs.length then (if (vi (i + 1)).toNatClampNeg ≤ ys.length then some _ else none) else none) else none) else none) = _
  rw [if_pos rfl, if_pos rfl, if_neg c1, c2, if_pos k1, if_pos k2]
theorem padd_len {N B : Nat} {q : Nat × Nat} (h : padd N B = some q) : dig q.1 1 = dig N 1 + 1 := by
  obtain ⟨g1, g2⟩ := own_bif h
  cases g2
  have hv : dig N 1 < 500 := Nat.le_of_ble_eq_true g1
  show dig (setd N 1 (dig N 1 + 1) + (B <<< (12 * (20 * (dig N 1 + 1))))) 1 = _
  rw [Nat.shiftLeft_eq, own_p12, Nat.add_comm, Nat.mul_comm, dig_lo (by omega), dig_setd (by omega), if_pos rfl]
theorem pnewI_len {t N j : Nat} {q : Nat × Nat} (h : pnewI t N j = some q) : dig q.1 1 = dig N 1 + 1 := by
  obtain ⟨-, h⟩ := own_bif h
  obtain ⟨-, h⟩ := own_bif h
  exact padd_len h
theorem RepP.size {N : Nat} (F : RepP Z ca h N) : h.size = Z.heap.size + dig N 1 := by
  obtain ⟨H, G, E⟩ := F
  rw [G.2.1, E.2.1]
def pival (r : Nat) : Option Nat := bif Nat.ble 1127 r then (bif Nat.blt r 1256 then some (r - 1127) else none) else none
def pvof (z : Nat) : Option Nat := bif Nat.ble z 128 then some (1127 + z) else none
set_option maxRecDepth 65536 in
theorem own_pival {r z : Nat} (q : pival r = some z) : ival r = some (vi z) := by
  obtain ⟨q1, q⟩ := own_bif q
  obtain ⟨q2, q⟩ := own_bif q
  have q := Option.some.inj q
  subst q
  have q1 := Nat.le_of_ble_eq_true q1
  have q2 : r < 1256 := Nat.le_of_ble_eq_true q2
  obtain ⟨k, hk, hk2⟩ : ∃ k, k < 129 ∧ r = k + 1127 := ⟨r - 1127, by omega, by omega⟩
  have e1 : r - 1127 = k := by omega
  have e2 : r - 1000 = k + 127 := by omega
  have e3 := (by decide +kernel : ∀ k : Fin 129, Int32.ofNat (k.val + 127) - 128 = vi k.val) ⟨k, hk⟩
  have e4 : 1000 ≤ r ∧ r < 1256 := ⟨by omega, q2⟩
  unfold ival
  rw [if_pos e4, e1, e2]
  exact congrArg some e3
set_option maxRecDepth 65536 in
theorem own_pvof {z r : Nat} (q : pvof z = some r) : vof (vi z) = some r := by
  obtain ⟨q1, q⟩ := own_bif q
  have q := Option.some.inj q
  subst q
  have q1 := Nat.le_of_ble_eq_true q1
  exact (by decide +kernel : ∀ k : Fin 129, vof (vi k.val) = some (1127 + k.val)) ⟨z, by omega⟩
theorem own_enc0 (Z : State) (ca : Nat → Addr) : RepP Z ca Z.heap 0 := ⟨[], ⟨⟨Nat.le_refl _, fun _ _ q => q⟩, rfl, by decide, fun k o q => by cases k <;> cases q⟩, by decide +kernel, by decide +kernel, by decide, by decide +kernel, fun k o q => by cases k <;> cases q⟩
end PakKit
section FastKit
/-! the same operations, with their continuation, in the form that the kernel runs fast -/
def gd (b : Bool) (x : Option (Nat × Nat)) : Option (Nat × Nat) := Bool.casesOn (motive := fun _ => Option (Nat × Nat)) b none x
def br {α : Type} (b : Bool) (x y : α) : α := Bool.casesOn (motive := fun _ => α) b y x
def bdN (x : Option Nat) (f : Nat → Option (Nat × Nat)) : Option (Nat × Nat) := Option.casesOn (motive := fun _ => Option (Nat × Nat)) x none f
def bdP (x : Option (Nat × Nat)) (f : Nat → Nat → Option (Nat × Nat)) : Option (Nat × Nat) := Option.casesOn (motive := fun _ => Option (Nat × Nat)) x none (fun pp => Prod.casesOn (motive := fun _ => Option (Nat × Nat)) pp f)
def plt (a b : Nat) (x y : Option (Nat × Nat)) : Option (Nat × Nat) := Bool.casesOn (motive := fun _ => Option (Nat × Nat)) (Nat.ble (Nat.add a b) 1000) none (Bool.casesOn (motive := fun _ => Option (Nat × Nat)) (Nat.ble (Nat.succ a) b) y x)
def peq (a b : Nat) (x y : Option (Nat × Nat)) : Option (Nat × Nat) := Bool.casesOn (motive := fun _ => Option (Nat × Nat)) (Nat.ble (Nat.add a b) 1000) none (Bool.casesOn (motive := fun _ => Option (Nat × Nat)) (Nat.beq a b) y x)
theorem own_gd {b : Bool} {x : Option (Nat × Nat)} {r : Nat × Nat} (q : gd b x = some r) : b = true ∧ x = some r := by
  cases b
  · cases q
  · exact ⟨rfl, q⟩
theorem own_bdN {x : Option Nat} {f : Nat → Option (Nat × Nat)} {r : Nat × Nat} (q : bdN x f = some r) : ∃ a, x = some a ∧ f a = some r := by
  cases x with
  | none => cases q
  | some a => exact ⟨a, rfl, q⟩
theorem own_bdP {x : Option (Nat × Nat)} {f : Nat → Nat → Option (Nat × Nat)} {r : Nat × Nat} (q : bdP x f = some r) : ∃ a : Nat × Nat, x = some a ∧ f a.1 a.2 = some r := by
  cases x with
  | none => cases q
  | some a => exact ⟨a, rfl, q⟩
theorem own_plt {a b : Nat} {x y : Option (Nat × Nat)} {r : Nat × Nat} (q : plt a b x y = some r) : Nat.ble (a + b) 1000 = true ∧ (bif Nat.blt a b then x else y) = some r := by
  obtain ⟨h1, h2⟩ := own_gd (b := Nat.ble (a + b) 1000) (x := Bool.casesOn (motive := fun _ => Option (Nat × Nat)) (Nat.ble (Nat.succ a) b) y x) q
  refine ⟨h1, ?_⟩
  show (bif Nat.ble (Nat.succ a) b then x else y) = some r
  cases z : Nat.ble (Nat.succ a) b <;> rw [z] at h2 <;> exact h2
theorem own_peq {a b : Nat} {x y : Option (Nat × Nat)} {r : Nat × Nat} (q : peq a b x y = some r) : Nat.ble (a + b) 1000 = true ∧ (bif Nat.beq a b then x else y) = some r := by
  obtain ⟨h1, h2⟩ := own_gd (b := Nat.ble (a + b) 1000) (x := Bool.casesOn (motive := fun _ => Option (Nat × Nat)) (Nat.beq a b) y x) q
  refine ⟨h1, ?_⟩
  cases z : Nat.beq a b <;> rw [z] at h2 <;> exact h2
/-! arithmetic on codes -/
def kad (a b : Nat) (k : Nat → Option (Nat × Nat)) : Option (Nat × Nat) := Bool.casesOn (motive := fun _ => Option (Nat × Nat)) (Nat.ble 1 (Nat.add a b)) none (k (Nat.sub (Nat.add a b) 1))
def kdc (a : Nat) (k : Nat → Option (Nat × Nat)) : Option (Nat × Nat) := Bool.casesOn (motive := fun _ => Option (Nat × Nat)) (Nat.ble 1 a) none (k (Nat.sub a 1))
def khf (a : Nat) (k : Nat → Option (Nat × Nat)) : Option (Nat × Nat) := Bool.casesOn (motive := fun _ => Option (Nat × Nat)) (Nat.ble 1 a) none (Bool.casesOn (motive := fun _ => Option (Nat × Nat)) (Nat.ble a 1000) none (k (Nat.succ (Nat.div (Nat.sub a 1) 2))))
def krm (n a : Nat) (k : Nat → Option (Nat × Nat)) : Option (Nat × Nat) := Bool.casesOn (motive := fun _ => Option (Nat × Nat)) (Nat.ble 1 a) none (Bool.casesOn (motive := fun _ => Option (Nat × Nat)) (Nat.ble a 1000) none (k (Nat.succ (Nat.mod (Nat.sub a 1) n))))
theorem own_kad {a b : Nat} {k : Nat → Option (Nat × Nat)} {r : Nat × Nat} (q : kad a b k = some r) : ∃ z, vi a + vi b = vi z ∧ k z = some r := by
  obtain ⟨h1, h2⟩ := own_gd q
  exact ⟨_, vi_add h1, h2⟩
theorem own_kdc {a : Nat} {k : Nat → Option (Nat × Nat)} {r : Nat × Nat} (q : kdc a k = some r) : ∃ z, vi a - vi 2 = vi z ∧ k z = some r := by
  obtain ⟨h1, h2⟩ := own_gd q
  exact ⟨_, vi_dec h1, h2⟩
theorem own_kdi {a : Nat} {k : Nat → Option (Nat × Nat)} {r : Nat × Nat} (q : kdc a k = some r) : ∃ z, vi a + vi 0 = vi z ∧ k z = some r := by
  obtain ⟨h1, h2⟩ := own_gd q
  exact ⟨_, vi_decI h1, h2⟩
theorem own_khf {a : Nat} {k : Nat → Option (Nat × Nat)} {r : Nat × Nat} (q : khf a k = some r) : ∃ z, vi a / vi 3 = vi z ∧ k z = some r := by
  obtain ⟨h1, h2⟩ := own_gd q
  obtain ⟨h3, h4⟩ := own_gd h2
  exact ⟨_, vi_half h1 h3, h4⟩
theorem own_kus {a : Nat} {k : Nat → Option (Nat × Nat)} {r : Nat × Nat} (q : khf a k = some r) : ∃ z, XT.ushr (vi a) (vi 2) = vi z ∧ k z = some r := by
  obtain ⟨h1, h2⟩ := own_gd q
  obtain ⟨h3, h4⟩ := own_gd h2
  exact ⟨_, vi_ushr h1 h3, h4⟩
theorem own_krm {n m a : Nat} {k : Nat → Option (Nat × Nat)} {r : Nat × Nat} (q : krm n a k = some r) (h5 : 1 ≤ n) (h6 : n ≤ 900) (h7 : m = n + 1) : ∃ z, vi a % vi m = vi z ∧ k z = some r := by
  obtain ⟨h1, h2⟩ := own_gd q
  obtain ⟨h3, h4⟩ := own_gd h2
  subst h7
  exact ⟨_, vi_rem h1 h3 h5 h6, h4⟩
theorem vi_addc {m c a : Nat} (h : m = c + 1) : vi m + vi a = vi (Nat.add a c) := by
  subst h
  rw [vi_add (Nat.ble_eq_true_of_le (by omega))]
  congr 1
  show c + 1 + a - 1 = a + c
  omega
theorem own_pk {a b : Nat} (h : Nat.blt b 1000 = true) : Nat.div (Nat.add (Nat.mul 1000 a) b) 1000 = a ∧ Nat.mod (Nat.add (Nat.mul 1000 a) b) 1000 = b := by
  have h : b < 1000 := Nat.le_of_ble_eq_true h
  show (1000 * a + b) / 1000 = a ∧ (1000 * a + b) % 1000 = b
  omega
/-! the heap -/
theorem own_D (N r k : Nat) : Nat.mod (Nat.shiftRight (Nat.shiftRight N (Nat.mul 240 r)) (Nat.mul 12 k)) 4096 = dig N (20 * r + k) := by
  show (N >>> (240 * r)) >>> (12 * k) % 4096 = N >>> (12 * (20 * r + k)) % 4096
  rw [← Nat.shiftRight_add, show 240 * r + 12 * k = 12 * (20 * r + k) by omega]
theorem own_D0 (N r : Nat) : Nat.mod (Nat.shiftRight N (Nat.mul 240 r)) 4096 = dig N (20 * r) := own_D N r 0
theorem own_D1 (N r : Nat) : Nat.mod (Nat.shiftRight (Nat.shiftRight N (Nat.mul 240 r)) 12) 4096 = dig N (20 * r + 1) := own_D N r 1
def fsd (N p v : Nat) : Nat := Nat.add (Nat.sub N (Nat.shiftLeft (Nat.mod (Nat.shiftRight N p) 4096) p)) (Nat.shiftLeft v p)
theorem own_fsd (N r k v : Nat) : fsd N (Nat.add (Nat.mul 240 r) (Nat.mul 12 k)) v = setd N (20 * r + k) v := by
  have e : Nat.add (Nat.mul 240 r) (Nat.mul 12 k) = Nat.mul 12 (20 * r + k) := by
    show 240 * r + 12 * k = 12 * (20 * r + k)
    omega
  unfold fsd setd dig
  rw [e]
def kil (t D j : Nat) (k : Nat → Option (Nat × Nat)) : Option (Nat × Nat) := Bool.casesOn (motive := fun _ => Option (Nat × Nat)) (Nat.beq (Nat.mod D 4096) (Nat.succ t)) none (Bool.casesOn (motive := fun _ => Option (Nat × Nat)) (Nat.ble 1 j) none (Bool.casesOn (motive := fun _ => Option (Nat × Nat)) (Nat.ble j (Nat.mod (Nat.shiftRight D 12) 4096)) none (k (Nat.mod (Nat.shiftRight D (Nat.mul 12 (Nat.succ j))) 4096))))
def kilo (t N r j : Nat) (k : Nat → Option (Nat × Nat)) : Option (Nat × Nat) := kil t (Nat.shiftRight N (Nat.mul 240 r)) j k
theorem own_cond {α : Type} {b : Bool} {x y : α} (h : b = true) : (bif b then x else y) = x := by subst h; rfl
theorem own_kilo {t N r j : Nat} {k : Nat → Option (Nat × Nat)} {res : Nat × Nat} (q : kilo t N r j k = some res) : ∃ x, pilo t N r j = some x ∧ k x = some res := by
  obtain ⟨h1, q⟩ := own_gd q
  obtain ⟨h2, q⟩ := own_gd q
  obtain ⟨h3, q⟩ := own_gd q
  rw [own_D0] at h1
  rw [own_D1] at h3
  rw [own_D] at q
  refine ⟨_, ?_, q⟩
  unfold pilo
  rw [own_cond h1, own_cond h2, own_cond h3, show 20 * r + 1 + j = 20 * r + Nat.succ j by omega]
def kis (t N P D j v : Nat) (k : Nat → Option (Nat × Nat)) : Option (Nat × Nat) := Bool.casesOn (motive := fun _ => Option (Nat × Nat)) (Nat.beq (Nat.mod D 4096) (Nat.succ t)) none (Bool.casesOn (motive := fun _ => Option (Nat × Nat)) (Nat.ble 1 j) none (Bool.casesOn (motive := fun _ => Option (Nat × Nat)) (Nat.ble j (Nat.mod (Nat.shiftRight D 12) 4096)) none (Bool.casesOn (motive := fun _ => Option (Nat × Nat)) (Nat.ble (Nat.succ v) 4096) none (k (fsd N (Nat.add P (Nat.mul 12 (Nat.succ j))) v)))))
def kist (t N r j v : Nat) (k : Nat → Option (Nat × Nat)) : Option (Nat × Nat) := kis t N (Nat.mul 240 r) (Nat.shiftRight N (Nat.mul 240 r)) j v k
theorem own_kist {t N r j v : Nat} {k : Nat → Option (Nat × Nat)} {res : Nat × Nat} (q : kist t N r j v k = some res) : ∃ x, pist t N r j v = some x ∧ k x = some res := by
  obtain ⟨h1, q⟩ := own_gd q
  obtain ⟨h2, q⟩ := own_gd q
  obtain ⟨h3, q⟩ := own_gd q
  obtain ⟨h4, q⟩ := own_gd q
  rw [own_D0] at h1
  rw [own_D1] at h3
  rw [own_fsd] at q
  refine ⟨_, ?_, q⟩
  unfold pist
  rw [own_cond h1, own_cond h2, own_cond h3, own_cond (show Nat.blt v 4096 = true from h4), show 20 * r + (1 + j) = 20 * r + Nat.succ j by omega]
theorem own_krst {t N r j v : Nat} {k : Nat → Option (Nat × Nat)} {res : Nat × Nat} (q : kist t N r j v k = some res) : ∃ x, prst t N r j v = some x ∧ k x = some res := own_kist q
def kal (D : Nat) (k : Nat → Option (Nat × Nat)) : Option (Nat × Nat) := Bool.casesOn (motive := fun _ => Option (Nat × Nat)) (Nat.ble 1 (Nat.mod D 4096)) none (Bool.casesOn (motive := fun _ => Option (Nat × Nat)) (Nat.ble (Nat.mod D 4096) 4) none (Bool.casesOn (motive := fun _ => Option (Nat × Nat)) (Nat.beq (Nat.mod D 4096) 2) (k (Nat.succ (Nat.mod (Nat.shiftRight D 12) 4096))) none))
def kaln (N r : Nat) (k : Nat → Option (Nat × Nat)) : Option (Nat × Nat) := kal (Nat.shiftRight N (Nat.mul 240 r)) k
theorem own_nbr {b : Bool} {x : Option (Nat × Nat)} {r : Nat × Nat} (q : br b none x = some r) : b = false ∧ x = some r := by
  cases b
  · exact ⟨rfl, q⟩
  · cases q
theorem own_kaln {N r : Nat} {k : Nat → Option (Nat × Nat)} {res : Nat × Nat} (q : kaln N r k = some res) : ∃ x, paln N r = some x ∧ k x = some res := by
  obtain ⟨h1, q⟩ := own_gd q
  obtain ⟨h2, q⟩ := own_gd q
  obtain ⟨h3, q⟩ := own_nbr q
  rw [own_D0] at h1 h2 h3
  rw [own_D1] at q
  refine ⟨_, ?_, q⟩
  unfold paln
  rw [h1, h2, h3]
  rfl
def krl (D j : Nat) (k : Nat → Option (Nat × Nat)) : Option (Nat × Nat) := Bool.casesOn (motive := fun _ => Option (Nat × Nat)) (Nat.ble 3 (Nat.mod D 4096)) none (Bool.casesOn (motive := fun _ => Option (Nat × Nat)) (Nat.ble (Nat.mod D 4096) 4) none (Bool.casesOn (motive := fun _ => Option (Nat × Nat)) (Nat.ble 1 j) none (Bool.casesOn (motive := fun _ => Option (Nat × Nat)) (Nat.ble j (Nat.mod (Nat.shiftRight D 12) 4096)) none (Bool.casesOn (motive := fun _ => Option (Nat × Nat)) (Nat.beq (Nat.mod (Nat.shiftRight D (Nat.mul 12 (Nat.succ j))) 4096) 0) (k (Nat.mod (Nat.shiftRight D (Nat.mul 12 (Nat.succ j))) 4096)) none))))
def krlo (N r j : Nat) (k : Nat → Option (Nat × Nat)) : Option (Nat × Nat) := krl (Nat.shiftRight N (Nat.mul 240 r)) j k
theorem own_krlo {N r j : Nat} {k : Nat → Option (Nat × Nat)} {res : Nat × Nat} (q : krlo N r j k = some res) : ∃ x, prlo N r j = some x ∧ k x = some res := by
  obtain ⟨h1, q⟩ := own_gd q
  obtain ⟨h2, q⟩ := own_gd q
  obtain ⟨h3, q⟩ := own_gd q
  obtain ⟨h4, q⟩ := own_gd q
  obtain ⟨h5, q⟩ := own_nbr q
  rw [own_D0] at h1 h2
  rw [own_D1] at h4
  rw [own_D] at h5 q
  refine ⟨_, ?_, q⟩
  unfold prlo
  rw [h1, h2, h3, show 20 * r + 1 + j = 20 * r + Nat.succ j by omega]
  show (bif Nat.ble j (dig N (20 * r + 1)) then (bif Nat.beq (dig N (20 * r + Nat.succ j)) 0 then none else some (dig N (20 * r + Nat.succ j))) else none) = _
  rw [h4, h5]
  rfl
def kisA (t N r : Nat) (x : Option (Nat × Nat)) : Option (Nat × Nat) := Bool.casesOn (motive := fun _ => Option (Nat × Nat)) (Nat.beq (Nat.mod (Nat.shiftRight N (Nat.mul 240 r)) 4096) (Nat.succ t)) none x
theorem own_kisA {t N r : Nat} {x : Option (Nat × Nat)} {res : Nat × Nat} (q : kisA t N r x = some res) : pisA t N r = true ∧ x = some res := by
  obtain ⟨h1, q⟩ := own_gd q
  rw [own_D0] at h1
  exact ⟨h1, q⟩
def kgf (t i N r : Nat) (k : Nat → Option (Nat × Nat)) : Option (Nat × Nat) := kisA t N r (k (Nat.mod (Nat.shiftRight N (Nat.add (Nat.mul 240 r) i)) 4096))
theorem own_E (N r k : Nat) : Nat.mod (Nat.shiftRight N (Nat.add (Nat.mul 240 r) (Nat.mul 12 k))) 4096 = dig N (20 * r + k) := by
  show N >>> (240 * r + 12 * k) % 4096 = N >>> (12 * (20 * r + k)) % 4096
  rw [show 240 * r + 12 * k = 12 * (20 * r + k) by omega]
theorem own_kgf {t i m N r : Nat} {k : Nat → Option (Nat × Nat)} {res : Nat × Nat} (q : kgf t m N r k = some res) (hm : m = Nat.mul 12 (2 + i)) : ∃ x, pgf t N r i = some x ∧ k x = some res := by
  subst hm
  obtain ⟨h1, q⟩ := own_kisA q
  rw [own_E] at q
  refine ⟨_, ?_, q⟩
  unfold pgf
  exact own_cond h1
theorem own_kgfi {t i m N r : Nat} {k : Nat → Option (Nat × Nat)} {res : Nat × Nat} (q : kgf t m N r k = some res) (hm : m = Nat.mul 12 (2 + (pnr t + i))) : ∃ x, pgfi t N r i = some x ∧ k x = some res := own_kgf q hm
def knz (x : Nat) (k : Nat → Option (Nat × Nat)) : Option (Nat × Nat) := Bool.casesOn (motive := fun _ => Option (Nat × Nat)) (Nat.beq x 0) (k x) none
def kgfr (t i N r : Nat) (k : Nat → Option (Nat × Nat)) : Option (Nat × Nat) := kisA t N r (knz (Nat.mod (Nat.shiftRight N (Nat.add (Nat.mul 240 r) i)) 4096) k)
theorem own_kgfr {t i m N r : Nat} {k : Nat → Option (Nat × Nat)} {res : Nat × Nat} (q : kgfr t m N r k = some res) (hm : m = Nat.mul 12 (2 + i)) : ∃ x, pgfr t N r i = some x ∧ k x = some res := by
  subst hm
  obtain ⟨h1, q⟩ := own_kisA q
  obtain ⟨h2, q⟩ := own_nbr q
  rw [own_E] at h2 q
  refine ⟨_, ?_, q⟩
  unfold pgfr pgf
  rw [own_cond (show Nat.beq (dig N (20 * r)) (t + 1) = true from h1)]
  show (bif Nat.beq (dig N (20 * r + (2 + i))) 0 then none else some (dig N (20 * r + (2 + i)))) = _
  rw [h2]
  rfl
def kpf (t i N r x : Nat) (k : Nat → Option (Nat × Nat)) : Option (Nat × Nat) := kisA t N r (Bool.casesOn (motive := fun _ => Option (Nat × Nat)) (Nat.ble (Nat.succ x) 4096) none (k (fsd N (Nat.add (Nat.mul 240 r) i) x)))
theorem own_kpf {t i m N r x : Nat} {k : Nat → Option (Nat × Nat)} {res : Nat × Nat} (q : kpf t m N r x k = some res) (hm : m = Nat.mul 12 (2 + i)) : ∃ y, ppf t N r i x = some y ∧ k y = some res := by
  subst hm
  obtain ⟨h1, q⟩ := own_kisA q
  obtain ⟨h2, q⟩ := own_gd q
  rw [own_fsd] at q
  refine ⟨_, ?_, q⟩
  unfold ppf
  rw [own_cond (show Nat.beq (dig N (20 * r)) (t + 1) = true from h1), own_cond (show Nat.blt x 4096 = true from h2)]
theorem own_kpfi {t i m N r x : Nat} {k : Nat → Option (Nat × Nat)} {res : Nat × Nat} (q : kpf t m N r x k = some res) (hm : m = Nat.mul 12 (2 + (pnr t + i))) : ∃ y, ppfi t N r i x = some y ∧ k y = some res := own_kpf q hm
def kpfr (t i N r x : Nat) (k : Nat → Option (Nat × Nat)) : Option (Nat × Nat) := Bool.casesOn (motive := fun _ => Option (Nat × Nat)) (Nat.beq x 0) (kpf t i N r x k) none
theorem own_kpfr {t i m N r x : Nat} {k : Nat → Option (Nat × Nat)} {res : Nat × Nat} (q : kpfr t m N r x k = some res) (hm : m = Nat.mul 12 (2 + i)) : ∃ y, ppfr t N r i x = some y ∧ k y = some res := by
  obtain ⟨h1, q⟩ := own_nbr q
  obtain ⟨y, h2, q⟩ := own_kpf q hm
  refine ⟨y, ?_, q⟩
  unfold ppfr
  rw [h1]
  exact h2
def krst2 (N r j v : Nat) (k : Nat → Option (Nat × Nat)) : Option (Nat × Nat) := kisA 0 N v (kist 2 N r j v k)
theorem own_krst2 {N r j v : Nat} {k : Nat → Option (Nat × Nat)} {res : Nat × Nat} (q : krst2 N r j v k = some res) : ∃ x, prst2 N r j v = some x ∧ k x = some res := by
  obtain ⟨h1, q⟩ := own_kisA q
  obtain ⟨y, h2, q⟩ := own_krst q
  refine ⟨y, ?_, q⟩
  unfold prst2
  rw [own_cond h1]
  exact h2
def krst3 (N r j v : Nat) (k : Nat → Option (Nat × Nat)) : Option (Nat × Nat) := Bool.casesOn (motive := fun _ => Option (Nat × Nat)) (Nat.ble (Nat.succ v) 1000) (Bool.casesOn (motive := fun _ => Option (Nat × Nat)) (Nat.ble (Nat.succ v) 1256) none (kist 3 N r j v k)) (kisA 0 N v (kist 3 N r j v k))
theorem own_krst3 {N r j v : Nat} {k : Nat → Option (Nat × Nat)} {res : Nat × Nat} (q : krst3 N r j v k = some res) : ∃ x, prst3 N r j v = some x ∧ k x = some res := by
  unfold krst3 at q
  cases z : Nat.ble (Nat.succ v) 1000
  · rw [z] at q
    obtain ⟨h1, q⟩ := own_gd (show gd (Nat.ble (Nat.succ v) 1256) (kist 3 N r j v k) = some res from q)
    obtain ⟨y, h2, q⟩ := own_krst q
    refine ⟨y, ?_, q⟩
    unfold prst3 pisO
    rw [show Nat.blt v 1000 = false from z]
    show (bif Nat.blt v 1256 then prst 3 N r j v else none) = _
    rw [own_cond (show Nat.blt v 1256 = true from h1)]
    exact h2
  · rw [z] at q
    obtain ⟨h1, q⟩ := own_kisA (show kisA 0 N v (kist 3 N r j v k) = some res from q)
    obtain ⟨y, h2, q⟩ := own_krst q
    refine ⟨y, ?_, q⟩
    unfold prst3 pisO
    rw [own_cond (show Nat.blt v 1000 = true from z), own_cond h1]
    exact h2
end FastKit
theorem own_lay4 {Z : State} {a0 : Array Value} (hw : ∀ d ∈ tables_1, d.before a0 Z = true) : Lay Z a0 4 := by
  refine ⟨?_, ?_, ?_, ?_, ?_⟩
  · intro i n d q
    rcases i with _ | i
    · cases q; exact ⟨(Or.inr (own_word hw 12 rfl)), (.array .int), by decide, rfl, fun a => ⟨rfl, rfl⟩⟩
    rcases i with _ | i
    · cases q; exact ⟨(Or.inr (own_word hw 20 rfl)), (.array (.array .int)), by decide, rfl, fun a => ⟨rfl, rfl⟩⟩
    rcases i with _ | i
    · cases q; exact ⟨(Or.inr (own_word hw 37 rfl)), (.array (.array .int)), by decide, rfl, fun a => ⟨rfl, rfl⟩⟩
    rcases i with _ | i
    · cases q; exact ⟨(Or.inr (own_word hw 39 rfl)), (.array .int), by decide, rfl, fun a => ⟨rfl, rfl⟩⟩
    rcases i with _ | i
    · cases q; exact ⟨(Or.inr (own_word hw 41 rfl)), (.array .int), by decide, rfl, fun a => ⟨rfl, rfl⟩⟩
    rcases i with _ | i
    · cases q; exact ⟨(Or.inr (own_word hw 43 rfl)), (.array .int), by decide, rfl, fun a => ⟨rfl, rfl⟩⟩
    · cases q
  · intro i n d q
    rcases i with _ | i
    · cases q; exact ⟨(Or.inr (own_word hw 153 rfl)), by decide⟩
    · cases q
  · intro i j n d n' d' q1 q2 hne
    have h1 : (nth (ocl 4).2.1 i).isSome = true := by rw [q1]; rfl
    have h2 : (nth (ocl 4).2.1 j).isSome = true := by rw [q2]; rfl
    have hi : i < 6 := Nat.lt_of_not_le fun z => by rw [nth_eq, List.getElem?_eq_none (by exact z)] at h1; cases h1
    have hj : j < 6 := Nat.lt_of_not_le fun z => by rw [nth_eq, List.getElem?_eq_none (by exact z)] at h2; cases h2
    have e1 : n = ((nth (ocl 4).2.1 i).getD ("", "")).1 := by rw [q1]; rfl
    have e2 : n' = ((nth (ocl 4).2.1 j).getD ("", "")).1 := by rw [q2]; rfl
    rw [e1, e2]
    exact (by decide : ∀ i : Fin 6, ∀ j : Fin 6, i.val ≠ j.val → ((nth (ocl 4).2.1 i.val).getD ("", "")).1 ≠ ((nth (ocl 4).2.1 j.val).getD ("", "")).1) ⟨i, hi⟩ ⟨j, hj⟩ hne
  · intro i j n d n' d' q1 q2 hne
    have h1 : (nth (ocl 4).2.2 i).isSome = true := by rw [q1]; rfl
    have h2 : (nth (ocl 4).2.2 j).isSome = true := by rw [q2]; rfl
    have hi : i < 1 := Nat.lt_of_not_le fun z => by rw [nth_eq, List.getElem?_eq_none (by exact z)] at h1; cases h1
    have hj : j < 1 := Nat.lt_of_not_le fun z => by rw [nth_eq, List.getElem?_eq_none (by exact z)] at h2; cases h2
    have e1 : n = ((nth (ocl 4).2.2 i).getD ("", "")).1 := by rw [q1]; rfl
    have e2 : n' = ((nth (ocl 4).2.2 j).getD ("", "")).1 := by rw [q2]; rfl
    rw [e1, e2]
    exact (by decide : ∀ i : Fin 1, ∀ j : Fin 1, i.val ≠ j.val → ((nth (ocl 4).2.2 i.val).getD ("", "")).1 ≠ ((nth (ocl 4).2.2 j.val).getD ("", "")).1) ⟨i, hi⟩ ⟨j, hj⟩ hne
  · intro i j n d n' d' q1 q2
    have h1 : (nth (ocl 4).2.1 i).isSome = true := by rw [q1]; rfl
    have h2 : (nth (ocl 4).2.2 j).isSome = true := by rw [q2]; rfl
    have hi : i < 6 := Nat.lt_of_not_le fun z => by rw [nth_eq, List.getElem?_eq_none (by exact z)] at h1; cases h1
    have hj : j < 1 := Nat.lt_of_not_le fun z => by rw [nth_eq, List.getElem?_eq_none (by exact z)] at h2; cases h2
    have e1 : n = ((nth (ocl 4).2.1 i).getD ("", "")).1 := by rw [q1]; rfl
    have e2 : n' = ((nth (ocl 4).2.2 j).getD ("", "")).1 := by rw [q2]; rfl
    rw [e1, e2]
    exact (by decide : ∀ i : Fin 6, ∀ j : Fin 1, ((nth (ocl 4).2.1 i.val).getD ("", "")).1 ≠ ((nth (ocl 4).2.2 j.val).getD ("", "")).1) ⟨i, hi⟩ ⟨j, hj⟩
theorem own_lay5 {Z : State} {a0 : Array Value} (hw : ∀ d ∈ tables_1, d.before a0 Z = true) : Lay Z a0 5 := by
  refine ⟨?_, ?_, ?_, ?_, ?_⟩
  · intro i n d q
    rcases i with _ | i
    · cases q; exact ⟨(Or.inl (own_word hw 64 rfl)), (.array (.object "java/lang/Object")), by decide, rfl, fun a => ⟨rfl, rfl⟩⟩
    · cases q
  · intro i n d q
    rcases i with _ | i
    · cases q; exact ⟨(Or.inl (own_word hw 87 rfl)), by decide⟩
    rcases i with _ | i
    · cases q; exact ⟨(Or.inl (own_word hw 93 rfl)), by decide⟩
    · cases q
  · intro i j n d n' d' q1 q2 hne
    have h1 : (nth (ocl 5).2.1 i).isSome = true := by rw [q1]; rfl
    have h2 : (nth (ocl 5).2.1 j).isSome = true := by rw [q2]; rfl
    have hi : i < 1 := Nat.lt_of_not_le fun z => by rw [nth_eq, List.getElem?_eq_none (by exact z)] at h1; cases h1
    have hj : j < 1 := Nat.lt_of_not_le fun z => by rw [nth_eq, List.getElem?_eq_none (by exact z)] at h2; cases h2
    have e1 : n = ((nth (ocl 5).2.1 i).getD ("", "")).1 := by rw [q1]; rfl
    have e2 : n' = ((nth (ocl 5).2.1 j).getD ("", "")).1 := by rw [q2]; rfl
    rw [e1, e2]
    exact (by decide : ∀ i : Fin 1, ∀ j : Fin 1, i.val ≠ j.val → ((nth (ocl 5).2.1 i.val).getD ("", "")).1 ≠ ((nth (ocl 5).2.1 j.val).getD ("", "")).1) ⟨i, hi⟩ ⟨j, hj⟩ hne
  · intro i j n d n' d' q1 q2 hne
    have h1 : (nth (ocl 5).2.2 i).isSome = true := by rw [q1]; rfl
    have h2 : (nth (ocl 5).2.2 j).isSome = true := by rw [q2]; rfl
    have hi : i < 2 := Nat.lt_of_not_le fun z => by rw [nth_eq, List.getElem?_eq_none (by exact z)] at h1; cases h1
    have hj : j < 2 := Nat.lt_of_not_le fun z => by rw [nth_eq, List.getElem?_eq_none (by exact z)] at h2; cases h2
    have e1 : n = ((nth (ocl 5).2.2 i).getD ("", "")).1 := by rw [q1]; rfl
    have e2 : n' = ((nth (ocl 5).2.2 j).getD ("", "")).1 := by rw [q2]; rfl
    rw [e1, e2]
    exact (by decide : ∀ i : Fin 2, ∀ j : Fin 2, i.val ≠ j.val → ((nth (ocl 5).2.2 i.val).getD ("", "")).1 ≠ ((nth (ocl 5).2.2 j.val).getD ("", "")).1) ⟨i, hi⟩ ⟨j, hj⟩ hne
  · intro i j n d n' d' q1 q2
    have h1 : (nth (ocl 5).2.1 i).isSome = true := by rw [q1]; rfl
    have h2 : (nth (ocl 5).2.2 j).isSome = true := by rw [q2]; rfl
    have hi : i < 1 := Nat.lt_of_not_le fun z => by rw [nth_eq, List.getElem?_eq_none (by exact z)] at h1; cases h1
    have hj : j < 2 := Nat.lt_of_not_le fun z => by rw [nth_eq, List.getElem?_eq_none (by exact z)] at h2; cases h2
    have e1 : n = ((nth (ocl 5).2.1 i).getD ("", "")).1 := by rw [q1]; rfl
    have e2 : n' = ((nth (ocl 5).2.2 j).getD ("", "")).1 := by rw [q2]; rfl
    rw [e1, e2]
    exact (by decide : ∀ i : Fin 1, ∀ j : Fin 2, ((nth (ocl 5).2.1 i.val).getD ("", "")).1 ≠ ((nth (ocl 5).2.2 j.val).getD ("", "")).1) ⟨i, hi⟩ ⟨j, hj⟩
def OKa (Z : State) (ca : Nat → Addr) : Prop := OCa Z ca ∧ ∃ (cb : Addr) (cc : Cell), Sta Z Z.heap "java/lang/Integer$IntegerCache" "high" "I" (.int 127) ∧ Sta Z Z.heap "java/lang/Integer$IntegerCache" "cache" "[Ljava/lang/Integer;" (.ref cb) ∧ Arr Z Z.heap cb cc (.object "java/lang/Integer") ∧ cc.slots.size = 256 ∧ ∀ i, i < 256 → cc.slots[i]? = some (.ref (ca i))
theorem own_idx {x : Int32} (h1 : ¬ x < -128) (h2 : ¬ (127 : Int32) < x) {n : Nat} (hn : n = 256) : ¬ (x + 128 < 0 ∨ n ≤ (x + 128).toNatClampNeg) := by
  rw [Int32.lt_iff_toInt_lt] at h1 h2
  have e1 : (-128 : Int32).toInt = -128 := rfl
  have e2 : (127 : Int32).toInt = 127 := rfl
  have e3 : (128 : Int32).toInt = 128 := rfl
  have e4 : (x + 128).toInt = x.toInt + 128 := by
    rw [Int32.toInt_add, e3, Int.bmod_def]
    have := Int32.le_toInt x
    have := Int32.toInt_lt x
    omega
  subst hn
  rw [Int32.lt_iff_toInt_lt, e4]
  show ¬ (x.toInt + 128 < 0 ∨ 256 ≤ (x + 128).toInt.toNat)
  rw [e4]
  omega
theorem own_adc {Z : State} {ca : Nat → Addr} (k : Nat) : ad Z ca (1000 + k) = ca k := by
  unfold ad
  rw [if_neg (by omega), Nat.add_sub_cancel_left]
def M_vof (H i0 : Nat) : Option (Nat × Nat) := (pvof i0).bind fun r => some (H, r)
def M_ival (H r0 : Nat) : Option (Nat × Nat) := (pival r0).bind fun z => some (H, z)

theorem b10_0_3 : oBlk jdk_33_method_22_code 0 [.iload_n 0, .bipush (-128)] = some 3 := by decide +kernel
theorem d10_3 : decode jdk_33_method_22_code 3 = .ok (.if_icmp .lt 20, 3) := by decide +kernel
theorem b10_6_7 : oBlk jdk_33_method_22_code 6 [.iload_n 0] = some 7 := by decide +kernel
theorem d10_7 : decode jdk_33_method_22_code 7 = .ok (.getstatic 191, 3) := by decide +kernel
theorem d10_10 : decode jdk_33_method_22_code 10 = .ok (.if_icmp .gt 13, 3) := by decide +kernel
theorem d10_13 : decode jdk_33_method_22_code 13 = .ok (.getstatic 195, 3) := by decide +kernel
theorem b10_16_21 : oBlk jdk_33_method_22_code 16 [.iload_n 0, .sipush 128, .iadd] = some 21 := by decide +kernel
theorem d10_21 : decode jdk_33_method_22_code 21 = .ok (.aaload, 1) := by decide +kernel
theorem d10_22 : decode jdk_33_method_22_code 22 = .ok (.areturn, 1) := by decide +kernel
theorem pn_0 : plainName "java/lang/Integer" = true := by first | (simp [plainName, overriddenIn]; done) | decide +kernel
theorem b20_0_1 : oBlk jdk_33_method_27_code 0 [.aload_n 0] = some 1 := by decide +kernel
theorem d20_1 : decode jdk_33_method_27_code 1 = .ok (.getfield 205, 3) := by decide +kernel
theorem d20_4 : decode jdk_33_method_27_code 4 = .ok (.ireturn, 1) := by decide +kernel
theorem b21_0_2 : oBlk jdk_29_method_65_code 0 [.iload_n 0, .iload_n 1] = some 2 := by decide +kernel
theorem d21_2 : decode jdk_29_method_65_code 2 = .ok (.if_icmp .lt 7, 3) := by decide +kernel
theorem b21_9_10 : oBlk jdk_29_method_65_code 9 [.iload_n 1] = some 10 := by decide +kernel
theorem d21_10 : decode jdk_29_method_65_code 10 = .ok (.ireturn, 1) := by decide +kernel
theorem b21_5_6 : oBlk jdk_29_method_65_code 5 [.iload_n 0] = some 6 := by decide +kernel
theorem d21_6 : decode jdk_29_method_65_code 6 = .ok (.goto 4, 3) := by decide +kernel
theorem b6_0_2 : oBlk jdk_29_method_69_code 0 [.iload_n 0, .iload_n 1] = some 2 := by decide +kernel
theorem d6_2 : decode jdk_29_method_69_code 2 = .ok (.if_icmp .gt 7, 3) := by decide +kernel
theorem b6_9_10 : oBlk jdk_29_method_69_code 9 [.iload_n 1] = some 10 := by decide +kernel
theorem d6_10 : decode jdk_29_method_69_code 10 = .ok (.ireturn, 1) := by decide +kernel
theorem b6_5_6 : oBlk jdk_29_method_69_code 5 [.iload_n 0] = some 6 := by decide +kernel
theorem d6_6 : decode jdk_29_method_69_code 6 = .ok (.goto 4, 3) := by decide +kernel
theorem b9_0_1 : oBlk jdk_22_method_1_code 0 [.aload_n 0] = some 1 := by decide +kernel
theorem d9_1 : decode jdk_22_method_1_code 1 = .ok (.invokespecial 1, 3) := by decide +kernel
theorem d9_4 : decode jdk_22_method_1_code 4 = .ok (.return_, 1) := by decide +kernel
theorem pn_1 : plainName "java/util/AbstractCollection" = true := by first | (simp [plainName, overriddenIn]; done) | decide +kernel
theorem b8_0_1 : oBlk jdk_21_method_3_code 0 [.aload_n 0] = some 1 := by decide +kernel
theorem d8_1 : decode jdk_21_method_3_code 1 = .ok (.invokespecial 42, 3) := by decide +kernel
theorem pd_0 : parseMethodDescriptor "()V" = some ⟨[], none⟩ := by decide +kernel
theorem b8_4_7 : oBlk jdk_21_method_3_code 4 [.aload_n 0, .bipush 17] = some 7 := by decide +kernel
theorem d8_7 : decode jdk_21_method_3_code 7 = .ok (.anewarray 47, 3) := by decide +kernel
theorem d8_10 : decode jdk_21_method_3_code 10 = .ok (.putfield 3, 3) := by decide +kernel
theorem d8_13 : decode jdk_21_method_3_code 13 = .ok (.return_, 1) := by decide +kernel
theorem pn_2 : plainName "java/util/ArrayDeque" = true := by first | (simp [plainName, overriddenIn]; done) | decide +kernel
theorem b13_0_3 : oBlk jdk_21_method_7_code 0 [.iinc 0 (-1)] = some 3 := by decide +kernel
theorem b13_3_4 : oBlk jdk_21_method_7_code 3 [.iload_n 0] = some 4 := by decide +kernel
theorem d13_4 : decode jdk_21_method_7_code 4 = .ok (.ifCond .ge 7, 3) := by decide +kernel
theorem b13_11_12 : oBlk jdk_21_method_7_code 11 [.iload_n 0] = some 12 := by decide +kernel
theorem d13_12 : decode jdk_21_method_7_code 12 = .ok (.ireturn, 1) := by decide +kernel
theorem b13_7_9 : oBlk jdk_21_method_7_code 7 [.iload_n 1, .iconst 1] = some 9 := by decide +kernel
theorem b13_9_10 : oBlk jdk_21_method_7_code 9 [.isub] = some 10 := by decide +kernel
theorem b13_10_11 : oBlk jdk_21_method_7_code 10 [.istore_n 0] = some 11 := by decide +kernel
theorem b19_0_3 : oBlk jdk_21_method_6_code 0 [.iinc 0 1] = some 3 := by decide +kernel
theorem b19_3_5 : oBlk jdk_21_method_6_code 3 [.iload_n 0, .iload_n 1] = some 5 := by decide +kernel
theorem d19_5 : decode jdk_21_method_6_code 5 = .ok (.if_icmp .lt 5, 3) := by decide +kernel
theorem b19_10_11 : oBlk jdk_21_method_6_code 10 [.iload_n 0] = some 11 := by decide +kernel
theorem d19_11 : decode jdk_21_method_6_code 11 = .ok (.ireturn, 1) := by decide +kernel
theorem b19_8_10 : oBlk jdk_21_method_6_code 8 [.iconst 0, .istore_n 0] = some 10 := by decide +kernel
theorem b18_0_2 : oBlk jdk_21_method_10_code 0 [.aload_n 0, .iload_n 1] = some 2 := by decide +kernel
theorem d18_2 : decode jdk_21_method_10_code 2 = .ok (.aaload, 1) := by decide +kernel
theorem d18_3 : decode jdk_21_method_10_code 3 = .ok (.areturn, 1) := by decide +kernel
theorem b14_0_1 : oBlk jdk_21_method_38_code 0 [.aload_n 0] = some 1 := by decide +kernel
theorem d14_1 : decode jdk_21_method_38_code 1 = .ok (.getfield 24, 3) := by decide +kernel
theorem b14_4_5 : oBlk jdk_21_method_38_code 4 [.aload_n 0] = some 5 := by decide +kernel
theorem d14_5 : decode jdk_21_method_38_code 5 = .ok (.getfield 20, 3) := by decide +kernel
theorem d14_8 : decode jdk_21_method_38_code 8 = .ok (.if_icmp .ne 7, 3) := by decide +kernel
theorem b14_15_16 : oBlk jdk_21_method_38_code 15 [.iconst 0] = some 16 := by decide +kernel
theorem d14_16 : decode jdk_21_method_38_code 16 = .ok (.ireturn, 1) := by decide +kernel
theorem b14_11_12 : oBlk jdk_21_method_38_code 11 [.iconst 1] = some 12 := by decide +kernel
theorem d14_12 : decode jdk_21_method_38_code 12 = .ok (.goto 4, 3) := by decide +kernel
theorem b12_0_1 : oBlk jdk_21_method_12_code 0 [.aload_n 1] = some 1 := by decide +kernel
theorem d12_1 : decode jdk_21_method_12_code 1 = .ok (.ifnonnull 11, 3) := by decide +kernel
theorem b12_12_13 : oBlk jdk_21_method_12_code 12 [.aload_n 0] = some 13 := by decide +kernel
theorem d12_13 : decode jdk_21_method_12_code 13 = .ok (.getfield 3, 3) := by decide +kernel
theorem b12_16_17 : oBlk jdk_21_method_12_code 16 [.astore_n 2] = some 17 := by decide +kernel
theorem b12_17_20 : oBlk jdk_21_method_12_code 17 [.aload_n 2, .aload_n 0, .aload_n 0] = some 20 := by decide +kernel
theorem d12_20 : decode jdk_21_method_12_code 20 = .ok (.getfield 24, 3) := by decide +kernel
theorem b12_23_24 : oBlk jdk_21_method_12_code 23 [.aload_n 2] = some 24 := by decide +kernel
theorem d12_24 : decode jdk_21_method_12_code 24 = .ok (.arraylength, 1) := by decide +kernel
theorem d12_25 : decode jdk_21_method_12_code 25 = .ok (.invokestatic 68, 3) := by decide +kernel
theorem pd_1 : parseMethodDescriptor "(II)I" = some ⟨[.int, .int], some .int⟩ := by decide +kernel
theorem b12_28_29 : oBlk jdk_21_method_12_code 28 [.dup_x1] = some 29 := by decide +kernel
theorem d12_29 : decode jdk_21_method_12_code 29 = .ok (.putfield 24, 3) := by decide +kernel
theorem b12_32_33 : oBlk jdk_21_method_12_code 32 [.aload_n 1] = some 33 := by decide +kernel
theorem d12_33 : decode jdk_21_method_12_code 33 = .ok (.aastore, 1) := by decide +kernel
theorem b12_34_35 : oBlk jdk_21_method_12_code 34 [.aload_n 0] = some 35 := by decide +kernel
theorem d12_35 : decode jdk_21_method_12_code 35 = .ok (.getfield 24, 3) := by decide +kernel
theorem b12_38_39 : oBlk jdk_21_method_12_code 38 [.aload_n 0] = some 39 := by decide +kernel
theorem d12_39 : decode jdk_21_method_12_code 39 = .ok (.getfield 20, 3) := by decide +kernel
theorem d12_42 : decode jdk_21_method_12_code 42 = .ok (.if_icmp .ne 8, 3) := by decide +kernel
theorem d12_50 : decode jdk_21_method_12_code 50 = .ok (.return_, 1) := by decide +kernel
theorem b11_0_2 : oBlk jdk_21_method_34_code 0 [.aload_n 0, .aload_n 1] = some 2 := by decide +kernel
theorem d11_2 : decode jdk_21_method_34_code 2 = .ok (.invokevirtual 86, 3) := by decide +kernel
theorem pd_2 : parseMethodDescriptor "(Ljava/lang/Object;)V" = some ⟨[(.object "java/lang/Object")], none⟩ := by decide +kernel
theorem d11_5 : decode jdk_21_method_34_code 5 = .ok (.return_, 1) := by decide +kernel
theorem b17_0_1 : oBlk jdk_21_method_20_code 0 [.aload_n 0] = some 1 := by decide +kernel
theorem d17_1 : decode jdk_21_method_20_code 1 = .ok (.getfield 3, 3) := by decide +kernel
theorem b17_4_6 : oBlk jdk_21_method_20_code 4 [.dup, .astore_n 1] = some 6 := by decide +kernel
theorem b17_6_7 : oBlk jdk_21_method_20_code 6 [.aload_n 0] = some 7 := by decide +kernel
theorem d17_7 : decode jdk_21_method_20_code 7 = .ok (.getfield 24, 3) := by decide +kernel
theorem b17_10_12 : oBlk jdk_21_method_20_code 10 [.dup, .istore_n 2] = some 12 := by decide +kernel
theorem d17_12 : decode jdk_21_method_20_code 12 = .ok (.invokestatic 103, 3) := by decide +kernel
theorem pd_3 : parseMethodDescriptor "([Ljava/lang/Object;I)Ljava/lang/Object;" = some ⟨[(.array (.object "java/lang/Object")), .int], some (.object "java/lang/Object")⟩ := by decide +kernel
theorem b17_15_16 : oBlk jdk_21_method_20_code 15 [.astore_n 3] = some 16 := by decide +kernel
theorem b17_16_17 : oBlk jdk_21_method_20_code 16 [.aload_n 3] = some 17 := by decide +kernel
theorem d17_17 : decode jdk_21_method_20_code 17 = .ok (.ifnull 17, 3) := by decide +kernel
theorem b17_20_23 : oBlk jdk_21_method_20_code 20 [.aload_n 1, .iload_n 2, .aconst_null] = some 23 := by decide +kernel
theorem d17_23 : decode jdk_21_method_20_code 23 = .ok (.aastore, 1) := by decide +kernel
theorem b17_24_27 : oBlk jdk_21_method_20_code 24 [.aload_n 0, .iload_n 2, .aload_n 1] = some 27 := by decide +kernel
theorem d17_27 : decode jdk_21_method_20_code 27 = .ok (.arraylength, 1) := by decide +kernel
theorem d17_28 : decode jdk_21_method_20_code 28 = .ok (.invokestatic 74, 3) := by decide +kernel
theorem d17_31 : decode jdk_21_method_20_code 31 = .ok (.putfield 24, 3) := by decide +kernel
theorem b17_34_35 : oBlk jdk_21_method_20_code 34 [.aload_n 3] = some 35 := by decide +kernel
theorem d17_35 : decode jdk_21_method_20_code 35 = .ok (.areturn, 1) := by decide +kernel
theorem b16_0_1 : oBlk jdk_21_method_18_code 0 [.aload_n 0] = some 1 := by decide +kernel
theorem d16_1 : decode jdk_21_method_18_code 1 = .ok (.invokevirtual 93, 3) := by decide +kernel
theorem pd_4 : parseMethodDescriptor "()Ljava/lang/Object;" = some ⟨[], some (.object "java/lang/Object")⟩ := by decide +kernel
theorem b16_4_5 : oBlk jdk_21_method_18_code 4 [.astore_n 1] = some 5 := by decide +kernel
theorem b16_5_6 : oBlk jdk_21_method_18_code 5 [.aload_n 1] = some 6 := by decide +kernel
theorem d16_6 : decode jdk_21_method_18_code 6 = .ok (.ifnonnull 11, 3) := by decide +kernel
theorem b16_17_18 : oBlk jdk_21_method_18_code 17 [.aload_n 1] = some 18 := by decide +kernel
theorem d16_18 : decode jdk_21_method_18_code 18 = .ok (.areturn, 1) := by decide +kernel
theorem b15_0_1 : oBlk jdk_21_method_35_code 0 [.aload_n 0] = some 1 := by decide +kernel
theorem d15_1 : decode jdk_21_method_35_code 1 = .ok (.invokevirtual 118, 3) := by decide +kernel
theorem d15_4 : decode jdk_21_method_35_code 4 = .ok (.areturn, 1) := by decide +kernel
theorem b5_0_2 : oBlk jdk_65_method_123_code 0 [.iload_n 1, .aload_n 0] = some 2 := by decide +kernel
theorem d5_2 : decode jdk_65_method_123_code 2 = .ok (.arraylength, 1) := by decide +kernel
theorem d5_3 : decode jdk_65_method_123_code 3 = .ok (.if_icmp .ne 11, 3) := by decide +kernel
theorem b5_14_15 : oBlk jdk_65_method_123_code 14 [.iload_n 1] = some 15 := by decide +kernel
theorem d5_15 : decode jdk_65_method_123_code 15 = .ok (.newarray .int, 2) := by decide +kernel
theorem b5_17_18 : oBlk jdk_65_method_123_code 17 [.astore_n 2] = some 18 := by decide +kernel
theorem b5_18_23 : oBlk jdk_65_method_123_code 18 [.aload_n 0, .iconst 0, .aload_n 2, .iconst 0, .aload_n 0] = some 23 := by decide +kernel
theorem d5_23 : decode jdk_65_method_123_code 23 = .ok (.arraylength, 1) := by decide +kernel
theorem b5_24_25 : oBlk jdk_65_method_123_code 24 [.iload_n 1] = some 25 := by decide +kernel
theorem d5_25 : decode jdk_65_method_123_code 25 = .ok (.invokestatic 304, 3) := by decide +kernel
theorem d5_28 : decode jdk_65_method_123_code 28 = .ok (.invokestatic 150, 3) := by decide +kernel
theorem b5_31_32 : oBlk jdk_65_method_123_code 31 [.aload_n 2] = some 32 := by decide +kernel
theorem d5_32 : decode jdk_65_method_123_code 32 = .ok (.areturn, 1) := by decide +kernel
theorem pn_3 : plainName "java/util/Arrays" = true := by first | (simp [plainName, overriddenIn]; done) | decide +kernel
theorem b3_0_1 : oBlk prog_40_method_6_code 0 [.aload_n 0] = some 1 := by decide +kernel
theorem d3_1 : decode prog_40_method_6_code 1 = .ok (.arraylength, 1) := by decide +kernel
theorem d3_2 : decode prog_40_method_6_code 2 = .ok (.newarray .int, 2) := by decide +kernel
theorem b3_4_5 : oBlk prog_40_method_6_code 4 [.astore_n 1] = some 5 := by decide +kernel
theorem b3_5_7 : oBlk prog_40_method_6_code 5 [.aload_n 0, .astore_n 2] = some 7 := by decide +kernel
theorem b3_7_8 : oBlk prog_40_method_6_code 7 [.aload_n 2] = some 8 := by decide +kernel
theorem d3_8 : decode prog_40_method_6_code 8 = .ok (.arraylength, 1) := by decide +kernel
theorem b3_9_10 : oBlk prog_40_method_6_code 9 [.istore_n 3] = some 10 := by decide +kernel
theorem b3_10_13 : oBlk prog_40_method_6_code 10 [.iconst 0, .istore 4] = some 13 := by decide +kernel
theorem b3_13_16 : oBlk prog_40_method_6_code 13 [.iload 4, .iload_n 3] = some 16 := by decide +kernel
theorem d3_16 : decode prog_40_method_6_code 16 = .ok (.if_icmp .ge 28, 3) := by decide +kernel
theorem b3_44_45 : oBlk prog_40_method_6_code 44 [.aload_n 0] = some 45 := by decide +kernel
theorem d3_45 : decode prog_40_method_6_code 45 = .ok (.arraylength, 1) := by decide +kernel
theorem d3_46 : decode prog_40_method_6_code 46 = .ok (.anewarray 47, 3) := by decide +kernel
theorem b3_49_50 : oBlk prog_40_method_6_code 49 [.astore_n 2] = some 50 := by decide +kernel
theorem b3_50_52 : oBlk prog_40_method_6_code 50 [.iconst 0, .istore_n 3] = some 52 := by decide +kernel
theorem b3_19_22 : oBlk prog_40_method_6_code 19 [.aload_n 2, .iload 4] = some 22 := by decide +kernel
theorem d3_22 : decode prog_40_method_6_code 22 = .ok (.iaload, 1) := by decide +kernel
theorem d3_23 : decode prog_40_method_6_code 23 = .ok (.istore 5, 2) := by decide +kernel
theorem b3_25_27 : oBlk prog_40_method_6_code 25 [.iload 5] = some 27 := by decide +kernel
theorem d3_27 : decode prog_40_method_6_code 27 = .ok (.ifCond .lt 11, 3) := by decide +kernel
theorem b3_38_41 : oBlk prog_40_method_6_code 38 [.iinc 4 1] = some 41 := by decide +kernel
theorem d3_41 : decode prog_40_method_6_code 41 = .ok (.goto (-28), 3) := by decide +kernel
theorem b3_30_34 : oBlk prog_40_method_6_code 30 [.aload_n 1, .iload 5, .dup2] = some 34 := by decide +kernel
theorem d3_34 : decode prog_40_method_6_code 34 = .ok (.iaload, 1) := by decide +kernel
theorem b3_35_36 : oBlk prog_40_method_6_code 35 [.iconst 1] = some 36 := by decide +kernel
theorem b3_36_37 : oBlk prog_40_method_6_code 36 [.iadd] = some 37 := by decide +kernel
theorem d3_37 : decode prog_40_method_6_code 37 = .ok (.iastore, 1) := by decide +kernel
theorem b3_52_54 : oBlk prog_40_method_6_code 52 [.iload_n 3, .aload_n 0] = some 54 := by decide +kernel
theorem d3_54 : decode prog_40_method_6_code 54 = .ok (.arraylength, 1) := by decide +kernel
theorem d3_55 : decode prog_40_method_6_code 55 = .ok (.if_icmp .ge 21, 3) := by decide +kernel
theorem b3_76_78 : oBlk prog_40_method_6_code 76 [.iconst 0, .istore_n 3] = some 78 := by decide +kernel
theorem b3_58_62 : oBlk prog_40_method_6_code 58 [.aload_n 2, .iload_n 3, .aload_n 1, .iload_n 3] = some 62 := by decide +kernel
theorem d3_62 : decode prog_40_method_6_code 62 = .ok (.iaload, 1) := by decide +kernel
theorem d3_63 : decode prog_40_method_6_code 63 = .ok (.newarray .int, 2) := by decide +kernel
theorem d3_65 : decode prog_40_method_6_code 65 = .ok (.aastore, 1) := by decide +kernel
theorem b3_66_69 : oBlk prog_40_method_6_code 66 [.aload_n 1, .iload_n 3, .iconst 0] = some 69 := by decide +kernel
theorem d3_69 : decode prog_40_method_6_code 69 = .ok (.iastore, 1) := by decide +kernel
theorem b3_70_73 : oBlk prog_40_method_6_code 70 [.iinc 3 1] = some 73 := by decide +kernel
theorem d3_73 : decode prog_40_method_6_code 73 = .ok (.goto (-21), 3) := by decide +kernel
theorem b3_78_80 : oBlk prog_40_method_6_code 78 [.iload_n 3, .aload_n 0] = some 80 := by decide +kernel
theorem d3_80 : decode prog_40_method_6_code 80 = .ok (.arraylength, 1) := by decide +kernel
theorem d3_81 : decode prog_40_method_6_code 81 = .ok (.if_icmp .ge 34, 3) := by decide +kernel
theorem b3_115_116 : oBlk prog_40_method_6_code 115 [.aload_n 2] = some 116 := by decide +kernel
theorem d3_116 : decode prog_40_method_6_code 116 = .ok (.areturn, 1) := by decide +kernel
theorem b3_84_86 : oBlk prog_40_method_6_code 84 [.aload_n 0, .iload_n 3] = some 86 := by decide +kernel
theorem d3_86 : decode prog_40_method_6_code 86 = .ok (.iaload, 1) := by decide +kernel
theorem d3_87 : decode prog_40_method_6_code 87 = .ok (.istore 4, 2) := by decide +kernel
theorem b3_89_91 : oBlk prog_40_method_6_code 89 [.iload 4] = some 91 := by decide +kernel
theorem d3_91 : decode prog_40_method_6_code 91 = .ok (.ifCond .lt 18, 3) := by decide +kernel
theorem b3_109_112 : oBlk prog_40_method_6_code 109 [.iinc 3 1] = some 112 := by decide +kernel
theorem d3_112 : decode prog_40_method_6_code 112 = .ok (.goto (-34), 3) := by decide +kernel
theorem b3_94_97 : oBlk prog_40_method_6_code 94 [.aload_n 2, .iload 4] = some 97 := by decide +kernel
theorem d3_97 : decode prog_40_method_6_code 97 = .ok (.aaload, 1) := by decide +kernel
theorem b3_98_102 : oBlk prog_40_method_6_code 98 [.aload_n 1, .iload 4, .dup2] = some 102 := by decide +kernel
theorem d3_102 : decode prog_40_method_6_code 102 = .ok (.iaload, 1) := by decide +kernel
theorem b3_103_105 : oBlk prog_40_method_6_code 103 [.dup_x2, .iconst 1] = some 105 := by decide +kernel
theorem b3_105_106 : oBlk prog_40_method_6_code 105 [.iadd] = some 106 := by decide +kernel
theorem d3_106 : decode prog_40_method_6_code 106 = .ok (.iastore, 1) := by decide +kernel
theorem b3_107_108 : oBlk prog_40_method_6_code 107 [.iload_n 3] = some 108 := by decide +kernel
theorem d3_108 : decode prog_40_method_6_code 108 = .ok (.iastore, 1) := by decide +kernel
theorem pn_4 : plainName "com/example/mild_horn/mildhorn/translation/Centroids" = true := by first | (simp [plainName, overriddenIn]; done) | decide +kernel
theorem b4_0_1 : oBlk prog_40_method_11_code 0 [.aload_n 0] = some 1 := by decide +kernel
theorem d4_1 : decode prog_40_method_11_code 1 = .ok (.arraylength, 1) := by decide +kernel
theorem d4_2 : decode prog_40_method_11_code 2 = .ok (.anewarray 47, 3) := by decide +kernel
theorem b4_5_6 : oBlk prog_40_method_11_code 5 [.astore_n 2] = some 6 := by decide +kernel
theorem b4_6_8 : oBlk prog_40_method_11_code 6 [.iconst 0, .istore_n 3] = some 8 := by decide +kernel
theorem b4_8_10 : oBlk prog_40_method_11_code 8 [.iload_n 3, .aload_n 0] = some 10 := by decide +kernel
theorem d4_10 : decode prog_40_method_11_code 10 = .ok (.arraylength, 1) := by decide +kernel
theorem d4_11 : decode prog_40_method_11_code 11 = .ok (.if_icmp .ge 54, 3) := by decide +kernel
theorem b4_65_66 : oBlk prog_40_method_11_code 65 [.aload_n 2] = some 66 := by decide +kernel
theorem d4_66 : decode prog_40_method_11_code 66 = .ok (.areturn, 1) := by decide +kernel
theorem b4_14_16 : oBlk prog_40_method_11_code 14 [.aload_n 1, .iload_n 3] = some 16 := by decide +kernel
theorem d4_16 : decode prog_40_method_11_code 16 = .ok (.aaload, 1) := by decide +kernel
theorem d4_17 : decode prog_40_method_11_code 17 = .ok (.astore 4, 2) := by decide +kernel
theorem b4_19_23 : oBlk prog_40_method_11_code 19 [.aload_n 2, .iload_n 3, .aload_n 0, .iload_n 3] = some 23 := by decide +kernel
theorem d4_23 : decode prog_40_method_11_code 23 = .ok (.iaload, 1) := by decide +kernel
theorem d4_24 : decode prog_40_method_11_code 24 = .ok (.ifCond .ge 8, 3) := by decide +kernel
theorem b4_32_36 : oBlk prog_40_method_11_code 32 [.aload 4, .aload 4] = some 36 := by decide +kernel
theorem d4_36 : decode prog_40_method_11_code 36 = .ok (.arraylength, 1) := by decide +kernel
theorem b4_37_38 : oBlk prog_40_method_11_code 37 [.iconst 1] = some 38 := by decide +kernel
theorem b4_38_39 : oBlk prog_40_method_11_code 38 [.iadd] = some 39 := by decide +kernel
theorem d4_39 : decode prog_40_method_11_code 39 = .ok (.invokestatic 89, 3) := by decide +kernel
theorem pd_5 : parseMethodDescriptor "([II)[I" = some ⟨[(.array .int), .int], some (.array .int)⟩ := by decide +kernel
theorem d4_42 : decode prog_40_method_11_code 42 = .ok (.aastore, 1) := by decide +kernel
theorem b4_43_45 : oBlk prog_40_method_11_code 43 [.aload_n 0, .iload_n 3] = some 45 := by decide +kernel
theorem d4_45 : decode prog_40_method_11_code 45 = .ok (.iaload, 1) := by decide +kernel
theorem d4_46 : decode prog_40_method_11_code 46 = .ok (.ifCond .lt 13, 3) := by decide +kernel
theorem b4_59_62 : oBlk prog_40_method_11_code 59 [.iinc 3 1] = some 62 := by decide +kernel
theorem d4_62 : decode prog_40_method_11_code 62 = .ok (.goto (-54), 3) := by decide +kernel
theorem b4_49_51 : oBlk prog_40_method_11_code 49 [.aload_n 2, .iload_n 3] = some 51 := by decide +kernel
theorem d4_51 : decode prog_40_method_11_code 51 = .ok (.aaload, 1) := by decide +kernel
theorem b4_52_54 : oBlk prog_40_method_11_code 52 [.aload 4] = some 54 := by decide +kernel
theorem d4_54 : decode prog_40_method_11_code 54 = .ok (.arraylength, 1) := by decide +kernel
theorem b4_55_57 : oBlk prog_40_method_11_code 55 [.aload_n 0, .iload_n 3] = some 57 := by decide +kernel
theorem d4_57 : decode prog_40_method_11_code 57 = .ok (.iaload, 1) := by decide +kernel
theorem d4_58 : decode prog_40_method_11_code 58 = .ok (.iastore, 1) := by decide +kernel
theorem b4_27_29 : oBlk prog_40_method_11_code 27 [.aload 4] = some 29 := by decide +kernel
theorem d4_29 : decode prog_40_method_11_code 29 = .ok (.goto 13, 3) := by decide +kernel
theorem b7_0_1 : oBlk prog_40_method_7_code 0 [.aload_n 0] = some 1 := by decide +kernel
theorem d7_1 : decode prog_40_method_7_code 1 = .ok (.getfield 7, 3) := by decide +kernel
theorem d7_4 : decode prog_40_method_7_code 4 = .ok (.arraylength, 1) := by decide +kernel
theorem d7_5 : decode prog_40_method_7_code 5 = .ok (.newarray .int, 2) := by decide +kernel
theorem b7_7_8 : oBlk prog_40_method_7_code 7 [.astore_n 2] = some 8 := by decide +kernel
theorem d7_8 : decode prog_40_method_7_code 8 = .ok (.new 48, 3) := by decide +kernel
theorem b7_11_12 : oBlk prog_40_method_7_code 11 [.dup] = some 12 := by decide +kernel
theorem d7_12 : decode prog_40_method_7_code 12 = .ok (.invokespecial 50, 3) := by decide +kernel
theorem b7_15_16 : oBlk prog_40_method_7_code 15 [.astore_n 3] = some 16 := by decide +kernel
theorem b7_16_19 : oBlk prog_40_method_7_code 16 [.iconst 0, .istore 4] = some 19 := by decide +kernel
theorem b7_19_21 : oBlk prog_40_method_7_code 19 [.aload_n 3, .iload_n 1] = some 21 := by decide +kernel
theorem d7_21 : decode prog_40_method_7_code 21 = .ok (.invokestatic 51, 3) := by decide +kernel
theorem pd_6 : parseMethodDescriptor "(I)Ljava/lang/Integer;" = some ⟨[.int], some (.object "java/lang/Integer")⟩ := by decide +kernel
theorem d7_24 : decode prog_40_method_7_code 24 = .ok (.invokeinterface 57 2, 5) := by decide +kernel
theorem b7_29_30 : oBlk prog_40_method_7_code 29 [.aload_n 3] = some 30 := by decide +kernel
theorem d7_30 : decode prog_40_method_7_code 30 = .ok (.invokeinterface 63 1, 5) := by decide +kernel
theorem pd_7 : parseMethodDescriptor "()Z" = some ⟨[], some .boolean⟩ := by decide +kernel
theorem d7_35 : decode prog_40_method_7_code 35 = .ok (.ifCond .ne 80, 3) := by decide +kernel
theorem b7_115_116 : oBlk prog_40_method_7_code 115 [.aload_n 0] = some 116 := by decide +kernel
theorem d7_116 : decode prog_40_method_7_code 116 = .ok (.getfield 7, 3) := by decide +kernel
theorem d7_119 : decode prog_40_method_7_code 119 = .ok (.arraylength, 1) := by decide +kernel
theorem b7_120_121 : oBlk prog_40_method_7_code 120 [.iconst 1] = some 121 := by decide +kernel
theorem b7_121_122 : oBlk prog_40_method_7_code 121 [.isub] = some 122 := by decide +kernel
theorem b7_122_124 : oBlk prog_40_method_7_code 122 [.istore 4] = some 124 := by decide +kernel
theorem b7_38_39 : oBlk prog_40_method_7_code 38 [.aload_n 3] = some 39 := by decide +kernel
theorem d7_39 : decode prog_40_method_7_code 39 = .ok (.invokeinterface 67 1, 5) := by decide +kernel
theorem d7_44 : decode prog_40_method_7_code 44 = .ok (.checkcast 52, 3) := by decide +kernel
theorem d7_47 : decode prog_40_method_7_code 47 = .ok (.invokevirtual 71, 3) := by decide +kernel
theorem pd_8 : parseMethodDescriptor "()I" = some ⟨[], some .int⟩ := by decide +kernel
theorem d7_50 : decode prog_40_method_7_code 50 = .ok (.istore 5, 2) := by decide +kernel
theorem b7_52_57 : oBlk prog_40_method_7_code 52 [.aload_n 2, .iload 4, .iload 5] = some 57 := by decide +kernel
theorem d7_57 : decode prog_40_method_7_code 57 = .ok (.iastore, 1) := by decide +kernel
theorem b7_58_59 : oBlk prog_40_method_7_code 58 [.aload_n 0] = some 59 := by decide +kernel
theorem d7_59 : decode prog_40_method_7_code 59 = .ok (.getfield 26, 3) := by decide +kernel
theorem b7_62_66 : oBlk prog_40_method_7_code 62 [.iload 5, .iload 4] = some 66 := by decide +kernel
theorem b7_66_69 : oBlk prog_40_method_7_code 66 [.iinc 4 1] = some 69 := by decide +kernel
theorem d7_69 : decode prog_40_method_7_code 69 = .ok (.iastore, 1) := by decide +kernel
theorem b7_70_71 : oBlk prog_40_method_7_code 70 [.aload_n 0] = some 71 := by decide +kernel
theorem d7_71 : decode prog_40_method_7_code 71 = .ok (.getfield 17, 3) := by decide +kernel
theorem b7_74_76 : oBlk prog_40_method_7_code 74 [.iload 5] = some 76 := by decide +kernel
theorem d7_76 : decode prog_40_method_7_code 76 = .ok (.aaload, 1) := by decide +kernel
theorem d7_77 : decode prog_40_method_7_code 77 = .ok (.arraylength, 1) := by decide +kernel
theorem b7_78_79 : oBlk prog_40_method_7_code 78 [.iconst 1] = some 79 := by decide +kernel
theorem b7_79_80 : oBlk prog_40_method_7_code 79 [.isub] = some 80 := by decide +kernel
theorem d7_80 : decode prog_40_method_7_code 80 = .ok (.istore 6, 2) := by decide +kernel
theorem b7_82_84 : oBlk prog_40_method_7_code 82 [.iload 6] = some 84 := by decide +kernel
theorem d7_84 : decode prog_40_method_7_code 84 = .ok (.ifCond .lt 28, 3) := by decide +kernel
theorem d7_112 : decode prog_40_method_7_code 112 = .ok (.goto (-83), 3) := by decide +kernel
theorem b7_87_89 : oBlk prog_40_method_7_code 87 [.aload_n 3, .aload_n 0] = some 89 := by decide +kernel
theorem d7_89 : decode prog_40_method_7_code 89 = .ok (.getfield 17, 3) := by decide +kernel
theorem b7_92_94 : oBlk prog_40_method_7_code 92 [.iload 5] = some 94 := by decide +kernel
theorem d7_94 : decode prog_40_method_7_code 94 = .ok (.aaload, 1) := by decide +kernel
theorem b7_95_97 : oBlk prog_40_method_7_code 95 [.iload 6] = some 97 := by decide +kernel
theorem d7_97 : decode prog_40_method_7_code 97 = .ok (.iaload, 1) := by decide +kernel
theorem d7_98 : decode prog_40_method_7_code 98 = .ok (.invokestatic 51, 3) := by decide +kernel
theorem d7_101 : decode prog_40_method_7_code 101 = .ok (.invokeinterface 57 2, 5) := by decide +kernel
theorem b7_106_109 : oBlk prog_40_method_7_code 106 [.iinc 6 (-1)] = some 109 := by decide +kernel
theorem d7_109 : decode prog_40_method_7_code 109 = .ok (.goto (-27), 3) := by decide +kernel
theorem b7_124_126 : oBlk prog_40_method_7_code 124 [.iload 4] = some 126 := by decide +kernel
theorem d7_126 : decode prog_40_method_7_code 126 = .ok (.ifCond .lt 83, 3) := by decide +kernel
theorem d7_209 : decode prog_40_method_7_code 209 = .ok (.return_, 1) := by decide +kernel
theorem b7_129_132 : oBlk prog_40_method_7_code 129 [.aload_n 2, .iload 4] = some 132 := by decide +kernel
theorem d7_132 : decode prog_40_method_7_code 132 = .ok (.iaload, 1) := by decide +kernel
theorem d7_133 : decode prog_40_method_7_code 133 = .ok (.istore 5, 2) := by decide +kernel
theorem b7_135_136 : oBlk prog_40_method_7_code 135 [.aload_n 0] = some 136 := by decide +kernel
theorem d7_136 : decode prog_40_method_7_code 136 = .ok (.getfield 29, 3) := by decide +kernel
theorem b7_139_142 : oBlk prog_40_method_7_code 139 [.iload 5, .aload_n 0] = some 142 := by decide +kernel
theorem d7_142 : decode prog_40_method_7_code 142 = .ok (.getfield 29, 3) := by decide +kernel
theorem b7_145_147 : oBlk prog_40_method_7_code 145 [.iload 5] = some 147 := by decide +kernel
theorem d7_147 : decode prog_40_method_7_code 147 = .ok (.iaload, 1) := by decide +kernel
theorem b7_148_149 : oBlk prog_40_method_7_code 148 [.aload_n 0] = some 149 := by decide +kernel
theorem d7_149 : decode prog_40_method_7_code 149 = .ok (.getfield 26, 3) := by decide +kernel
theorem b7_152_154 : oBlk prog_40_method_7_code 152 [.iload 5] = some 154 := by decide +kernel
theorem d7_154 : decode prog_40_method_7_code 154 = .ok (.iaload, 1) := by decide +kernel
theorem d7_155 : decode prog_40_method_7_code 155 = .ok (.invokestatic 75, 3) := by decide +kernel
theorem d7_158 : decode prog_40_method_7_code 158 = .ok (.iastore, 1) := by decide +kernel
theorem b7_159_160 : oBlk prog_40_method_7_code 159 [.aload_n 0] = some 160 := by decide +kernel
theorem d7_160 : decode prog_40_method_7_code 160 = .ok (.getfield 7, 3) := by decide +kernel
theorem b7_163_165 : oBlk prog_40_method_7_code 163 [.iload 5] = some 165 := by decide +kernel
theorem d7_165 : decode prog_40_method_7_code 165 = .ok (.iaload, 1) := by decide +kernel
theorem d7_166 : decode prog_40_method_7_code 166 = .ok (.ifCond .lt 37, 3) := by decide +kernel
theorem b7_203_206 : oBlk prog_40_method_7_code 203 [.iinc 4 (-1)] = some 206 := by decide +kernel
theorem d7_206 : decode prog_40_method_7_code 206 = .ok (.goto (-82), 3) := by decide +kernel
theorem b7_169_170 : oBlk prog_40_method_7_code 169 [.aload_n 0] = some 170 := by decide +kernel
theorem d7_170 : decode prog_40_method_7_code 170 = .ok (.getfield 29, 3) := by decide +kernel
theorem b7_173_174 : oBlk prog_40_method_7_code 173 [.aload_n 0] = some 174 := by decide +kernel
theorem d7_174 : decode prog_40_method_7_code 174 = .ok (.getfield 7, 3) := by decide +kernel
theorem b7_177_179 : oBlk prog_40_method_7_code 177 [.iload 5] = some 179 := by decide +kernel
theorem d7_179 : decode prog_40_method_7_code 179 = .ok (.iaload, 1) := by decide +kernel
theorem b7_180_181 : oBlk prog_40_method_7_code 180 [.aload_n 0] = some 181 := by decide +kernel
theorem d7_181 : decode prog_40_method_7_code 181 = .ok (.getfield 29, 3) := by decide +kernel
theorem b7_184_185 : oBlk prog_40_method_7_code 184 [.aload_n 0] = some 185 := by decide +kernel
theorem d7_185 : decode prog_40_method_7_code 185 = .ok (.getfield 7, 3) := by decide +kernel
theorem b7_188_190 : oBlk prog_40_method_7_code 188 [.iload 5] = some 190 := by decide +kernel
theorem d7_190 : decode prog_40_method_7_code 190 = .ok (.iaload, 1) := by decide +kernel
theorem d7_191 : decode prog_40_method_7_code 191 = .ok (.iaload, 1) := by decide +kernel
theorem b7_192_193 : oBlk prog_40_method_7_code 192 [.aload_n 0] = some 193 := by decide +kernel
theorem d7_193 : decode prog_40_method_7_code 193 = .ok (.getfield 29, 3) := by decide +kernel
theorem b7_196_198 : oBlk prog_40_method_7_code 196 [.iload 5] = some 198 := by decide +kernel
theorem d7_198 : decode prog_40_method_7_code 198 = .ok (.iaload, 1) := by decide +kernel
theorem d7_199 : decode prog_40_method_7_code 199 = .ok (.invokestatic 75, 3) := by decide +kernel
theorem d7_202 : decode prog_40_method_7_code 202 = .ok (.iastore, 1) := by decide +kernel
theorem b23_0_3 : oBlk prog_40_method_9_code 0 [.iconst 0, .istore 5] = some 3 := by decide +kernel
theorem b23_3_6 : oBlk prog_40_method_9_code 3 [.aload_n 3, .iload 5] = some 6 := by decide +kernel
theorem b23_6_9 : oBlk prog_40_method_9_code 6 [.iinc 5 1] = some 9 := by decide +kernel
theorem b23_9_10 : oBlk prog_40_method_9_code 9 [.iload_n 1] = some 10 := by decide +kernel
theorem d23_10 : decode prog_40_method_9_code 10 = .ok (.iastore, 1) := by decide +kernel
theorem b23_11_15 : oBlk prog_40_method_9_code 11 [.aload 4, .iload_n 1, .iconst (-1)] = some 15 := by decide +kernel
theorem d23_15 : decode prog_40_method_9_code 15 = .ok (.iastore, 1) := by decide +kernel
theorem b23_16_19 : oBlk prog_40_method_9_code 16 [.iconst 0, .istore 6] = some 19 := by decide +kernel
theorem b23_19_23 : oBlk prog_40_method_9_code 19 [.iload 6, .iload 5] = some 23 := by decide +kernel
theorem d23_23 : decode prog_40_method_9_code 23 = .ok (.if_icmp .ge 85, 3) := by decide +kernel
theorem b23_108_110 : oBlk prog_40_method_9_code 108 [.iload 5] = some 110 := by decide +kernel
theorem d23_110 : decode prog_40_method_9_code 110 = .ok (.ireturn, 1) := by decide +kernel
theorem b23_26_29 : oBlk prog_40_method_9_code 26 [.aload_n 3, .iload 6] = some 29 := by decide +kernel
theorem d23_29 : decode prog_40_method_9_code 29 = .ok (.iaload, 1) := by decide +kernel
theorem d23_30 : decode prog_40_method_9_code 30 = .ok (.istore 7, 2) := by decide +kernel
theorem b23_32_33 : oBlk prog_40_method_9_code 32 [.aload_n 0] = some 33 := by decide +kernel
theorem d23_33 : decode prog_40_method_9_code 33 = .ok (.getfield 24, 3) := by decide +kernel
theorem b23_36_38 : oBlk prog_40_method_9_code 36 [.iload 7] = some 38 := by decide +kernel
theorem d23_38 : decode prog_40_method_9_code 38 = .ok (.aaload, 1) := by decide +kernel
theorem d23_39 : decode prog_40_method_9_code 39 = .ok (.astore 8, 2) := by decide +kernel
theorem b23_41_43 : oBlk prog_40_method_9_code 41 [.aload 8] = some 43 := by decide +kernel
theorem d23_43 : decode prog_40_method_9_code 43 = .ok (.arraylength, 1) := by decide +kernel
theorem d23_44 : decode prog_40_method_9_code 44 = .ok (.istore 9, 2) := by decide +kernel
theorem b23_46_47 : oBlk prog_40_method_9_code 46 [.iconst 0] = some 47 := by decide +kernel
theorem d23_47 : decode prog_40_method_9_code 47 = .ok (.istore 10, 2) := by decide +kernel
theorem b23_49_53 : oBlk prog_40_method_9_code 49 [.iload 10, .iload 9] = some 53 := by decide +kernel
theorem d23_53 : decode prog_40_method_9_code 53 = .ok (.if_icmp .ge 49, 3) := by decide +kernel
theorem b23_102_105 : oBlk prog_40_method_9_code 102 [.iinc 6 1] = some 105 := by decide +kernel
theorem d23_105 : decode prog_40_method_9_code 105 = .ok (.goto (-86), 3) := by decide +kernel
theorem b23_56_60 : oBlk prog_40_method_9_code 56 [.aload 8, .iload 10] = some 60 := by decide +kernel
theorem d23_60 : decode prog_40_method_9_code 60 = .ok (.iaload, 1) := by decide +kernel
theorem d23_61 : decode prog_40_method_9_code 61 = .ok (.istore 11, 2) := by decide +kernel
theorem b23_63_66 : oBlk prog_40_method_9_code 63 [.aload_n 2, .iload 11] = some 66 := by decide +kernel
theorem d23_66 : decode prog_40_method_9_code 66 = .ok (.baload, 1) := by decide +kernel
theorem d23_67 : decode prog_40_method_9_code 67 = .ok (.ifCond .ne 29, 3) := by decide +kernel
theorem b23_96_99 : oBlk prog_40_method_9_code 96 [.iinc 10 1] = some 99 := by decide +kernel
theorem d23_99 : decode prog_40_method_9_code 99 = .ok (.goto (-50), 3) := by decide +kernel
theorem b23_70_76 : oBlk prog_40_method_9_code 70 [.iload 11, .aload 4, .iload 7] = some 76 := by decide +kernel
theorem d23_76 : decode prog_40_method_9_code 76 = .ok (.iaload, 1) := by decide +kernel
theorem d23_77 : decode prog_40_method_9_code 77 = .ok (.if_icmp .eq 19, 3) := by decide +kernel
theorem b23_80_86 : oBlk prog_40_method_9_code 80 [.aload 4, .iload 11, .iload 7] = some 86 := by decide +kernel
theorem d23_86 : decode prog_40_method_9_code 86 = .ok (.iastore, 1) := by decide +kernel
theorem b23_87_90 : oBlk prog_40_method_9_code 87 [.aload_n 3, .iload 5] = some 90 := by decide +kernel
theorem b23_90_93 : oBlk prog_40_method_9_code 90 [.iinc 5 1] = some 93 := by decide +kernel
theorem b23_93_95 : oBlk prog_40_method_9_code 93 [.iload 11] = some 95 := by decide +kernel
theorem d23_95 : decode prog_40_method_9_code 95 = .ok (.iastore, 1) := by decide +kernel
theorem b24_0_3 : oBlk prog_40_method_10_code 0 [.iload_n 1, .istore 6] = some 3 := by decide +kernel
theorem b24_3_6 : oBlk prog_40_method_10_code 3 [.iconst 1, .istore 7] = some 6 := by decide +kernel
theorem b24_6_8 : oBlk prog_40_method_10_code 6 [.iload 7] = some 8 := by decide +kernel
theorem d24_8 : decode prog_40_method_10_code 8 = .ok (.ifCond .eq 84, 3) := by decide +kernel
theorem b24_92_94 : oBlk prog_40_method_10_code 92 [.iload 6] = some 94 := by decide +kernel
theorem d24_94 : decode prog_40_method_10_code 94 = .ok (.ireturn, 1) := by decide +kernel
theorem b24_11_14 : oBlk prog_40_method_10_code 11 [.iconst 0, .istore 7] = some 14 := by decide +kernel
theorem b24_14_15 : oBlk prog_40_method_10_code 14 [.aload_n 0] = some 15 := by decide +kernel
theorem d24_15 : decode prog_40_method_10_code 15 = .ok (.getfield 24, 3) := by decide +kernel
theorem b24_18_20 : oBlk prog_40_method_10_code 18 [.iload 6] = some 20 := by decide +kernel
theorem d24_20 : decode prog_40_method_10_code 20 = .ok (.aaload, 1) := by decide +kernel
theorem d24_21 : decode prog_40_method_10_code 21 = .ok (.astore 8, 2) := by decide +kernel
theorem b24_23_25 : oBlk prog_40_method_10_code 23 [.aload 8] = some 25 := by decide +kernel
theorem d24_25 : decode prog_40_method_10_code 25 = .ok (.arraylength, 1) := by decide +kernel
theorem d24_26 : decode prog_40_method_10_code 26 = .ok (.istore 9, 2) := by decide +kernel
theorem b24_28_29 : oBlk prog_40_method_10_code 28 [.iconst 0] = some 29 := by decide +kernel
theorem d24_29 : decode prog_40_method_10_code 29 = .ok (.istore 10, 2) := by decide +kernel
theorem b24_31_35 : oBlk prog_40_method_10_code 31 [.iload 10, .iload 9] = some 35 := by decide +kernel
theorem d24_35 : decode prog_40_method_10_code 35 = .ok (.if_icmp .ge 54, 3) := by decide +kernel
theorem d24_89 : decode prog_40_method_10_code 89 = .ok (.goto (-83), 3) := by decide +kernel
theorem b24_38_42 : oBlk prog_40_method_10_code 38 [.aload 8, .iload 10] = some 42 := by decide +kernel
theorem d24_42 : decode prog_40_method_10_code 42 = .ok (.iaload, 1) := by decide +kernel
theorem d24_43 : decode prog_40_method_10_code 43 = .ok (.istore 11, 2) := by decide +kernel
theorem b24_45_48 : oBlk prog_40_method_10_code 45 [.aload_n 3, .iload 11] = some 48 := by decide +kernel
theorem d24_48 : decode prog_40_method_10_code 48 = .ok (.baload, 1) := by decide +kernel
theorem d24_49 : decode prog_40_method_10_code 49 = .ok (.ifCond .ne 34, 3) := by decide +kernel
theorem b24_83_86 : oBlk prog_40_method_10_code 83 [.iinc 10 1] = some 86 := by decide +kernel
theorem d24_86 : decode prog_40_method_10_code 86 = .ok (.goto (-55), 3) := by decide +kernel
theorem b24_52_56 : oBlk prog_40_method_10_code 52 [.aload 4, .iload 11] = some 56 := by decide +kernel
theorem d24_56 : decode prog_40_method_10_code 56 = .ok (.iaload, 1) := by decide +kernel
theorem b24_57_59 : oBlk prog_40_method_10_code 57 [.iload 6] = some 59 := by decide +kernel
theorem d24_59 : decode prog_40_method_10_code 59 = .ok (.if_icmp .ne 24, 3) := by decide +kernel
theorem b24_62_66 : oBlk prog_40_method_10_code 62 [.aload 5, .iload 11] = some 66 := by decide +kernel
theorem d24_66 : decode prog_40_method_10_code 66 = .ok (.iaload, 1) := by decide +kernel
theorem b24_67_69 : oBlk prog_40_method_10_code 67 [.iload_n 2, .iconst 2] = some 69 := by decide +kernel
theorem d24_69 : decode prog_40_method_10_code 69 = .ok (.idiv, 1) := by decide +kernel
theorem d24_70 : decode prog_40_method_10_code 70 = .ok (.if_icmp .le 13, 3) := by decide +kernel
theorem b24_73_77 : oBlk prog_40_method_10_code 73 [.iload 11, .istore 6] = some 77 := by decide +kernel
theorem b24_77_80 : oBlk prog_40_method_10_code 77 [.iconst 1, .istore 7] = some 80 := by decide +kernel
theorem d24_80 : decode prog_40_method_10_code 80 = .ok (.goto 9, 3) := by decide +kernel
theorem b22_0_1 : oBlk prog_40_method_8_code 0 [.aload_n 0] = some 1 := by decide +kernel
theorem d22_1 : decode prog_40_method_8_code 1 = .ok (.getfield 7, 3) := by decide +kernel
theorem d22_4 : decode prog_40_method_8_code 4 = .ok (.arraylength, 1) := by decide +kernel
theorem d22_5 : decode prog_40_method_8_code 5 = .ok (.newarray .boolean, 2) := by decide +kernel
theorem b22_7_8 : oBlk prog_40_method_8_code 7 [.astore_n 2] = some 8 := by decide +kernel
theorem b22_8_9 : oBlk prog_40_method_8_code 8 [.aload_n 0] = some 9 := by decide +kernel
theorem d22_9 : decode prog_40_method_8_code 9 = .ok (.getfield 7, 3) := by decide +kernel
theorem d22_12 : decode prog_40_method_8_code 12 = .ok (.arraylength, 1) := by decide +kernel
theorem d22_13 : decode prog_40_method_8_code 13 = .ok (.newarray .int, 2) := by decide +kernel
theorem b22_15_16 : oBlk prog_40_method_8_code 15 [.astore_n 3] = some 16 := by decide +kernel
theorem b22_16_17 : oBlk prog_40_method_8_code 16 [.aload_n 0] = some 17 := by decide +kernel
theorem d22_17 : decode prog_40_method_8_code 17 = .ok (.getfield 7, 3) := by decide +kernel
theorem d22_20 : decode prog_40_method_8_code 20 = .ok (.arraylength, 1) := by decide +kernel
theorem d22_21 : decode prog_40_method_8_code 21 = .ok (.newarray .int, 2) := by decide +kernel
theorem b22_23_25 : oBlk prog_40_method_8_code 23 [.astore 4] = some 25 := by decide +kernel
theorem b22_25_26 : oBlk prog_40_method_8_code 25 [.aload_n 0] = some 26 := by decide +kernel
theorem d22_26 : decode prog_40_method_8_code 26 = .ok (.getfield 7, 3) := by decide +kernel
theorem d22_29 : decode prog_40_method_8_code 29 = .ok (.arraylength, 1) := by decide +kernel
theorem d22_30 : decode prog_40_method_8_code 30 = .ok (.newarray .int, 2) := by decide +kernel
theorem b22_32_34 : oBlk prog_40_method_8_code 32 [.astore 5] = some 34 := by decide +kernel
theorem d22_34 : decode prog_40_method_8_code 34 = .ok (.new 48, 3) := by decide +kernel
theorem b22_37_38 : oBlk prog_40_method_8_code 37 [.dup] = some 38 := by decide +kernel
theorem d22_38 : decode prog_40_method_8_code 38 = .ok (.invokespecial 50, 3) := by decide +kernel
theorem b22_41_43 : oBlk prog_40_method_8_code 41 [.astore 6] = some 43 := by decide +kernel
theorem b22_43_46 : oBlk prog_40_method_8_code 43 [.aload 6, .iconst 2] = some 46 := by decide +kernel
theorem d22_46 : decode prog_40_method_8_code 46 = .ok (.newarray .int, 2) := by decide +kernel
theorem b22_48_51 : oBlk prog_40_method_8_code 48 [.dup, .iconst 0, .iload_n 1] = some 51 := by decide +kernel
theorem d22_51 : decode prog_40_method_8_code 51 = .ok (.iastore, 1) := by decide +kernel
theorem b22_52_55 : oBlk prog_40_method_8_code 52 [.dup, .iconst 1, .iconst (-1)] = some 55 := by decide +kernel
theorem d22_55 : decode prog_40_method_8_code 55 = .ok (.iastore, 1) := by decide +kernel
theorem d22_56 : decode prog_40_method_8_code 56 = .ok (.invokeinterface 57 2, 5) := by decide +kernel
theorem b22_61_64 : oBlk prog_40_method_8_code 61 [.iconst (-1), .istore 7] = some 64 := by decide +kernel
theorem b22_64_66 : oBlk prog_40_method_8_code 64 [.aload 6] = some 66 := by decide +kernel
theorem d22_66 : decode prog_40_method_8_code 66 = .ok (.invokeinterface 63 1, 5) := by decide +kernel
theorem d22_71 : decode prog_40_method_8_code 71 = .ok (.ifCond .ne 236, 3) := by decide +kernel
theorem b22_307_309 : oBlk prog_40_method_8_code 307 [.iload 7] = some 309 := by decide +kernel
theorem d22_309 : decode prog_40_method_8_code 309 = .ok (.ireturn, 1) := by decide +kernel
theorem b22_74_76 : oBlk prog_40_method_8_code 74 [.aload 6] = some 76 := by decide +kernel
theorem d22_76 : decode prog_40_method_8_code 76 = .ok (.invokeinterface 67 1, 5) := by decide +kernel
theorem d22_81 : decode prog_40_method_8_code 81 = .ok (.checkcast 47, 3) := by decide +kernel
theorem d22_84 : decode prog_40_method_8_code 84 = .ok (.astore 8, 2) := by decide +kernel
theorem b22_86_90 : oBlk prog_40_method_8_code 86 [.aload_n 0, .aload 8, .iconst 0] = some 90 := by decide +kernel
theorem d22_90 : decode prog_40_method_8_code 90 = .ok (.iaload, 1) := by decide +kernel
theorem b22_91_95 : oBlk prog_40_method_8_code 91 [.aload_n 2, .aload_n 3, .aload 4] = some 95 := by decide +kernel
theorem d22_95 : decode prog_40_method_8_code 95 = .ok (.invokevirtual 81, 3) := by decide +kernel
theorem pd_9 : parseMethodDescriptor "(I[Z[I[I)I" = some ⟨[.int, (.array .boolean), (.array .int), (.array .int)], some .int⟩ := by decide +kernel
theorem d22_98 : decode prog_40_method_8_code 98 = .ok (.istore 9, 2) := by decide +kernel
theorem b22_100_103 : oBlk prog_40_method_8_code 100 [.iload 9, .iconst 1] = some 103 := by decide +kernel
theorem b22_103_104 : oBlk prog_40_method_8_code 103 [.isub] = some 104 := by decide +kernel
theorem d22_104 : decode prog_40_method_8_code 104 = .ok (.istore 10, 2) := by decide +kernel
theorem b22_106_108 : oBlk prog_40_method_8_code 106 [.iload 10] = some 108 := by decide +kernel
theorem d22_108 : decode prog_40_method_8_code 108 = .ok (.ifCond .lt 88, 3) := by decide +kernel
theorem b22_196_200 : oBlk prog_40_method_8_code 196 [.aload_n 0, .aload 8, .iconst 0] = some 200 := by decide +kernel
theorem d22_200 : decode prog_40_method_8_code 200 = .ok (.iaload, 1) := by decide +kernel
theorem b22_201_208 : oBlk prog_40_method_8_code 201 [.iload 9, .aload_n 2, .aload 4, .aload 5] = some 208 := by decide +kernel
theorem d22_208 : decode prog_40_method_8_code 208 = .ok (.invokevirtual 85, 3) := by decide +kernel
theorem pd_10 : parseMethodDescriptor "(II[Z[I[I)I" = some ⟨[.int, .int, (.array .boolean), (.array .int), (.array .int)], some .int⟩ := by decide +kernel
theorem b22_211_213 : oBlk prog_40_method_8_code 211 [.istore 10] = some 213 := by decide +kernel
theorem b22_213_217 : oBlk prog_40_method_8_code 213 [.aload_n 2, .iload 10, .iconst 1] = some 217 := by decide +kernel
theorem d22_217 : decode prog_40_method_8_code 217 = .ok (.bastore, 1) := by decide +kernel
theorem b22_218_219 : oBlk prog_40_method_8_code 218 [.aload_n 0] = some 219 := by decide +kernel
theorem d22_219 : decode prog_40_method_8_code 219 = .ok (.getfield 32, 3) := by decide +kernel
theorem b22_222_227 : oBlk prog_40_method_8_code 222 [.iload 10, .aload 8, .iconst 1] = some 227 := by decide +kernel
theorem d22_227 : decode prog_40_method_8_code 227 = .ok (.iaload, 1) := by decide +kernel
theorem d22_228 : decode prog_40_method_8_code 228 = .ok (.iastore, 1) := by decide +kernel
theorem b22_229_232 : oBlk prog_40_method_8_code 229 [.aload 8, .iconst 1] = some 232 := by decide +kernel
theorem d22_232 : decode prog_40_method_8_code 232 = .ok (.iaload, 1) := by decide +kernel
theorem d22_233 : decode prog_40_method_8_code 233 = .ok (.ifCond .ge 7, 3) := by decide +kernel
theorem b22_240_241 : oBlk prog_40_method_8_code 240 [.aload_n 0] = some 241 := by decide +kernel
theorem d22_241 : decode prog_40_method_8_code 241 = .ok (.getfield 24, 3) := by decide +kernel
theorem b22_244_246 : oBlk prog_40_method_8_code 244 [.iload 10] = some 246 := by decide +kernel
theorem d22_246 : decode prog_40_method_8_code 246 = .ok (.aaload, 1) := by decide +kernel
theorem d22_247 : decode prog_40_method_8_code 247 = .ok (.astore 11, 2) := by decide +kernel
theorem b22_249_251 : oBlk prog_40_method_8_code 249 [.aload 11] = some 251 := by decide +kernel
theorem d22_251 : decode prog_40_method_8_code 251 = .ok (.arraylength, 1) := by decide +kernel
theorem d22_252 : decode prog_40_method_8_code 252 = .ok (.istore 12, 2) := by decide +kernel
theorem b22_254_255 : oBlk prog_40_method_8_code 254 [.iconst 0] = some 255 := by decide +kernel
theorem d22_255 : decode prog_40_method_8_code 255 = .ok (.istore 13, 2) := by decide +kernel
theorem b22_236_240 : oBlk prog_40_method_8_code 236 [.iload 10, .istore 7] = some 240 := by decide +kernel
theorem b22_111_114 : oBlk prog_40_method_8_code 111 [.aload_n 3, .iload 10] = some 114 := by decide +kernel
theorem d22_114 : decode prog_40_method_8_code 114 = .ok (.iaload, 1) := by decide +kernel
theorem d22_115 : decode prog_40_method_8_code 115 = .ok (.istore 11, 2) := by decide +kernel
theorem b22_117_122 : oBlk prog_40_method_8_code 117 [.aload 5, .iload 11, .iconst 1] = some 122 := by decide +kernel
theorem d22_122 : decode prog_40_method_8_code 122 = .ok (.iastore, 1) := by decide +kernel
theorem b22_123_124 : oBlk prog_40_method_8_code 123 [.aload_n 0] = some 124 := by decide +kernel
theorem d22_124 : decode prog_40_method_8_code 124 = .ok (.getfield 24, 3) := by decide +kernel
theorem b22_127_129 : oBlk prog_40_method_8_code 127 [.iload 11] = some 129 := by decide +kernel
theorem d22_129 : decode prog_40_method_8_code 129 = .ok (.aaload, 1) := by decide +kernel
theorem d22_130 : decode prog_40_method_8_code 130 = .ok (.astore 12, 2) := by decide +kernel
theorem b22_132_134 : oBlk prog_40_method_8_code 132 [.aload 12] = some 134 := by decide +kernel
theorem d22_134 : decode prog_40_method_8_code 134 = .ok (.arraylength, 1) := by decide +kernel
theorem d22_135 : decode prog_40_method_8_code 135 = .ok (.istore 13, 2) := by decide +kernel
theorem b22_137_138 : oBlk prog_40_method_8_code 137 [.iconst 0] = some 138 := by decide +kernel
theorem d22_138 : decode prog_40_method_8_code 138 = .ok (.istore 14, 2) := by decide +kernel
theorem b22_140_144 : oBlk prog_40_method_8_code 140 [.iload 14, .iload 13] = some 144 := by decide +kernel
theorem d22_144 : decode prog_40_method_8_code 144 = .ok (.if_icmp .ge 46, 3) := by decide +kernel
theorem b22_190_193 : oBlk prog_40_method_8_code 190 [.iinc 10 (-1)] = some 193 := by decide +kernel
theorem d22_193 : decode prog_40_method_8_code 193 = .ok (.goto (-87), 3) := by decide +kernel
theorem b22_147_151 : oBlk prog_40_method_8_code 147 [.aload 12, .iload 14] = some 151 := by decide +kernel
theorem d22_151 : decode prog_40_method_8_code 151 = .ok (.iaload, 1) := by decide +kernel
theorem d22_152 : decode prog_40_method_8_code 152 = .ok (.istore 15, 2) := by decide +kernel
theorem b22_154_157 : oBlk prog_40_method_8_code 154 [.aload_n 2, .iload 15] = some 157 := by decide +kernel
theorem d22_157 : decode prog_40_method_8_code 157 = .ok (.baload, 1) := by decide +kernel
theorem d22_158 : decode prog_40_method_8_code 158 = .ok (.ifCond .ne 26, 3) := by decide +kernel
theorem b22_184_187 : oBlk prog_40_method_8_code 184 [.iinc 14 1] = some 187 := by decide +kernel
theorem d22_187 : decode prog_40_method_8_code 187 = .ok (.goto (-47), 3) := by decide +kernel
theorem b22_161_165 : oBlk prog_40_method_8_code 161 [.aload 4, .iload 15] = some 165 := by decide +kernel
theorem d22_165 : decode prog_40_method_8_code 165 = .ok (.iaload, 1) := by decide +kernel
theorem b22_166_168 : oBlk prog_40_method_8_code 166 [.iload 11] = some 168 := by decide +kernel
theorem d22_168 : decode prog_40_method_8_code 168 = .ok (.if_icmp .ne 16, 3) := by decide +kernel
theorem b22_171_176 : oBlk prog_40_method_8_code 171 [.aload 5, .iload 11, .dup2] = some 176 := by decide +kernel
theorem d22_176 : decode prog_40_method_8_code 176 = .ok (.iaload, 1) := by decide +kernel
theorem b22_177_181 : oBlk prog_40_method_8_code 177 [.aload 5, .iload 15] = some 181 := by decide +kernel
theorem d22_181 : decode prog_40_method_8_code 181 = .ok (.iaload, 1) := by decide +kernel
theorem b22_182_183 : oBlk prog_40_method_8_code 182 [.iadd] = some 183 := by decide +kernel
theorem d22_183 : decode prog_40_method_8_code 183 = .ok (.iastore, 1) := by decide +kernel
theorem b22_257_261 : oBlk prog_40_method_8_code 257 [.iload 13, .iload 12] = some 261 := by decide +kernel
theorem d22_261 : decode prog_40_method_8_code 261 = .ok (.if_icmp .ge 43, 3) := by decide +kernel
theorem d22_304 : decode prog_40_method_8_code 304 = .ok (.goto (-240), 3) := by decide +kernel
theorem b22_264_268 : oBlk prog_40_method_8_code 264 [.aload 11, .iload 13] = some 268 := by decide +kernel
theorem d22_268 : decode prog_40_method_8_code 268 = .ok (.iaload, 1) := by decide +kernel
theorem d22_269 : decode prog_40_method_8_code 269 = .ok (.istore 14, 2) := by decide +kernel
theorem b22_271_274 : oBlk prog_40_method_8_code 271 [.aload_n 2, .iload 14] = some 274 := by decide +kernel
theorem d22_274 : decode prog_40_method_8_code 274 = .ok (.baload, 1) := by decide +kernel
theorem d22_275 : decode prog_40_method_8_code 275 = .ok (.ifCond .ne 23, 3) := by decide +kernel
theorem b22_298_301 : oBlk prog_40_method_8_code 298 [.iinc 13 1] = some 301 := by decide +kernel
theorem d22_301 : decode prog_40_method_8_code 301 = .ok (.goto (-44), 3) := by decide +kernel
theorem b22_278_281 : oBlk prog_40_method_8_code 278 [.aload 6, .iconst 2] = some 281 := by decide +kernel
theorem d22_281 : decode prog_40_method_8_code 281 = .ok (.newarray .int, 2) := by decide +kernel
theorem b22_283_287 : oBlk prog_40_method_8_code 283 [.dup, .iconst 0, .iload 14] = some 287 := by decide +kernel
theorem d22_287 : decode prog_40_method_8_code 287 = .ok (.iastore, 1) := by decide +kernel
theorem b22_288_292 : oBlk prog_40_method_8_code 288 [.dup, .iconst 1, .iload 10] = some 292 := by decide +kernel
theorem d22_292 : decode prog_40_method_8_code 292 = .ok (.iastore, 1) := by decide +kernel
theorem d22_293 : decode prog_40_method_8_code 293 = .ok (.invokeinterface 57 2, 5) := by decide +kernel
theorem b1_0_1 : oBlk prog_40_method_1_code 0 [.aload_n 0] = some 1 := by decide +kernel
theorem d1_1 : decode prog_40_method_1_code 1 = .ok (.invokespecial 1, 3) := by decide +kernel
theorem b1_4_6 : oBlk prog_40_method_1_code 4 [.aload_n 0, .aload_n 1] = some 6 := by decide +kernel
theorem d1_6 : decode prog_40_method_1_code 6 = .ok (.putfield 7, 3) := by decide +kernel
theorem b1_9_11 : oBlk prog_40_method_1_code 9 [.aload_n 0, .aload_n 1] = some 11 := by decide +kernel
theorem d1_11 : decode prog_40_method_1_code 11 = .ok (.invokestatic 13, 3) := by decide +kernel
theorem pd_11 : parseMethodDescriptor "([I)[[I" = some ⟨[(.array .int)], some (.array (.array .int))⟩ := by decide +kernel
theorem d1_14 : decode prog_40_method_1_code 14 = .ok (.putfield 17, 3) := by decide +kernel
theorem b1_17_20 : oBlk prog_40_method_1_code 17 [.aload_n 0, .aload_n 1, .aload_n 0] = some 20 := by decide +kernel
theorem d1_20 : decode prog_40_method_1_code 20 = .ok (.getfield 17, 3) := by decide +kernel
theorem d1_23 : decode prog_40_method_1_code 23 = .ok (.invokestatic 20, 3) := by decide +kernel
theorem pd_12 : parseMethodDescriptor "([I[[I)[[I" = some ⟨[(.array .int), (.array (.array .int))], some (.array (.array .int))⟩ := by decide +kernel
theorem d1_26 : decode prog_40_method_1_code 26 = .ok (.putfield 24, 3) := by decide +kernel
theorem b1_29_31 : oBlk prog_40_method_1_code 29 [.aload_n 0, .aload_n 1] = some 31 := by decide +kernel
theorem d1_31 : decode prog_40_method_1_code 31 = .ok (.arraylength, 1) := by decide +kernel
theorem d1_32 : decode prog_40_method_1_code 32 = .ok (.newarray .int, 2) := by decide +kernel
theorem d1_34 : decode prog_40_method_1_code 34 = .ok (.putfield 26, 3) := by decide +kernel
theorem b1_37_39 : oBlk prog_40_method_1_code 37 [.aload_n 0, .aload_n 1] = some 39 := by decide +kernel
theorem d1_39 : decode prog_40_method_1_code 39 = .ok (.arraylength, 1) := by decide +kernel
theorem d1_40 : decode prog_40_method_1_code 40 = .ok (.newarray .int, 2) := by decide +kernel
theorem d1_42 : decode prog_40_method_1_code 42 = .ok (.putfield 29, 3) := by decide +kernel
theorem b1_45_47 : oBlk prog_40_method_1_code 45 [.aload_n 0, .aload_n 1] = some 47 := by decide +kernel
theorem d1_47 : decode prog_40_method_1_code 47 = .ok (.arraylength, 1) := by decide +kernel
theorem d1_48 : decode prog_40_method_1_code 48 = .ok (.newarray .int, 2) := by decide +kernel
theorem d1_50 : decode prog_40_method_1_code 50 = .ok (.putfield 32, 3) := by decide +kernel
theorem b1_53_55 : oBlk prog_40_method_1_code 53 [.iconst 0, .istore_n 2] = some 55 := by decide +kernel
theorem b1_55_57 : oBlk prog_40_method_1_code 55 [.aload_n 1, .iload_n 2] = some 57 := by decide +kernel
theorem d1_57 : decode prog_40_method_1_code 57 = .ok (.iaload, 1) := by decide +kernel
theorem d1_58 : decode prog_40_method_1_code 58 = .ok (.ifCond .lt 9, 3) := by decide +kernel
theorem b1_67_69 : oBlk prog_40_method_1_code 67 [.aload_n 0, .iload_n 2] = some 69 := by decide +kernel
theorem d1_69 : decode prog_40_method_1_code 69 = .ok (.invokevirtual 35, 3) := by decide +kernel
theorem pd_13 : parseMethodDescriptor "(I)V" = some ⟨[.int], none⟩ := by decide +kernel
theorem b1_72_75 : oBlk prog_40_method_1_code 72 [.aload_n 0, .aload_n 0, .iload_n 2] = some 75 := by decide +kernel
theorem d1_75 : decode prog_40_method_1_code 75 = .ok (.invokevirtual 39, 3) := by decide +kernel
theorem pd_14 : parseMethodDescriptor "(I)I" = some ⟨[.int], some .int⟩ := by decide +kernel
theorem d1_78 : decode prog_40_method_1_code 78 = .ok (.putfield 43, 3) := by decide +kernel
theorem d1_81 : decode prog_40_method_1_code 81 = .ok (.return_, 1) := by decide +kernel
theorem b1_61_64 : oBlk prog_40_method_1_code 61 [.iinc 2 1] = some 64 := by decide +kernel
theorem d1_64 : decode prog_40_method_1_code 64 = .ok (.goto (-9), 3) := by decide +kernel
theorem b26_0_1 : oBlk prog_40_method_4_code 0 [.aload_n 0] = some 1 := by decide +kernel
theorem d26_1 : decode prog_40_method_4_code 1 = .ok (.getfield 26, 3) := by decide +kernel
theorem b26_4_5 : oBlk prog_40_method_4_code 4 [.iload_n 2] = some 5 := by decide +kernel
theorem d26_5 : decode prog_40_method_4_code 5 = .ok (.iaload, 1) := by decide +kernel
theorem b26_6_7 : oBlk prog_40_method_4_code 6 [.aload_n 0] = some 7 := by decide +kernel
theorem d26_7 : decode prog_40_method_4_code 7 = .ok (.getfield 26, 3) := by decide +kernel
theorem b26_10_11 : oBlk prog_40_method_4_code 10 [.iload_n 1] = some 11 := by decide +kernel
theorem d26_11 : decode prog_40_method_4_code 11 = .ok (.iaload, 1) := by decide +kernel
theorem d26_12 : decode prog_40_method_4_code 12 = .ok (.if_icmp .le 18, 3) := by decide +kernel
theorem b26_30_31 : oBlk prog_40_method_4_code 30 [.iload_n 1] = some 31 := by decide +kernel
theorem d26_31 : decode prog_40_method_4_code 31 = .ok (.ireturn, 1) := by decide +kernel
theorem b26_15_16 : oBlk prog_40_method_4_code 15 [.aload_n 0] = some 16 := by decide +kernel
theorem d26_16 : decode prog_40_method_4_code 16 = .ok (.getfield 26, 3) := by decide +kernel
theorem b26_19_20 : oBlk prog_40_method_4_code 19 [.iload_n 2] = some 20 := by decide +kernel
theorem d26_20 : decode prog_40_method_4_code 20 = .ok (.iaload, 1) := by decide +kernel
theorem b26_21_22 : oBlk prog_40_method_4_code 21 [.aload_n 0] = some 22 := by decide +kernel
theorem d26_22 : decode prog_40_method_4_code 22 = .ok (.getfield 29, 3) := by decide +kernel
theorem b26_25_26 : oBlk prog_40_method_4_code 25 [.iload_n 1] = some 26 := by decide +kernel
theorem d26_26 : decode prog_40_method_4_code 26 = .ok (.iaload, 1) := by decide +kernel
theorem d26_27 : decode prog_40_method_4_code 27 = .ok (.if_icmp .le 5, 3) := by decide +kernel
theorem b26_32_33 : oBlk prog_40_method_4_code 32 [.aload_n 0] = some 33 := by decide +kernel
theorem d26_33 : decode prog_40_method_4_code 33 = .ok (.getfield 17, 3) := by decide +kernel
theorem b26_36_37 : oBlk prog_40_method_4_code 36 [.iload_n 1] = some 37 := by decide +kernel
theorem d26_37 : decode prog_40_method_4_code 37 = .ok (.aaload, 1) := by decide +kernel
theorem b26_38_39 : oBlk prog_40_method_4_code 38 [.astore_n 3] = some 39 := by decide +kernel
theorem b26_39_42 : oBlk prog_40_method_4_code 39 [.iconst 0, .istore 4] = some 42 := by decide +kernel
theorem b26_42_43 : oBlk prog_40_method_4_code 42 [.aload_n 3] = some 43 := by decide +kernel
theorem d26_43 : decode prog_40_method_4_code 43 = .ok (.arraylength, 1) := by decide +kernel
theorem b26_44_45 : oBlk prog_40_method_4_code 44 [.iconst 1] = some 45 := by decide +kernel
theorem b26_45_46 : oBlk prog_40_method_4_code 45 [.isub] = some 46 := by decide +kernel
theorem b26_46_48 : oBlk prog_40_method_4_code 46 [.istore 5] = some 48 := by decide +kernel
theorem b26_48_52 : oBlk prog_40_method_4_code 48 [.iload 4, .iload 5] = some 52 := by decide +kernel
theorem d26_52 : decode prog_40_method_4_code 52 = .ok (.if_icmp .ge 48, 3) := by decide +kernel
theorem b26_100_103 : oBlk prog_40_method_4_code 100 [.aload_n 3, .iload 4] = some 103 := by decide +kernel
theorem d26_103 : decode prog_40_method_4_code 103 = .ok (.iaload, 1) := by decide +kernel
theorem d26_104 : decode prog_40_method_4_code 104 = .ok (.ireturn, 1) := by decide +kernel
theorem b26_55_59 : oBlk prog_40_method_4_code 55 [.iload 4, .iload 5] = some 59 := by decide +kernel
theorem b26_59_60 : oBlk prog_40_method_4_code 59 [.iadd] = some 60 := by decide +kernel
theorem b26_60_61 : oBlk prog_40_method_4_code 60 [.iconst 1] = some 61 := by decide +kernel
theorem b26_61_62 : oBlk prog_40_method_4_code 61 [.iadd] = some 62 := by decide +kernel
theorem b26_62_63 : oBlk prog_40_method_4_code 62 [.iconst 1] = some 63 := by decide +kernel
theorem b26_63_64 : oBlk prog_40_method_4_code 63 [.iushr] = some 64 := by decide +kernel
theorem d26_64 : decode prog_40_method_4_code 64 = .ok (.istore 6, 2) := by decide +kernel
theorem b26_66_67 : oBlk prog_40_method_4_code 66 [.aload_n 0] = some 67 := by decide +kernel
theorem d26_67 : decode prog_40_method_4_code 67 = .ok (.getfield 26, 3) := by decide +kernel
theorem b26_70_73 : oBlk prog_40_method_4_code 70 [.aload_n 3, .iload 6] = some 73 := by decide +kernel
theorem d26_73 : decode prog_40_method_4_code 73 = .ok (.iaload, 1) := by decide +kernel
theorem d26_74 : decode prog_40_method_4_code 74 = .ok (.iaload, 1) := by decide +kernel
theorem b26_75_76 : oBlk prog_40_method_4_code 75 [.aload_n 0] = some 76 := by decide +kernel
theorem d26_76 : decode prog_40_method_4_code 76 = .ok (.getfield 26, 3) := by decide +kernel
theorem b26_79_80 : oBlk prog_40_method_4_code 79 [.iload_n 2] = some 80 := by decide +kernel
theorem d26_80 : decode prog_40_method_4_code 80 = .ok (.iaload, 1) := by decide +kernel
theorem d26_81 : decode prog_40_method_4_code 81 = .ok (.if_icmp .gt 10, 3) := by decide +kernel
theorem b26_91_94 : oBlk prog_40_method_4_code 91 [.iload 6, .iconst 1] = some 94 := by decide +kernel
theorem b26_94_95 : oBlk prog_40_method_4_code 94 [.isub] = some 95 := by decide +kernel
theorem b26_95_97 : oBlk prog_40_method_4_code 95 [.istore 5] = some 97 := by decide +kernel
theorem d26_97 : decode prog_40_method_4_code 97 = .ok (.goto (-49), 3) := by decide +kernel
theorem b26_84_88 : oBlk prog_40_method_4_code 84 [.iload 6, .istore 4] = some 88 := by decide +kernel
theorem d26_88 : decode prog_40_method_4_code 88 = .ok (.goto 9, 3) := by decide +kernel
theorem b25_0_2 : oBlk method_2_code 0 [.iload_n 2, .istore_n 3] = some 2 := by decide +kernel
theorem b25_2_3 : oBlk method_2_code 2 [.iload_n 3] = some 3 := by decide +kernel
theorem d25_3 : decode method_2_code 3 = .ok (.ifCond .ne 5, 3) := by decide +kernel
theorem b25_8_10 : oBlk method_2_code 8 [.aload_n 0, .iload_n 3] = some 10 := by decide +kernel
theorem d25_10 : decode method_2_code 10 = .ok (.iaload, 1) := by decide +kernel
theorem b25_11_12 : oBlk method_2_code 11 [.iload_n 1] = some 12 := by decide +kernel
theorem d25_12 : decode method_2_code 12 = .ok (.if_icmp .ne 5, 3) := by decide +kernel
theorem b25_17_19 : oBlk method_2_code 17 [.aload_n 0, .iload_n 3] = some 19 := by decide +kernel
theorem d25_19 : decode method_2_code 19 = .ok (.iaload, 1) := by decide +kernel
theorem b25_20_21 : oBlk method_2_code 20 [.istore_n 3] = some 21 := by decide +kernel
theorem b25_21_22 : oBlk method_2_code 21 [.iload_n 3] = some 22 := by decide +kernel
theorem d25_22 : decode method_2_code 22 = .ok (.ifCond .ne 5, 3) := by decide +kernel
theorem b25_27_29 : oBlk method_2_code 27 [.aload_n 0, .iload_n 3] = some 29 := by decide +kernel
theorem d25_29 : decode method_2_code 29 = .ok (.iaload, 1) := by decide +kernel
theorem b25_30_31 : oBlk method_2_code 30 [.iload_n 1] = some 31 := by decide +kernel
theorem d25_31 : decode method_2_code 31 = .ok (.if_icmp .ne 5, 3) := by decide +kernel
theorem b25_36_38 : oBlk method_2_code 36 [.aload_n 0, .iload_n 3] = some 38 := by decide +kernel
theorem d25_38 : decode method_2_code 38 = .ok (.iaload, 1) := by decide +kernel
theorem b25_39_40 : oBlk method_2_code 39 [.istore_n 3] = some 40 := by decide +kernel
theorem b25_40_41 : oBlk method_2_code 40 [.iload_n 3] = some 41 := by decide +kernel
theorem d25_41 : decode method_2_code 41 = .ok (.ifCond .ne 5, 3) := by decide +kernel
theorem b25_46_48 : oBlk method_2_code 46 [.aload_n 0, .iload_n 3] = some 48 := by decide +kernel
theorem d25_48 : decode method_2_code 48 = .ok (.iaload, 1) := by decide +kernel
theorem b25_49_50 : oBlk method_2_code 49 [.iload_n 1] = some 50 := by decide +kernel
theorem d25_50 : decode method_2_code 50 = .ok (.if_icmp .ne 5, 3) := by decide +kernel
theorem b25_55_57 : oBlk method_2_code 55 [.aload_n 0, .iload_n 3] = some 57 := by decide +kernel
theorem d25_57 : decode method_2_code 57 = .ok (.iaload, 1) := by decide +kernel
theorem b25_58_59 : oBlk method_2_code 58 [.istore_n 3] = some 59 := by decide +kernel
theorem b25_59_60 : oBlk method_2_code 59 [.iload_n 3] = some 60 := by decide +kernel
theorem d25_60 : decode method_2_code 60 = .ok (.ifCond .ne 5, 3) := by decide +kernel
theorem b25_65_67 : oBlk method_2_code 65 [.aload_n 0, .iload_n 3] = some 67 := by decide +kernel
theorem d25_67 : decode method_2_code 67 = .ok (.iaload, 1) := by decide +kernel
theorem b25_68_69 : oBlk method_2_code 68 [.iload_n 1] = some 69 := by decide +kernel
theorem d25_69 : decode method_2_code 69 = .ok (.if_icmp .ne 5, 3) := by decide +kernel
theorem b25_74_76 : oBlk method_2_code 74 [.aload_n 0, .iload_n 3] = some 76 := by decide +kernel
theorem d25_76 : decode method_2_code 76 = .ok (.iaload, 1) := by decide +kernel
theorem b25_77_78 : oBlk method_2_code 77 [.istore_n 3] = some 78 := by decide +kernel
theorem b25_78_79 : oBlk method_2_code 78 [.iload_n 3] = some 79 := by decide +kernel
theorem d25_79 : decode method_2_code 79 = .ok (.ifCond .ne 5, 3) := by decide +kernel
theorem b25_84_86 : oBlk method_2_code 84 [.aload_n 0, .iload_n 3] = some 86 := by decide +kernel
theorem d25_86 : decode method_2_code 86 = .ok (.iaload, 1) := by decide +kernel
theorem b25_87_88 : oBlk method_2_code 87 [.iload_n 1] = some 88 := by decide +kernel
theorem d25_88 : decode method_2_code 88 = .ok (.if_icmp .ne 5, 3) := by decide +kernel
theorem b25_93_95 : oBlk method_2_code 93 [.aload_n 0, .iload_n 3] = some 95 := by decide +kernel
theorem d25_95 : decode method_2_code 95 = .ok (.iaload, 1) := by decide +kernel
theorem b25_96_97 : oBlk method_2_code 96 [.istore_n 3] = some 97 := by decide +kernel
theorem b25_97_98 : oBlk method_2_code 97 [.iload_n 3] = some 98 := by decide +kernel
theorem d25_98 : decode method_2_code 98 = .ok (.ifCond .ne 5, 3) := by decide +kernel
theorem b25_103_105 : oBlk method_2_code 103 [.aload_n 0, .iload_n 3] = some 105 := by decide +kernel
theorem d25_105 : decode method_2_code 105 = .ok (.iaload, 1) := by decide +kernel
theorem b25_106_107 : oBlk method_2_code 106 [.iload_n 1] = some 107 := by decide +kernel
theorem d25_107 : decode method_2_code 107 = .ok (.if_icmp .ne 5, 3) := by decide +kernel
theorem b25_112_113 : oBlk method_2_code 112 [.iconst (-1)] = some 113 := by decide +kernel
theorem d25_113 : decode method_2_code 113 = .ok (.ireturn, 1) := by decide +kernel
theorem b25_110_111 : oBlk method_2_code 110 [.iload_n 3] = some 111 := by decide +kernel
theorem d25_111 : decode method_2_code 111 = .ok (.ireturn, 1) := by decide +kernel
theorem b25_101_102 : oBlk method_2_code 101 [.iconst (-1)] = some 102 := by decide +kernel
theorem d25_102 : decode method_2_code 102 = .ok (.ireturn, 1) := by decide +kernel
theorem b25_91_92 : oBlk method_2_code 91 [.iload_n 3] = some 92 := by decide +kernel
theorem d25_92 : decode method_2_code 92 = .ok (.ireturn, 1) := by decide +kernel
theorem b25_82_83 : oBlk method_2_code 82 [.iconst (-1)] = some 83 := by decide +kernel
theorem d25_83 : decode method_2_code 83 = .ok (.ireturn, 1) := by decide +kernel
theorem b25_72_73 : oBlk method_2_code 72 [.iload_n 3] = some 73 := by decide +kernel
theorem d25_73 : decode method_2_code 73 = .ok (.ireturn, 1) := by decide +kernel
theorem b25_63_64 : oBlk method_2_code 63 [.iconst (-1)] = some 64 := by decide +kernel
theorem d25_64 : decode method_2_code 64 = .ok (.ireturn, 1) := by decide +kernel
theorem b25_53_54 : oBlk method_2_code 53 [.iload_n 3] = some 54 := by decide +kernel
theorem d25_54 : decode method_2_code 54 = .ok (.ireturn, 1) := by decide +kernel
theorem b25_44_45 : oBlk method_2_code 44 [.iconst (-1)] = some 45 := by decide +kernel
theorem d25_45 : decode method_2_code 45 = .ok (.ireturn, 1) := by decide +kernel
theorem b25_34_35 : oBlk method_2_code 34 [.iload_n 3] = some 35 := by decide +kernel
theorem d25_35 : decode method_2_code 35 = .ok (.ireturn, 1) := by decide +kernel
theorem b25_25_26 : oBlk method_2_code 25 [.iconst (-1)] = some 26 := by decide +kernel
theorem d25_26 : decode method_2_code 26 = .ok (.ireturn, 1) := by decide +kernel
theorem b25_15_16 : oBlk method_2_code 15 [.iload_n 3] = some 16 := by decide +kernel
theorem d25_16 : decode method_2_code 16 = .ok (.ireturn, 1) := by decide +kernel
theorem b25_6_7 : oBlk method_2_code 6 [.iconst (-1)] = some 7 := by decide +kernel
theorem d25_7 : decode method_2_code 7 = .ok (.ireturn, 1) := by decide +kernel
theorem pn_5 : plainName "com/example/mild_horn/mildhorn/translation/CentroidsTowardPinLaw" = true := by first | (simp [plainName, overriddenIn]; done) | decide +kernel
theorem b0_0_2 : oBlk code 0 [.bipush 7] = some 2 := by decide +kernel
theorem d0_2 : decode code 2 = .ok (.newarray .int, 2) := by decide +kernel
theorem b0_4_6 : oBlk code 4 [.astore 4] = some 6 := by decide +kernel
theorem b0_6_10 : oBlk code 6 [.aload 4, .iconst 0, .iconst 0] = some 10 := by decide +kernel
theorem d0_10 : decode code 10 = .ok (.iastore, 1) := by decide +kernel
theorem b0_11_19 : oBlk code 11 [.aload 4, .iconst 1, .iload_n 0, .bipush 7, .iand, .iconst 1] = some 19 := by decide +kernel
theorem d0_19 : decode code 19 = .ok (.irem, 1) := by decide +kernel
theorem d0_20 : decode code 20 = .ok (.iastore, 1) := by decide +kernel
theorem b0_21_26 : oBlk code 21 [.aload 4, .iconst 2, .iload_n 0, .iconst 3] = some 26 := by decide +kernel
theorem b0_26_27 : oBlk code 26 [.iushr] = some 27 := by decide +kernel
theorem b0_27_31 : oBlk code 27 [.bipush 7, .iand, .iconst 2] = some 31 := by decide +kernel
theorem d0_31 : decode code 31 = .ok (.irem, 1) := by decide +kernel
theorem d0_32 : decode code 32 = .ok (.iastore, 1) := by decide +kernel
theorem b0_33_39 : oBlk code 33 [.aload 4, .iconst 3, .iload_n 0, .bipush 6] = some 39 := by decide +kernel
theorem b0_39_40 : oBlk code 39 [.iushr] = some 40 := by decide +kernel
theorem b0_40_44 : oBlk code 40 [.bipush 7, .iand, .iconst 3] = some 44 := by decide +kernel
theorem d0_44 : decode code 44 = .ok (.irem, 1) := by decide +kernel
theorem d0_45 : decode code 45 = .ok (.iastore, 1) := by decide +kernel
theorem b0_46_52 : oBlk code 46 [.aload 4, .iconst 4, .iload_n 0, .bipush 9] = some 52 := by decide +kernel
theorem b0_52_53 : oBlk code 52 [.iushr] = some 53 := by decide +kernel
theorem b0_53_57 : oBlk code 53 [.bipush 7, .iand, .iconst 4] = some 57 := by decide +kernel
theorem d0_57 : decode code 57 = .ok (.irem, 1) := by decide +kernel
theorem d0_58 : decode code 58 = .ok (.iastore, 1) := by decide +kernel
theorem b0_59_65 : oBlk code 59 [.aload 4, .iconst 5, .iload_n 0, .bipush 12] = some 65 := by decide +kernel
theorem b0_65_66 : oBlk code 65 [.iushr] = some 66 := by decide +kernel
theorem b0_66_70 : oBlk code 66 [.bipush 7, .iand, .iconst 5] = some 70 := by decide +kernel
theorem d0_70 : decode code 70 = .ok (.irem, 1) := by decide +kernel
theorem d0_71 : decode code 71 = .ok (.iastore, 1) := by decide +kernel
theorem b0_72_79 : oBlk code 72 [.aload 4, .bipush 6, .iload_n 0, .bipush 15] = some 79 := by decide +kernel
theorem b0_79_80 : oBlk code 79 [.iushr] = some 80 := by decide +kernel
theorem b0_80_85 : oBlk code 80 [.bipush 7, .iand, .bipush 6] = some 85 := by decide +kernel
theorem d0_85 : decode code 85 = .ok (.irem, 1) := by decide +kernel
theorem d0_86 : decode code 86 = .ok (.iastore, 1) := by decide +kernel
theorem b0_87_88 : oBlk code 87 [.iload_n 1] = some 88 := by decide +kernel
theorem d0_88 : decode code 88 = .ok (.ldc 7, 2) := by decide +kernel
theorem b0_90_93 : oBlk code 90 [.iand, .bipush 7] = some 93 := by decide +kernel
theorem d0_93 : decode code 93 = .ok (.irem, 1) := by decide +kernel
theorem b0_94_96 : oBlk code 94 [.istore 5] = some 96 := by decide +kernel
theorem b0_96_98 : oBlk code 96 [.bipush 7] = some 98 := by decide +kernel
theorem d0_98 : decode code 98 = .ok (.newarray .int, 2) := by decide +kernel
theorem b0_100_102 : oBlk code 100 [.astore 6] = some 102 := by decide +kernel
theorem b0_102_107 : oBlk code 102 [.aload 6, .iload 5, .iconst (-1)] = some 107 := by decide +kernel
theorem d0_107 : decode code 107 = .ok (.iastore, 1) := by decide +kernel
theorem b0_108_113 : oBlk code 108 [.aload 6, .iconst 1, .iload 5] = some 113 := by decide +kernel
theorem b0_113_114 : oBlk code 113 [.iadd] = some 114 := by decide +kernel
theorem b0_114_116 : oBlk code 114 [.bipush 7] = some 116 := by decide +kernel
theorem d0_116 : decode code 116 = .ok (.irem, 1) := by decide +kernel
theorem b0_117_120 : oBlk code 117 [.aload 4, .iconst 1] = some 120 := by decide +kernel
theorem d0_120 : decode code 120 = .ok (.iaload, 1) := by decide +kernel
theorem b0_121_123 : oBlk code 121 [.iload 5] = some 123 := by decide +kernel
theorem b0_123_124 : oBlk code 123 [.iadd] = some 124 := by decide +kernel
theorem b0_124_126 : oBlk code 124 [.bipush 7] = some 126 := by decide +kernel
theorem d0_126 : decode code 126 = .ok (.irem, 1) := by decide +kernel
theorem d0_127 : decode code 127 = .ok (.iastore, 1) := by decide +kernel
theorem b0_128_133 : oBlk code 128 [.aload 6, .iconst 2, .iload 5] = some 133 := by decide +kernel
theorem b0_133_134 : oBlk code 133 [.iadd] = some 134 := by decide +kernel
theorem b0_134_136 : oBlk code 134 [.bipush 7] = some 136 := by decide +kernel
theorem d0_136 : decode code 136 = .ok (.irem, 1) := by decide +kernel
theorem b0_137_140 : oBlk code 137 [.aload 4, .iconst 2] = some 140 := by decide +kernel
theorem d0_140 : decode code 140 = .ok (.iaload, 1) := by decide +kernel
theorem b0_141_143 : oBlk code 141 [.iload 5] = some 143 := by decide +kernel
theorem b0_143_144 : oBlk code 143 [.iadd] = some 144 := by decide +kernel
theorem b0_144_146 : oBlk code 144 [.bipush 7] = some 146 := by decide +kernel
theorem d0_146 : decode code 146 = .ok (.irem, 1) := by decide +kernel
theorem d0_147 : decode code 147 = .ok (.iastore, 1) := by decide +kernel
theorem b0_148_153 : oBlk code 148 [.aload 6, .iconst 3, .iload 5] = some 153 := by decide +kernel
theorem b0_153_154 : oBlk code 153 [.iadd] = some 154 := by decide +kernel
theorem b0_154_156 : oBlk code 154 [.bipush 7] = some 156 := by decide +kernel
theorem d0_156 : decode code 156 = .ok (.irem, 1) := by decide +kernel
theorem b0_157_160 : oBlk code 157 [.aload 4, .iconst 3] = some 160 := by decide +kernel
theorem d0_160 : decode code 160 = .ok (.iaload, 1) := by decide +kernel
theorem b0_161_163 : oBlk code 161 [.iload 5] = some 163 := by decide +kernel
theorem b0_163_164 : oBlk code 163 [.iadd] = some 164 := by decide +kernel
theorem b0_164_166 : oBlk code 164 [.bipush 7] = some 166 := by decide +kernel
theorem d0_166 : decode code 166 = .ok (.irem, 1) := by decide +kernel
theorem d0_167 : decode code 167 = .ok (.iastore, 1) := by decide +kernel
theorem b0_168_173 : oBlk code 168 [.aload 6, .iconst 4, .iload 5] = some 173 := by decide +kernel
theorem b0_173_174 : oBlk code 173 [.iadd] = some 174 := by decide +kernel
theorem b0_174_176 : oBlk code 174 [.bipush 7] = some 176 := by decide +kernel
theorem d0_176 : decode code 176 = .ok (.irem, 1) := by decide +kernel
theorem b0_177_180 : oBlk code 177 [.aload 4, .iconst 4] = some 180 := by decide +kernel
theorem d0_180 : decode code 180 = .ok (.iaload, 1) := by decide +kernel
theorem b0_181_183 : oBlk code 181 [.iload 5] = some 183 := by decide +kernel
theorem b0_183_184 : oBlk code 183 [.iadd] = some 184 := by decide +kernel
theorem b0_184_186 : oBlk code 184 [.bipush 7] = some 186 := by decide +kernel
theorem d0_186 : decode code 186 = .ok (.irem, 1) := by decide +kernel
theorem d0_187 : decode code 187 = .ok (.iastore, 1) := by decide +kernel
theorem b0_188_193 : oBlk code 188 [.aload 6, .iconst 5, .iload 5] = some 193 := by decide +kernel
theorem b0_193_194 : oBlk code 193 [.iadd] = some 194 := by decide +kernel
theorem b0_194_196 : oBlk code 194 [.bipush 7] = some 196 := by decide +kernel
theorem d0_196 : decode code 196 = .ok (.irem, 1) := by decide +kernel
theorem b0_197_200 : oBlk code 197 [.aload 4, .iconst 5] = some 200 := by decide +kernel
theorem d0_200 : decode code 200 = .ok (.iaload, 1) := by decide +kernel
theorem b0_201_203 : oBlk code 201 [.iload 5] = some 203 := by decide +kernel
theorem b0_203_204 : oBlk code 203 [.iadd] = some 204 := by decide +kernel
theorem b0_204_206 : oBlk code 204 [.bipush 7] = some 206 := by decide +kernel
theorem d0_206 : decode code 206 = .ok (.irem, 1) := by decide +kernel
theorem d0_207 : decode code 207 = .ok (.iastore, 1) := by decide +kernel
theorem b0_208_214 : oBlk code 208 [.aload 6, .bipush 6, .iload 5] = some 214 := by decide +kernel
theorem b0_214_215 : oBlk code 214 [.iadd] = some 215 := by decide +kernel
theorem b0_215_217 : oBlk code 215 [.bipush 7] = some 217 := by decide +kernel
theorem d0_217 : decode code 217 = .ok (.irem, 1) := by decide +kernel
theorem b0_218_222 : oBlk code 218 [.aload 4, .bipush 6] = some 222 := by decide +kernel
theorem d0_222 : decode code 222 = .ok (.iaload, 1) := by decide +kernel
theorem b0_223_225 : oBlk code 223 [.iload 5] = some 225 := by decide +kernel
theorem b0_225_226 : oBlk code 225 [.iadd] = some 226 := by decide +kernel
theorem b0_226_228 : oBlk code 226 [.bipush 7] = some 228 := by decide +kernel
theorem d0_228 : decode code 228 = .ok (.irem, 1) := by decide +kernel
theorem d0_229 : decode code 229 = .ok (.iastore, 1) := by decide +kernel
theorem b0_230_231 : oBlk code 230 [.iload_n 2] = some 231 := by decide +kernel
theorem d0_231 : decode code 231 = .ok (.ldc 7, 2) := by decide +kernel
theorem b0_233_236 : oBlk code 233 [.iand, .bipush 7] = some 236 := by decide +kernel
theorem d0_236 : decode code 236 = .ok (.irem, 1) := by decide +kernel
theorem b0_237_239 : oBlk code 237 [.istore 7] = some 239 := by decide +kernel
theorem b0_239_242 : oBlk code 239 [.iload 7, .iconst 1] = some 242 := by decide +kernel
theorem b0_242_243 : oBlk code 242 [.iadd] = some 243 := by decide +kernel
theorem b0_243_244 : oBlk code 243 [.iload_n 3] = some 244 := by decide +kernel
theorem d0_244 : decode code 244 = .ok (.ldc 7, 2) := by decide +kernel
theorem b0_246_249 : oBlk code 246 [.iand, .bipush 6] = some 249 := by decide +kernel
theorem d0_249 : decode code 249 = .ok (.irem, 1) := by decide +kernel
theorem b0_250_251 : oBlk code 250 [.iadd] = some 251 := by decide +kernel
theorem b0_251_253 : oBlk code 251 [.bipush 7] = some 253 := by decide +kernel
theorem d0_253 : decode code 253 = .ok (.irem, 1) := by decide +kernel
theorem b0_254_256 : oBlk code 254 [.istore 8] = some 256 := by decide +kernel
theorem d0_256 : decode code 256 = .ok (.new 8, 3) := by decide +kernel
theorem b0_259_262 : oBlk code 259 [.dup, .aload 6] = some 262 := by decide +kernel
theorem d0_262 : decode code 262 = .ok (.invokespecial 10, 3) := by decide +kernel
theorem pd_15 : parseMethodDescriptor "([I)V" = some ⟨[(.array .int)], none⟩ := by decide +kernel
theorem b0_265_267 : oBlk code 265 [.astore 9] = some 267 := by decide +kernel
theorem b0_267_273 : oBlk code 267 [.aload 4, .iload 7, .iload 8] = some 273 := by decide +kernel
theorem d0_273 : decode code 273 = .ok (.invokestatic 13, 3) := by decide +kernel
theorem pd_16 : parseMethodDescriptor "([III)I" = some ⟨[(.array .int), .int, .int], some .int⟩ := by decide +kernel
theorem d0_276 : decode code 276 = .ok (.istore 10, 2) := by decide +kernel
theorem b0_278_280 : oBlk code 278 [.iload 10] = some 280 := by decide +kernel
theorem d0_280 : decode code 280 = .ok (.ifCond .ge 14, 3) := by decide +kernel
theorem b0_294_298 : oBlk code 294 [.iload 10, .iload 5] = some 298 := by decide +kernel
theorem b0_298_299 : oBlk code 298 [.iadd] = some 299 := by decide +kernel
theorem b0_299_301 : oBlk code 299 [.bipush 7] = some 301 := by decide +kernel
theorem d0_301 : decode code 301 = .ok (.irem, 1) := by decide +kernel
theorem d0_302 : decode code 302 = .ok (.istore 11, 2) := by decide +kernel
theorem b0_304_310 : oBlk code 304 [.aload 9, .iload 7, .iload 5] = some 310 := by decide +kernel
theorem b0_310_311 : oBlk code 310 [.iadd] = some 311 := by decide +kernel
theorem b0_311_313 : oBlk code 311 [.bipush 7] = some 313 := by decide +kernel
theorem d0_313 : decode code 313 = .ok (.irem, 1) := by decide +kernel
theorem b0_314_318 : oBlk code 314 [.iload 8, .iload 5] = some 318 := by decide +kernel
theorem b0_318_319 : oBlk code 318 [.iadd] = some 319 := by decide +kernel
theorem b0_319_321 : oBlk code 319 [.bipush 7] = some 321 := by decide +kernel
theorem d0_321 : decode code 321 = .ok (.irem, 1) := by decide +kernel
theorem d0_322 : decode code 322 = .ok (.invokevirtual 19, 3) := by decide +kernel
theorem b0_325_327 : oBlk code 325 [.iload 11] = some 327 := by decide +kernel
theorem d0_327 : decode code 327 = .ok (.if_icmp .ne 7, 3) := by decide +kernel
theorem b0_334_335 : oBlk code 334 [.iconst 0] = some 335 := by decide +kernel
theorem d0_335 : decode code 335 = .ok (.ireturn, 1) := by decide +kernel
theorem b0_330_331 : oBlk code 330 [.iconst 1] = some 331 := by decide +kernel
theorem d0_331 : decode code 331 = .ok (.goto 4, 3) := by decide +kernel
theorem b0_283_287 : oBlk code 283 [.iload 7, .iload 5] = some 287 := by decide +kernel
theorem b0_287_288 : oBlk code 287 [.iadd] = some 288 := by decide +kernel
theorem b0_288_290 : oBlk code 288 [.bipush 7] = some 290 := by decide +kernel
theorem d0_290 : decode code 290 = .ok (.irem, 1) := by decide +kernel
theorem d0_291 : decode code 291 = .ok (.goto 11, 3) := by decide +kernel
set_option maxRecDepth 65536 in
set_option maxHeartbeats 40000000 in
theorem rm_vof (l : Launch) (Z : State) (a0 : Array Value) (hw : ∀ d ∈ tables_1, d.before a0 Z = true) (ca : Nat → Addr) (K : OKa Z ca) (H : Nat) (i0 : Nat) (res : Nat × Nat) (h0 : Heap) (hE0 : Ext Z.heap h0) (R0 : RepP Z ca h0 H) (hM : M_vof H i0 = some res) :
    OCtr l Z (⟨"java/lang/Integer", "valueOf", "(I)Ljava/lang/Integer;"⟩ : MethodName) jdk_33_method_22_code 1 (some (.object "java/lang/Integer")) ({ frames := 0, cells := 0, slots := 0, locals := 0 } : Room) #[(.int (vi i0))] h0 (fun v h => v = some (.ref (ad Z ca res.2)) ∧ RepP Z ca h res.1) := by
  obtain ⟨-, cb, cc, cS1, cS2, cA, hsz, he⟩ := K
  obtain ⟨r, hr, hM⟩ := own_bind hM
  have hr := own_pvof hr
  obtain ⟨h1, hr⟩ := own_nite hr
  obtain ⟨h2, hr⟩ := own_nite hr
  cases hr
  cases hM
  refine o_body (ls0 := #[.val (.int (vi i0))]) (plainFor_of_name pn_0) hE0 (fun m => by first | (simp [entryFrame, mkF, argsToLocals, Value.category]; done) | rfl) ?_
  intro pG eG sG mG bG meG cG
  refine o_blk (pc' := 3) (st' := [(.int (-128 : Int32)), (.int (vi i0))]) (ls' := #[.val (.int (vi i0))]) b10_0_3 rfl ?_
  refine o_icN (pc' := 6) d10_3 rfl (h1 : ¬ (vi i0) < (-128 : Int32)) ?_
  refine o_blk (pc' := 7) (st' := [(.int (vi i0))]) (ls' := #[.val (.int (vi i0))]) b10_6_7 rfl ?_
  refine o_getS (pc' := 10) (v := (.int (127 : Int32))) (own_word hw 69 rfl) cS1 d10_7 rfl ?_
  refine o_icN (pc' := 13) d10_10 rfl (h2 : ¬ (127 : Int32) < (vi i0)) ?_
  refine o_getS (pc' := 16) (v := (.ref cb)) (own_word hw 71 rfl) cS2 d10_13 rfl ?_
  refine o_blk (pc' := 21) (st' := [(.int ((vi i0) + (128 : Int32))), (.ref cb)]) (ls' := #[.val (.int (vi i0))]) b10_16_21 rfl ?_
  refine o_aaldJ (pc' := 22) (v := .ref (ca (vi i0 + (128 : Int32)).toNatClampNeg)) (cA.ext hE0) rfl (own_idx h1 h2 hsz) (he _ (Nat.lt_of_not_le fun z => own_idx h1 h2 rfl (Or.inr z))) d10_21 rfl ?_
  exact o_retA d10_22 (by decide) (by decide) rfl rfl rfl ⟨by rw [own_adc], R0⟩
set_option maxRecDepth 65536 in
set_option maxHeartbeats 40000000 in
theorem rm_ival (l : Launch) (Z : State) (a0 : Array Value) (hw : ∀ d ∈ tables_1, d.before a0 Z = true) (ca : Nat → Addr) (K : OKa Z ca) (H : Nat) (r0 : Nat) (res : Nat × Nat) (h0 : Heap) (hE0 : Ext Z.heap h0) (R0 : RepP Z ca h0 H) (hM : M_ival H r0 = some res) :
    OCtr l Z (⟨"java/lang/Integer", "intValue", "()I"⟩ : MethodName) jdk_33_method_27_code 1 (some .int) ({ frames := 0, cells := 0, slots := 0, locals := 0 } : Room) #[(.ref (ad Z ca r0))] h0 (fun v h => v = some (.int (vi res.2)) ∧ RepP Z ca h res.1) := by
  obtain ⟨z, hr, hM⟩ := own_bind hM
  have hr := own_pival hr
  cases hM
  obtain ⟨h1, hr⟩ := own_ite hr
  have hr := Option.some.inj hr
  have FV := (own_int K.1 hE0 h1).2
  refine o_body (ls0 := #[.val (.ref (ad Z ca r0))]) (plainFor_of_name pn_0) hE0 (fun m => by first | (simp [entryFrame, mkF, argsToLocals, Value.category]; done) | rfl) ?_
  intro pG eG sG mG bG meG cG
  refine o_blk (pc' := 1) (st' := [(.ref (ad Z ca r0))]) (ls' := #[.val (.ref (ad Z ca r0))]) b20_0_1 rfl ?_
  refine o_getF (host := "") (pc' := 4) (v := (.int (Int32.ofNat (r0 - 1000) - 128))) (Or.inl (own_word hw 133 rfl)) FV d20_1 rfl ?_
  exact o_retI d20_4 (by decide) (by decide) rfl ⟨by rw [hr], R0⟩
def M_max (H : Nat) (i0 : Nat) (i1 : Nat) : Option (Nat × Nat) :=
  plt i0 i1 ( some (H, i1) ) ( some (H, i0) )
set_option maxRecDepth 65536 in
set_option maxHeartbeats 40000000 in
theorem rm_max (l : Launch) (Z : State) (a0 : Array Value) (hw : ∀ d ∈ tables_1, d.before a0 Z = true) (ca : Nat → Addr) (K : OKa Z ca) (H : Nat) (i0 : Nat) (i1 : Nat) (res : Nat × Nat) (h0 : Heap) (hE0 : Ext Z.heap h0) (R0 : RepP Z ca h0 H)  (hM : M_max H i0 i1 = some res) :
    OCtr l Z (⟨"java/lang/Math", "max", "(II)I"⟩ : MethodName) jdk_29_method_65_code 2 (some .int) ({ frames := 0, cells := 0, slots := 0, locals := 0 } : Room) #[(.int (vi i0)), (.int (vi i1))] h0 (fun v h => v = some (.int (vi res.2)) ∧ RepP Z ca h res.1) := by
  refine o_bodyS (ls0 := #[.val (.int (vi i0)), .val (.int (vi i1))]) (Jvm.Free.JP.mathPlain rfl (by decide +kernel)) hE0 (fun m => by first | (simp [entryFrame, mkF, argsToLocals, Value.category]; done) | rfl) ?_
  intro pG eG sG mG bG meG cG hS0
  unfold M_max at hM
  refine o_blk (pc' := 2) (st' := [(.int (vi i1)), (.int (vi i0))]) (ls' := #[.val (.int (vi i0)), .val (.int (vi i1))]) b21_0_2 rfl ?_
  obtain ⟨hb1, hM⟩ := own_plt hM
  refine o_ic (pc' := 9) (pc'' := 5) d21_2 (by decide) (by decide) rfl (fun (hc2_2 : (vi i0) < (vi i1)) => ?_) (fun (hc2_2 : ¬ (vi i0) < (vi i1)) => ?_)
  ·
    replace hM := own_condT ((vi_lt hb1).1 hc2_2) hM
    refine o_blk (pc' := 10) (st' := [(.int (vi i1))]) (ls' := #[.val (.int (vi i0)), .val (.int (vi i1))]) b21_9_10 rfl ?_
    cases hM
    exact o_retI d21_10 (by decide) (by decide) rfl ⟨rfl, R0⟩
  ·
    replace hM := own_condF ((vi_lt hb1).2 hc2_2) hM
    refine o_blk (pc' := 6) (st' := [(.int (vi i0))]) (ls' := #[.val (.int (vi i0)), .val (.int (vi i1))]) b21_5_6 rfl ?_
    refine o_goto (pc' := 10) d21_6 (by decide) (by decide) ?_
    cases hM
    exact o_retI d21_10 (by decide) (by decide) rfl ⟨rfl, R0⟩
def M_min (H : Nat) (i0 : Nat) (i1 : Nat) : Option (Nat × Nat) :=
  plt i1 i0 ( some (H, i1) ) ( some (H, i0) )
set_option maxRecDepth 65536 in
set_option maxHeartbeats 40000000 in
theorem rm_min (l : Launch) (Z : State) (a0 : Array Value) (hw : ∀ d ∈ tables_1, d.before a0 Z = true) (ca : Nat → Addr) (K : OKa Z ca) (H : Nat) (i0 : Nat) (i1 : Nat) (res : Nat × Nat) (h0 : Heap) (hE0 : Ext Z.heap h0) (R0 : RepP Z ca h0 H)  (hM : M_min H i0 i1 = some res) :
    OCtr l Z (⟨"java/lang/Math", "min", "(II)I"⟩ : MethodName) jdk_29_method_69_code 2 (some .int) ({ frames := 0, cells := 0, slots := 0, locals := 0 } : Room) #[(.int (vi i0)), (.int (vi i1))] h0 (fun v h => v = some (.int (vi res.2)) ∧ RepP Z ca h res.1) := by
  refine o_bodyS (ls0 := #[.val (.int (vi i0)), .val (.int (vi i1))]) (Jvm.Free.JP.mathPlain rfl (by decide +kernel)) hE0 (fun m => by first | (simp [entryFrame, mkF, argsToLocals, Value.category]; done) | rfl) ?_
  intro pG eG sG mG bG meG cG hS0
  unfold M_min at hM
  refine o_blk (pc' := 2) (st' := [(.int (vi i1)), (.int (vi i0))]) (ls' := #[.val (.int (vi i0)), .val (.int (vi i1))]) b6_0_2 rfl ?_
  obtain ⟨hb1, hM⟩ := own_plt hM
  refine o_ic (pc' := 9) (pc'' := 5) d6_2 (by decide) (by decide) rfl (fun (hc2_2 : (vi i1) < (vi i0)) => ?_) (fun (hc2_2 : ¬ (vi i1) < (vi i0)) => ?_)
  ·
    replace hM := own_condT ((vi_lt hb1).1 hc2_2) hM
    refine o_blk (pc' := 10) (st' := [(.int (vi i1))]) (ls' := #[.val (.int (vi i0)), .val (.int (vi i1))]) b6_9_10 rfl ?_
    cases hM
    exact o_retI d6_10 (by decide) (by decide) rfl ⟨rfl, R0⟩
  ·
    replace hM := own_condF ((vi_lt hb1).2 hc2_2) hM
    refine o_blk (pc' := 6) (st' := [(.int (vi i0))]) (ls' := #[.val (.int (vi i0)), .val (.int (vi i1))]) b6_5_6 rfl ?_
    refine o_goto (pc' := 10) d6_6 (by decide) (by decide) ?_
    cases hM
    exact o_retI d6_10 (by decide) (by decide) rfl ⟨rfl, R0⟩
def M_acol (H : Nat) (r0 : Nat) : Option (Nat × Nat) :=
  some (H, 0)
set_option maxRecDepth 65536 in
set_option maxHeartbeats 40000000 in
theorem rm_acol (l : Launch) (Z : State) (a0 : Array Value) (hw : ∀ d ∈ tables_1, d.before a0 Z = true) (ca : Nat → Addr) (K : OKa Z ca) (H : Nat) (r0 : Nat) (res : Nat × Nat) (h0 : Heap) (hE0 : Ext Z.heap h0) (R0 : RepP Z ca h0 H)  (hM : M_acol H r0 = some res) :
    OCtr l Z (⟨"java/util/AbstractCollection", "<init>", "()V"⟩ : MethodName) jdk_22_method_1_code 1 none ({ frames := 1, cells := 0, slots := 0, locals := 12 } : Room) #[(.ref (ad Z ca r0))] h0 (fun v h => v = none ∧ RepP Z ca h res.1) := by
  refine o_bodyS (ls0 := #[.val (.ref (ad Z ca r0))]) (plainFor_of_name pn_1) hE0 (fun m => by first | (simp [entryFrame, mkF, argsToLocals, Value.category]; done) | rfl) ?_
  intro pG eG sG mG bG meG cG hS0
  unfold M_acol at hM
  refine o_blk (pc' := 1) (st' := [(.ref (ad Z ca r0))]) (ls' := #[.val (.ref (ad Z ca r0))]) b9_0_1 rfl ?_
  refine o_initO (W := 0) (pc' := 4) (own_word hw 60 rfl) (own_word hw 9 rfl) (own_word hw 10 rfl) d9_1 rfl (Nat.le_of_eq rfl) (by decide) (by decide) rfl ?_
  cases hM
  exact o_retV d9_4 (by decide) (by decide) rfl ⟨rfl, R0⟩
def M_deq (H : Nat) (r0 : Nat) : Option (Nat × Nat) :=
  bdP (M_acol H r0) fun q1a q1b => bdP (pnewQ 3 17 q1a 18) fun q2a q2b => kpfr 5 24 q2a r0 q2b fun q3 => some (q3, 0)
set_option maxRecDepth 65536 in
set_option maxHeartbeats 40000000 in
theorem rm_deq (l : Launch) (Z : State) (a0 : Array Value) (hw : ∀ d ∈ tables_1, d.before a0 Z = true) (ca : Nat → Addr) (K : OKa Z ca) (H : Nat) (r0 : Nat) (res : Nat × Nat) (h0 : Heap) (hE0 : Ext Z.heap h0) (R0 : RepP Z ca h0 H)  (hM : M_deq H r0 = some res) :
    OCtr l Z (⟨"java/util/ArrayDeque", "<init>", "()V"⟩ : MethodName) jdk_21_method_3_code 1 none ({ frames := 2, cells := 1, slots := 17, locals := 24 } : Room) #[(.ref (ad Z ca r0))] h0 (fun v h => v = none ∧ RepP Z ca h res.1) := by
  refine o_bodyS (ls0 := #[.val (.ref (ad Z ca r0))]) (plainFor_of_name pn_2) hE0 (fun m => by first | (simp [entryFrame, mkF, argsToLocals, Value.category]; done) | rfl) ?_
  intro pG eG sG mG bG meG cG hS0
  unfold M_deq at hM
  refine o_blk (pc' := 1) (st' := [(.ref (ad Z ca r0))]) (ls' := #[.val (.ref (ad Z ca r0))]) b8_0_1 rfl ?_
  obtain ⟨q1, hq1, hM⟩ := own_bdP hM
  refine o_callI (W := 0) (argsL := []) (rest := []) (pc' := 4) rfl (own_word hw 54 rfl) (own_word hw 55 rfl) (own_word hw 59 rfl) (own_word hw 58 rfl) (by decide) (fun hE => rm_acol l Z a0 hw ca K H r0 q1 h0 hE R0 hq1) d8_1 pd_0 rfl rfl rfl (Nat.le_of_eq rfl) (by decide) (by decide) (by decide) (by decide) rfl ?_
  rintro _ h_q1 ⟨rfl, R_q1⟩ hs_q1
  refine o_blk (pc' := 7) (st' := [(.int (vi 18)), (.ref (ad Z ca r0))]) (ls' := #[.val (.ref (ad Z ca r0))]) b8_4_7 rfl ?_
  obtain ⟨q2, hq2, hM⟩ := own_bdP hM
  refine p_newR (pc' := 10) R_q1 (own_word hw 61 rfl) (own_word hw 62 rfl) hq2 d8_7 (by decide) (by decide) rfl ?_
  intro h_q2 R_q2
  obtain ⟨q3, hq3, hM⟩ := own_kpfr (i := 0) hM rfl
  refine p_putR (t := 1) (i := 0) (pc' := 13) R_q2 (own_lay5 hw) (by decide) (by decide) hq3 rfl rfl (own_word hw 63 rfl) (Or.inl (own_word hw 64 rfl)) (own_word hw 49 rfl) d8_10 rfl ?_
  intro h_q3 R_q3
  cases hM
  exact o_retV d8_13 (by decide) (by decide) rfl ⟨rfl, R_q3⟩
def M_dec (H : Nat) (i0 : Nat) (i1 : Nat) : Option (Nat × Nat) :=
  kdc i0 fun q1 => plt q1 1 ( kdc i1 fun q4 => some (H, q4) ) ( some (H, q1) )
set_option maxRecDepth 65536 in
set_option maxHeartbeats 40000000 in
theorem rm_dec (l : Launch) (Z : State) (a0 : Array Value) (hw : ∀ d ∈ tables_1, d.before a0 Z = true) (ca : Nat → Addr) (K : OKa Z ca) (H : Nat) (i0 : Nat) (i1 : Nat) (res : Nat × Nat) (h0 : Heap) (hE0 : Ext Z.heap h0) (R0 : RepP Z ca h0 H)  (hM : M_dec H i0 i1 = some res) :
    OCtr l Z (⟨"java/util/ArrayDeque", "dec", "(II)I"⟩ : MethodName) jdk_21_method_7_code 2 (some .int) ({ frames := 0, cells := 0, slots := 0, locals := 0 } : Room) #[(.int (vi i0)), (.int (vi i1))] h0 (fun v h => v = some (.int (vi res.2)) ∧ RepP Z ca h res.1) := by
  refine o_bodyS (ls0 := #[.val (.int (vi i0)), .val (.int (vi i1))]) (plainFor_of_name pn_2) hE0 (fun m => by first | (simp [entryFrame, mkF, argsToLocals, Value.category]; done) | rfl) ?_
  intro pG eG sG mG bG meG cG hS0
  unfold M_dec at hM
  obtain ⟨q1, hq1, hM⟩ := own_kdi hM
  refine o_blk (pc' := 3) (st' := []) (ls' := #[.val (.int ((vi i0) + (vi 0))), .val (.int (vi i1))]) b13_0_3 rfl ?_
  rw [hq1]
  refine o_blk (pc' := 4) (st' := [(.int (vi q1))]) (ls' := #[.val (.int (vi q1)), .val (.int (vi i1))]) b13_3_4 rfl ?_
  obtain ⟨hb2, hM⟩ := own_plt hM
  refine o_if (pc' := 11) (pc'' := 7) d13_4 (by decide) (by decide) rfl (fun (hc4_3 : ¬ (vi q1) < (vi 1)) => ?_) (fun (hc4_3 : (vi q1) < (vi 1)) => ?_)
  ·
    replace hM := own_condF ((vi_lt hb2).2 hc4_3) hM
    refine o_blk (pc' := 12) (st' := [(.int (vi q1))]) (ls' := #[.val (.int (vi q1)), .val (.int (vi i1))]) b13_11_12 rfl ?_
    cases hM
    exact o_retI d13_12 (by decide) (by decide) rfl ⟨rfl, R0⟩
  ·
    replace hM := own_condT ((vi_lt hb2).1 hc4_3) hM
    refine o_blk (pc' := 9) (st' := [(.int (vi 2)), (.int (vi i1))]) (ls' := #[.val (.int (vi q1)), .val (.int (vi i1))]) b13_7_9 rfl ?_
    obtain ⟨q4, hq4, hM⟩ := own_kdc hM
    refine o_blk (pc' := 10) (st' := [(.int ((vi i1) - (vi 2)))]) (ls' := #[.val (.int (vi q1)), .val (.int (vi i1))]) b13_9_10 rfl ?_
    rw [hq4]
    refine o_blk (pc' := 11) (st' := []) (ls' := #[.val (.int (vi q4)), .val (.int (vi i1))]) b13_10_11 rfl ?_
    refine o_blk (pc' := 12) (st' := [(.int (vi q4))]) (ls' := #[.val (.int (vi q4)), .val (.int (vi i1))]) b13_11_12 rfl ?_
    cases hM
    exact o_retI d13_12 (by decide) (by decide) rfl ⟨rfl, R0⟩
def M_inc (H : Nat) (i0 : Nat) (i1 : Nat) : Option (Nat × Nat) :=
  plt (Nat.add i0 1) i1 ( some (H, (Nat.add i0 1)) ) ( some (H, 1) )
set_option maxRecDepth 65536 in
set_option maxHeartbeats 40000000 in
theorem rm_inc (l : Launch) (Z : State) (a0 : Array Value) (hw : ∀ d ∈ tables_1, d.before a0 Z = true) (ca : Nat → Addr) (K : OKa Z ca) (H : Nat) (i0 : Nat) (i1 : Nat) (res : Nat × Nat) (h0 : Heap) (hE0 : Ext Z.heap h0) (R0 : RepP Z ca h0 H)  (hM : M_inc H i0 i1 = some res) :
    OCtr l Z (⟨"java/util/ArrayDeque", "inc", "(II)I"⟩ : MethodName) jdk_21_method_6_code 2 (some .int) ({ frames := 0, cells := 0, slots := 0, locals := 0 } : Room) #[(.int (vi i0)), (.int (vi i1))] h0 (fun v h => v = some (.int (vi res.2)) ∧ RepP Z ca h res.1) := by
  refine o_bodyS (ls0 := #[.val (.int (vi i0)), .val (.int (vi i1))]) (plainFor_of_name pn_2) hE0 (fun m => by first | (simp [entryFrame, mkF, argsToLocals, Value.category]; done) | rfl) ?_
  intro pG eG sG mG bG meG cG hS0
  unfold M_inc at hM
  refine o_blk (pc' := 3) (st' := []) (ls' := #[.val (.int ((vi i0) + (vi 2))), .val (.int (vi i1))]) b19_0_3 rfl ?_
  rw [vi_inc i0]
  refine o_blk (pc' := 5) (st' := [(.int (vi i1)), (.int (vi (Nat.add i0 1)))]) (ls' := #[.val (.int (vi (Nat.add i0 1))), .val (.int (vi i1))]) b19_3_5 rfl ?_
  obtain ⟨hb1, hM⟩ := own_plt hM
  refine o_ic (pc' := 10) (pc'' := 8) d19_5 (by decide) (by decide) rfl (fun (hc5_2 : (vi (Nat.add i0 1)) < (vi i1)) => ?_) (fun (hc5_2 : ¬ (vi (Nat.add i0 1)) < (vi i1)) => ?_)
  ·
    replace hM := own_condT ((vi_lt hb1).1 hc5_2) hM
    refine o_blk (pc' := 11) (st' := [(.int (vi (Nat.add i0 1)))]) (ls' := #[.val (.int (vi (Nat.add i0 1))), .val (.int (vi i1))]) b19_10_11 rfl ?_
    cases hM
    exact o_retI d19_11 (by decide) (by decide) rfl ⟨rfl, R0⟩
  ·
    replace hM := own_condF ((vi_lt hb1).2 hc5_2) hM
    refine o_blk (pc' := 10) (st' := []) (ls' := #[.val (.int (vi 1)), .val (.int (vi i1))]) b19_8_10 rfl ?_
    refine o_blk (pc' := 11) (st' := [(.int (vi 1))]) (ls' := #[.val (.int (vi 1)), .val (.int (vi i1))]) b19_10_11 rfl ?_
    cases hM
    exact o_retI d19_11 (by decide) (by decide) rfl ⟨rfl, R0⟩
def M_elat (H : Nat) (r0 : Nat) (i1 : Nat) : Option (Nat × Nat) :=
  krlo H r0 i1 fun q1 => some (H, q1)
set_option maxRecDepth 65536 in
set_option maxHeartbeats 40000000 in
theorem rm_elat (l : Launch) (Z : State) (a0 : Array Value) (hw : ∀ d ∈ tables_1, d.before a0 Z = true) (ca : Nat → Addr) (K : OKa Z ca) (H : Nat) (r0 : Nat) (i1 : Nat) (res : Nat × Nat) (h0 : Heap) (hE0 : Ext Z.heap h0) (R0 : RepP Z ca h0 H)  (hM : M_elat H r0 i1 = some res) :
    OCtr l Z (⟨"java/util/ArrayDeque", "elementAt", "([Ljava/lang/Object;I)Ljava/lang/Object;"⟩ : MethodName) jdk_21_method_10_code 2 (some (.object "java/lang/Object")) ({ frames := 0, cells := 0, slots := 0, locals := 0 } : Room) #[(.ref (ad Z ca r0)), (.int (vi i1))] h0 (fun v h => v = some (.ref (ad Z ca res.2)) ∧ RepP Z ca h res.1) := by
  refine o_bodyS (ls0 := #[.val (.ref (ad Z ca r0)), .val (.int (vi i1))]) (plainFor_of_name pn_2) hE0 (fun m => by first | (simp [entryFrame, mkF, argsToLocals, Value.category]; done) | rfl) ?_
  intro pG eG sG mG bG meG cG hS0
  unfold M_elat at hM
  refine o_blk (pc' := 2) (st' := [(.int (vi i1)), (.ref (ad Z ca r0))]) (ls' := #[.val (.ref (ad Z ca r0)), .val (.int (vi i1))]) b18_0_2 rfl ?_
  obtain ⟨q1, hq1, hM⟩ := own_krlo hM
  refine p_aald (pc' := 3) R0 hq1 d18_2 rfl ?_
  cases hM
  exact o_retA d18_3 (by decide) (by decide) rfl rfl rfl ⟨rfl, R0⟩
def M_isemp (H : Nat) (r0 : Nat) : Option (Nat × Nat) :=
  kgf 5 36 H r0 fun q1 => kgf 5 48 H r0 fun q2 => peq q1 q2 ( some (H, 2) ) ( some (H, 1) )
set_option maxRecDepth 65536 in
set_option maxHeartbeats 40000000 in
theorem rm_isemp (l : Launch) (Z : State) (a0 : Array Value) (hw : ∀ d ∈ tables_1, d.before a0 Z = true) (ca : Nat → Addr) (K : OKa Z ca) (H : Nat) (r0 : Nat) (res : Nat × Nat) (h0 : Heap) (hE0 : Ext Z.heap h0) (R0 : RepP Z ca h0 H)  (hM : M_isemp H r0 = some res) :
    OCtr l Z (⟨"java/util/ArrayDeque", "isEmpty", "()Z"⟩ : MethodName) jdk_21_method_38_code 1 (some .boolean) ({ frames := 0, cells := 0, slots := 0, locals := 0 } : Room) #[(.ref (ad Z ca r0))] h0 (fun v h => v = some (.int (vi res.2)) ∧ RepP Z ca h res.1) := by
  refine o_bodyS (ls0 := #[.val (.ref (ad Z ca r0))]) (plainFor_of_name pn_2) hE0 (fun m => by first | (simp [entryFrame, mkF, argsToLocals, Value.category]; done) | rfl) ?_
  intro pG eG sG mG bG meG cG hS0
  unfold M_isemp at hM
  refine o_blk (pc' := 1) (st' := [(.ref (ad Z ca r0))]) (ls' := #[.val (.ref (ad Z ca r0))]) b14_0_1 rfl ?_
  obtain ⟨q1, hq1, hM⟩ := own_kgfi (i := 0) hM rfl
  refine p_getI (t := 1) (i := 0) (pc' := 4) R0 (by decide) (by decide) hq1 rfl rfl (own_word hw 86 rfl) d14_1 rfl ?_
  refine o_blk (pc' := 5) (st' := [(.ref (ad Z ca r0)), (.int (vi q1))]) (ls' := #[.val (.ref (ad Z ca r0))]) b14_4_5 rfl ?_
  obtain ⟨q2, hq2, hM⟩ := own_kgfi (i := 1) hM rfl
  refine p_getI (t := 1) (i := 1) (pc' := 8) R0 (by decide) (by decide) hq2 rfl rfl (own_word hw 92 rfl) d14_5 rfl ?_
  obtain ⟨hb3, hM⟩ := own_peq hM
  refine o_ic (pc' := 15) (pc'' := 11) d14_8 (by decide) (by decide) rfl (fun (hc8_4 : ¬ (vi q1) = (vi q2)) => ?_) (fun (hc8_4 : (vi q1) = (vi q2)) => ?_)
  ·
    replace hM := own_condF ((vi_eq hb3).2 hc8_4) hM
    refine o_blk (pc' := 16) (st' := [(.int (vi 1))]) (ls' := #[.val (.ref (ad Z ca r0))]) b14_15_16 rfl ?_
    cases hM
    exact o_retZ (w := 0) d14_16 (by decide) (by decide) rfl (by decide) ⟨rfl, R0⟩
  ·
    replace hM := own_condT ((vi_eq hb3).1 hc8_4) hM
    refine o_blk (pc' := 12) (st' := [(.int (vi 2))]) (ls' := #[.val (.ref (ad Z ca r0))]) b14_11_12 rfl ?_
    refine o_goto (pc' := 16) d14_12 (by decide) (by decide) ?_
    cases hM
    exact o_retZ (w := 0) d14_16 (by decide) (by decide) rfl (by decide) ⟨rfl, R0⟩
def M_addf (H : Nat) (r0 : Nat) (r1 : Nat) : Option (Nat × Nat) :=
  kgfr 5 24 H r0 fun q1 => kgf 5 36 H r0 fun q2 => kaln H q1 fun q3 => bdP (M_dec H q2 q3) fun q4a q4b => kpf 5 36 q4a r0 q4b fun q5 => krst3 q5 q1 q4b r1 fun q6 => kgf 5 36 q6 r0 fun q7 => kgf 5 48 q6 r0 fun q8 => peq q7 q8 ( none ) ( some (q6, 0) )
set_option maxRecDepth 65536 in
set_option maxHeartbeats 40000000 in
theorem rm_addf (l : Launch) (Z : State) (a0 : Array Value) (hw : ∀ d ∈ tables_1, d.before a0 Z = true) (ca : Nat → Addr) (K : OKa Z ca) (H : Nat) (r0 : Nat) (r1 : Nat) (res : Nat × Nat) (h0 : Heap) (hE0 : Ext Z.heap h0) (R0 : RepP Z ca h0 H)  (hM : M_addf H r0 r1 = some res) :
    OCtr l Z (⟨"java/util/ArrayDeque", "addFirst", "(Ljava/lang/Object;)V"⟩ : MethodName) jdk_21_method_12_code 3 none ({ frames := 1, cells := 0, slots := 0, locals := 15 } : Room) #[(.ref (ad Z ca r0)), (.ref (ad Z ca r1))] h0 (fun v h => v = none ∧ RepP Z ca h res.1) := by
  refine o_bodyS (ls0 := #[.val (.ref (ad Z ca r0)), .val (.ref (ad Z ca r1)), .unset]) (plainFor_of_name pn_2) hE0 (fun m => by first | (simp [entryFrame, mkF, argsToLocals, Value.category]; done) | rfl) ?_
  intro pG eG sG mG bG meG cG hS0
  unfold M_addf at hM
  refine o_blk (pc' := 1) (st' := [(.ref (ad Z ca r1))]) (ls' := #[.val (.ref (ad Z ca r0)), .val (.ref (ad Z ca r1)), .unset]) b12_0_1 rfl ?_
  refine o_nnY (pc' := 12) d12_1 (by decide) (by decide) ?_
  refine o_blk (pc' := 13) (st' := [(.ref (ad Z ca r0))]) (ls' := #[.val (.ref (ad Z ca r0)), .val (.ref (ad Z ca r1)), .unset]) b12_12_13 rfl ?_
  obtain ⟨q1, hq1, hM⟩ := own_kgfr (i := 0) hM rfl
  refine p_getR (t := 1) (i := 0) (pc' := 16) R0 (by decide) (by decide) hq1 rfl rfl (own_word hw 63 rfl) d12_13 rfl ?_
  refine o_blk (pc' := 17) (st' := []) (ls' := #[.val (.ref (ad Z ca r0)), .val (.ref (ad Z ca r1)), .val (.ref (ad Z ca q1))]) b12_16_17 rfl ?_
  refine o_blk (pc' := 20) (st' := [(.ref (ad Z ca r0)), (.ref (ad Z ca r0)), (.ref (ad Z ca q1))]) (ls' := #[.val (.ref (ad Z ca r0)), .val (.ref (ad Z ca r1)), .val (.ref (ad Z ca q1))]) b12_17_20 rfl ?_
  obtain ⟨q2, hq2, hM⟩ := own_kgfi (i := 0) hM rfl
  refine p_getI (t := 1) (i := 0) (pc' := 23) R0 (by decide) (by decide) hq2 rfl rfl (own_word hw 86 rfl) d12_20 rfl ?_
  refine o_blk (pc' := 24) (st' := [(.ref (ad Z ca q1)), (.int (vi q2)), (.ref (ad Z ca r0)), (.ref (ad Z ca q1))]) (ls' := #[.val (.ref (ad Z ca r0)), .val (.ref (ad Z ca r1)), .val (.ref (ad Z ca q1))]) b12_23_24 rfl ?_
  obtain ⟨q3, hq3, hM⟩ := own_kaln hM
  refine p_len (pc' := 25) R0 hq3 d12_24 rfl ?_
  obtain ⟨q4, hq4, hM⟩ := own_bdP hM
  refine o_callS (W := 2) (argsL := [(.int (vi q2)), (.int (vi q3))]) (rest := [(.ref (ad Z ca r0)), (.ref (ad Z ca q1))]) (pc' := 28) (own_word hw 88 rfl) (own_word hw 89 rfl) (own_word hw 50 rfl) (own_word hw 90 rfl) (by decide) (fun hE => rm_dec l Z a0 hw ca K H q2 q3 q4 h0 hE R0 hq4) d12_25 pd_1 rfl rfl rfl (Nat.le_of_eq rfl) (by decide) (by decide) (by decide) (by decide) rfl ?_
  rintro _ h_q4 ⟨rfl, R_q4⟩ hs_q4
  refine o_blk (pc' := 29) (st' := [(.int (vi q4.2)), (.ref (ad Z ca r0)), (.int (vi q4.2)), (.ref (ad Z ca q1))]) (ls' := #[.val (.ref (ad Z ca r0)), .val (.ref (ad Z ca r1)), .val (.ref (ad Z ca q1))]) b12_28_29 rfl ?_
  obtain ⟨q5, hq5, hM⟩ := own_kpfi (i := 0) hM rfl
  refine p_putI (t := 1) (i := 0) (pc' := 32) R_q4 (own_lay5 hw) (by decide) (by decide) hq5 rfl rfl (own_word hw 86 rfl) (Or.inl (own_word hw 87 rfl)) (own_word hw 49 rfl) d12_29 rfl ?_
  intro h_q5 R_q5
  refine o_blk (pc' := 33) (st' := [(.ref (ad Z ca r1)), (.int (vi q4.2)), (.ref (ad Z ca q1))]) (ls' := #[.val (.ref (ad Z ca r0)), .val (.ref (ad Z ca r1)), .val (.ref (ad Z ca q1))]) b12_32_33 rfl ?_
  obtain ⟨q6, hq6, hM⟩ := own_krst3 hM
  refine p_aast3 (pc' := 34) R_q5 K.1 (own_word hw 143 rfl) (own_word hw 91 rfl) hq6 d12_33 rfl ?_
  intro h_q6 R_q6
  refine o_blk (pc' := 35) (st' := [(.ref (ad Z ca r0))]) (ls' := #[.val (.ref (ad Z ca r0)), .val (.ref (ad Z ca r1)), .val (.ref (ad Z ca q1))]) b12_34_35 rfl ?_
  obtain ⟨q7, hq7, hM⟩ := own_kgfi (i := 0) hM rfl
  refine p_getI (t := 1) (i := 0) (pc' := 38) R_q6 (by decide) (by decide) hq7 rfl rfl (own_word hw 86 rfl) d12_35 rfl ?_
  refine o_blk (pc' := 39) (st' := [(.ref (ad Z ca r0)), (.int (vi q7))]) (ls' := #[.val (.ref (ad Z ca r0)), .val (.ref (ad Z ca r1)), .val (.ref (ad Z ca q1))]) b12_38_39 rfl ?_
  obtain ⟨q8, hq8, hM⟩ := own_kgfi (i := 1) hM rfl
  refine p_getI (t := 1) (i := 1) (pc' := 42) R_q6 (by decide) (by decide) hq8 rfl rfl (own_word hw 92 rfl) d12_39 rfl ?_
  obtain ⟨hb9, hM⟩ := own_peq hM
  refine o_ic (pc' := 50) (pc'' := 45) d12_42 (by decide) (by decide) rfl (fun (hc42_10 : ¬ (vi q7) = (vi q8)) => ?_) (fun (hc42_10 : (vi q7) = (vi q8)) => ?_)
  ·
    replace hM := own_condF ((vi_eq hb9).2 hc42_10) hM
    cases hM
    exact o_retV d12_50 (by decide) (by decide) rfl ⟨rfl, R_q6⟩
  ·
    replace hM := own_condT ((vi_eq hb9).1 hc42_10) hM
    exact nomatch hM
def M_push (H : Nat) (r0 : Nat) (r1 : Nat) : Option (Nat × Nat) :=
  kisA 5 H r0 ( bdP (M_addf H r0 r1) fun q2a q2b => some (q2a, 0) )
set_option maxRecDepth 65536 in
set_option maxHeartbeats 40000000 in
theorem rm_push (l : Launch) (Z : State) (a0 : Array Value) (hw : ∀ d ∈ tables_1, d.before a0 Z = true) (ca : Nat → Addr) (K : OKa Z ca) (H : Nat) (r0 : Nat) (r1 : Nat) (res : Nat × Nat) (h0 : Heap) (hE0 : Ext Z.heap h0) (R0 : RepP Z ca h0 H)  (hM : M_push H r0 r1 = some res) :
    OCtr l Z (⟨"java/util/ArrayDeque", "push", "(Ljava/lang/Object;)V"⟩ : MethodName) jdk_21_method_34_code 2 none ({ frames := 2, cells := 0, slots := 0, locals := 29 } : Room) #[(.ref (ad Z ca r0)), (.ref (ad Z ca r1))] h0 (fun v h => v = none ∧ RepP Z ca h res.1) := by
  refine o_bodyS (ls0 := #[.val (.ref (ad Z ca r0)), .val (.ref (ad Z ca r1))]) (plainFor_of_name pn_2) hE0 (fun m => by first | (simp [entryFrame, mkF, argsToLocals, Value.category]; done) | rfl) ?_
  intro pG eG sG mG bG meG cG hS0
  unfold M_push at hM
  refine o_blk (pc' := 2) (st' := [(.ref (ad Z ca r1)), (.ref (ad Z ca r0))]) (ls' := #[.val (.ref (ad Z ca r0)), .val (.ref (ad Z ca r1))]) b11_0_2 rfl ?_
  obtain ⟨hb1, hM⟩ := own_kisA hM
  obtain ⟨q2, hq2, hM⟩ := own_bdP hM
  refine o_callV (W := 0) (argsL := [(.ref (ad Z ca r1))]) (rest := []) (pc' := 5) (own_word hw 81 rfl) (own_word hw 82 rfl) (own_word hw 84 rfl) (own_word hw 84 rfl) (own_word hw 83 rfl) (own_word hw 85 rfl) (own_word hw 50 rfl) (by decide) (R0.exa (t := 1) hb1) (fun hE => rm_addf l Z a0 hw ca K H r0 r1 q2 h0 hE R0 hq2) d11_2 pd_2 rfl rfl rfl (Nat.le_of_eq rfl) (by decide) (by decide) (by decide) (by decide) rfl ?_
  rintro _ h_q2 ⟨rfl, R_q2⟩ hs_q2
  cases hM
  exact o_retV d11_5 (by decide) (by decide) rfl ⟨rfl, R_q2⟩
def M_pollf (H : Nat) (r0 : Nat) : Option (Nat × Nat) :=
  kgfr 5 24 H r0 fun q1 => kgf 5 36 H r0 fun q2 => bdP (M_elat H q1 q2) fun q3a q3b => kist 3 q3a q1 q2 0 fun q4 => kaln q4 q1 fun q5 => bdP (M_inc q4 q2 q5) fun q6a q6b => kpf 5 36 q6a r0 q6b fun q7 => some (q7, q3b)
set_option maxRecDepth 65536 in
set_option maxHeartbeats 40000000 in
theorem rm_pollf (l : Launch) (Z : State) (a0 : Array Value) (hw : ∀ d ∈ tables_1, d.before a0 Z = true) (ca : Nat → Addr) (K : OKa Z ca) (H : Nat) (r0 : Nat) (res : Nat × Nat) (h0 : Heap) (hE0 : Ext Z.heap h0) (R0 : RepP Z ca h0 H)  (hM : M_pollf H r0 = some res) :
    OCtr l Z (⟨"java/util/ArrayDeque", "pollFirst", "()Ljava/lang/Object;"⟩ : MethodName) jdk_21_method_20_code 4 (some (.object "java/lang/Object")) ({ frames := 1, cells := 0, slots := 0, locals := 14 } : Room) #[(.ref (ad Z ca r0))] h0 (fun v h => v = some (.ref (ad Z ca res.2)) ∧ RepP Z ca h res.1) := by
  refine o_bodyS (ls0 := #[.val (.ref (ad Z ca r0)), .unset, .unset, .unset]) (plainFor_of_name pn_2) hE0 (fun m => by first | (simp [entryFrame, mkF, argsToLocals, Value.category]; done) | rfl) ?_
  intro pG eG sG mG bG meG cG hS0
  unfold M_pollf at hM
  refine o_blk (pc' := 1) (st' := [(.ref (ad Z ca r0))]) (ls' := #[.val (.ref (ad Z ca r0)), .unset, .unset, .unset]) b17_0_1 rfl ?_
  obtain ⟨q1, hq1, hM⟩ := own_kgfr (i := 0) hM rfl
  refine p_getR (t := 1) (i := 0) (pc' := 4) R0 (by decide) (by decide) hq1 rfl rfl (own_word hw 63 rfl) d17_1 rfl ?_
  refine o_blk (pc' := 6) (st' := [(.ref (ad Z ca q1))]) (ls' := #[.val (.ref (ad Z ca r0)), .val (.ref (ad Z ca q1)), .unset, .unset]) b17_4_6 rfl ?_
  refine o_blk (pc' := 7) (st' := [(.ref (ad Z ca r0)), (.ref (ad Z ca q1))]) (ls' := #[.val (.ref (ad Z ca r0)), .val (.ref (ad Z ca q1)), .unset, .unset]) b17_6_7 rfl ?_
  obtain ⟨q2, hq2, hM⟩ := own_kgfi (i := 0) hM rfl
  refine p_getI (t := 1) (i := 0) (pc' := 10) R0 (by decide) (by decide) hq2 rfl rfl (own_word hw 86 rfl) d17_7 rfl ?_
  refine o_blk (pc' := 12) (st' := [(.int (vi q2)), (.ref (ad Z ca q1))]) (ls' := #[.val (.ref (ad Z ca r0)), .val (.ref (ad Z ca q1)), .val (.int (vi q2)), .unset]) b17_10_12 rfl ?_
  obtain ⟨q3, hq3, hM⟩ := own_bdP hM
  refine o_callS (W := 0) (argsL := [(.ref (ad Z ca q1)), (.int (vi q2))]) (rest := []) (pc' := 15) (own_word hw 120 rfl) (own_word hw 121 rfl) (own_word hw 50 rfl) (own_word hw 122 rfl) (by decide) (fun hE => rm_elat l Z a0 hw ca K H q1 q2 q3 h0 hE R0 hq3) d17_12 pd_3 rfl rfl rfl (Nat.le_of_eq rfl) (by decide) (by decide) (by decide) (by decide) rfl ?_
  rintro _ h_q3 ⟨rfl, R_q3⟩ hs_q3
  refine o_blk (pc' := 16) (st' := []) (ls' := #[.val (.ref (ad Z ca r0)), .val (.ref (ad Z ca q1)), .val (.int (vi q2)), .val (.ref (ad Z ca q3.2))]) b17_15_16 rfl ?_
  refine o_blk (pc' := 17) (st' := [(.ref (ad Z ca q3.2))]) (ls' := #[.val (.ref (ad Z ca r0)), .val (.ref (ad Z ca q1)), .val (.int (vi q2)), .val (.ref (ad Z ca q3.2))]) b17_16_17 rfl ?_
  refine o_nuN (pc' := 20) d17_17 rfl ?_
  refine o_blk (pc' := 23) (st' := [.null, (.int (vi q2)), (.ref (ad Z ca q1))]) (ls' := #[.val (.ref (ad Z ca r0)), .val (.ref (ad Z ca q1)), .val (.int (vi q2)), .val (.ref (ad Z ca q3.2))]) b17_20_23 rfl ?_
  obtain ⟨q4, hq4, hM⟩ := own_krst hM
  refine p_aastN (pc' := 24) R_q3 hq4 d17_23 rfl ?_
  intro h_q4 R_q4
  refine o_blk (pc' := 27) (st' := [(.ref (ad Z ca q1)), (.int (vi q2)), (.ref (ad Z ca r0))]) (ls' := #[.val (.ref (ad Z ca r0)), .val (.ref (ad Z ca q1)), .val (.int (vi q2)), .val (.ref (ad Z ca q3.2))]) b17_24_27 rfl ?_
  obtain ⟨q5, hq5, hM⟩ := own_kaln hM
  refine p_len (pc' := 28) R_q4 hq5 d17_27 rfl ?_
  obtain ⟨q6, hq6, hM⟩ := own_bdP hM
  refine o_callS (W := 1) (argsL := [(.int (vi q2)), (.int (vi q5))]) (rest := [(.ref (ad Z ca r0))]) (pc' := 31) (own_word hw 123 rfl) (own_word hw 124 rfl) (own_word hw 50 rfl) (own_word hw 125 rfl) (by decide) (fun hE => rm_inc l Z a0 hw ca K q4 q2 q5 q6 h_q4 hE R_q4 hq6) d17_28 pd_1 rfl rfl rfl (Nat.le_of_eq rfl) (by decide) (by decide) (by decide) (by decide) rfl ?_
  rintro _ h_q6 ⟨rfl, R_q6⟩ hs_q6
  obtain ⟨q7, hq7, hM⟩ := own_kpfi (i := 0) hM rfl
  refine p_putI (t := 1) (i := 0) (pc' := 34) R_q6 (own_lay5 hw) (by decide) (by decide) hq7 rfl rfl (own_word hw 86 rfl) (Or.inl (own_word hw 87 rfl)) (own_word hw 49 rfl) d17_31 rfl ?_
  intro h_q7 R_q7
  refine o_blk (pc' := 35) (st' := [(.ref (ad Z ca q3.2))]) (ls' := #[.val (.ref (ad Z ca r0)), .val (.ref (ad Z ca q1)), .val (.int (vi q2)), .val (.ref (ad Z ca q3.2))]) b17_34_35 rfl ?_
  cases hM
  exact o_retA d17_35 (by decide) (by decide) rfl rfl rfl ⟨rfl, R_q7⟩
def M_remf (H : Nat) (r0 : Nat) : Option (Nat × Nat) :=
  kisA 5 H r0 ( bdP (M_pollf H r0) fun q2a q2b => some (q2a, q2b) )
set_option maxRecDepth 65536 in
set_option maxHeartbeats 40000000 in
theorem rm_remf (l : Launch) (Z : State) (a0 : Array Value) (hw : ∀ d ∈ tables_1, d.before a0 Z = true) (ca : Nat → Addr) (K : OKa Z ca) (H : Nat) (r0 : Nat) (res : Nat × Nat) (h0 : Heap) (hE0 : Ext Z.heap h0) (R0 : RepP Z ca h0 H)  (hM : M_remf H r0 = some res) :
    OCtr l Z (⟨"java/util/ArrayDeque", "removeFirst", "()Ljava/lang/Object;"⟩ : MethodName) jdk_21_method_18_code 2 (some (.object "java/lang/Object")) ({ frames := 2, cells := 0, slots := 0, locals := 29 } : Room) #[(.ref (ad Z ca r0))] h0 (fun v h => v = some (.ref (ad Z ca res.2)) ∧ RepP Z ca h res.1) := by
  refine o_bodyS (ls0 := #[.val (.ref (ad Z ca r0)), .unset]) (plainFor_of_name pn_2) hE0 (fun m => by first | (simp [entryFrame, mkF, argsToLocals, Value.category]; done) | rfl) ?_
  intro pG eG sG mG bG meG cG hS0
  unfold M_remf at hM
  refine o_blk (pc' := 1) (st' := [(.ref (ad Z ca r0))]) (ls' := #[.val (.ref (ad Z ca r0)), .unset]) b16_0_1 rfl ?_
  obtain ⟨hb1, hM⟩ := own_kisA hM
  obtain ⟨q2, hq2, hM⟩ := own_bdP hM
  refine o_callV (W := 0) (argsL := []) (rest := []) (pc' := 4) (own_word hw 115 rfl) (own_word hw 116 rfl) (own_word hw 118 rfl) (own_word hw 118 rfl) (own_word hw 117 rfl) (own_word hw 119 rfl) (own_word hw 50 rfl) (by decide) (R0.exa (t := 1) hb1) (fun hE => rm_pollf l Z a0 hw ca K H r0 q2 h0 hE R0 hq2) d16_1 pd_4 rfl rfl rfl (Nat.le_of_eq rfl) (by decide) (by decide) (by decide) (by decide) rfl ?_
  rintro _ h_q2 ⟨rfl, R_q2⟩ hs_q2
  refine o_blk (pc' := 5) (st' := []) (ls' := #[.val (.ref (ad Z ca r0)), .val (.ref (ad Z ca q2.2))]) b16_4_5 rfl ?_
  refine o_blk (pc' := 6) (st' := [(.ref (ad Z ca q2.2))]) (ls' := #[.val (.ref (ad Z ca r0)), .val (.ref (ad Z ca q2.2))]) b16_5_6 rfl ?_
  refine o_nnY (pc' := 17) d16_6 (by decide) (by decide) ?_
  refine o_blk (pc' := 18) (st' := [(.ref (ad Z ca q2.2))]) (ls' := #[.val (.ref (ad Z ca r0)), .val (.ref (ad Z ca q2.2))]) b16_17_18 rfl ?_
  cases hM
  exact o_retA d16_18 (by decide) (by decide) rfl rfl rfl ⟨rfl, R_q2⟩
def M_pop (H : Nat) (r0 : Nat) : Option (Nat × Nat) :=
  kisA 5 H r0 ( bdP (M_remf H r0) fun q2a q2b => some (q2a, q2b) )
set_option maxRecDepth 65536 in
set_option maxHeartbeats 40000000 in
theorem rm_pop (l : Launch) (Z : State) (a0 : Array Value) (hw : ∀ d ∈ tables_1, d.before a0 Z = true) (ca : Nat → Addr) (K : OKa Z ca) (H : Nat) (r0 : Nat) (res : Nat × Nat) (h0 : Heap) (hE0 : Ext Z.heap h0) (R0 : RepP Z ca h0 H)  (hM : M_pop H r0 = some res) :
    OCtr l Z (⟨"java/util/ArrayDeque", "pop", "()Ljava/lang/Object;"⟩ : MethodName) jdk_21_method_35_code 1 (some (.object "java/lang/Object")) ({ frames := 3, cells := 0, slots := 0, locals := 42 } : Room) #[(.ref (ad Z ca r0))] h0 (fun v h => v = some (.ref (ad Z ca res.2)) ∧ RepP Z ca h res.1) := by
  refine o_bodyS (ls0 := #[.val (.ref (ad Z ca r0))]) (plainFor_of_name pn_2) hE0 (fun m => by first | (simp [entryFrame, mkF, argsToLocals, Value.category]; done) | rfl) ?_
  intro pG eG sG mG bG meG cG hS0
  unfold M_pop at hM
  refine o_blk (pc' := 1) (st' := [(.ref (ad Z ca r0))]) (ls' := #[.val (.ref (ad Z ca r0))]) b15_0_1 rfl ?_
  obtain ⟨hb1, hM⟩ := own_kisA hM
  obtain ⟨q2, hq2, hM⟩ := own_bdP hM
  refine o_callV (W := 0) (argsL := []) (rest := []) (pc' := 4) (own_word hw 110 rfl) (own_word hw 111 rfl) (own_word hw 113 rfl) (own_word hw 113 rfl) (own_word hw 112 rfl) (own_word hw 114 rfl) (own_word hw 50 rfl) (by decide) (R0.exa (t := 1) hb1) (fun hE => rm_remf l Z a0 hw ca K H r0 q2 h0 hE R0 hq2) d15_1 pd_4 rfl rfl rfl (Nat.le_of_eq rfl) (by decide) (by decide) (by decide) (by decide) rfl ?_
  rintro _ h_q2 ⟨rfl, R_q2⟩ hs_q2
  cases hM
  exact o_retA d15_4 (by decide) (by decide) rfl rfl rfl ⟨rfl, R_q2⟩
theorem own_minH {H a b : Nat} {q : Nat × Nat} (h : M_min H a b = some q) : q.1 = H := by
  unfold M_min at h
  obtain ⟨-, h⟩ := own_plt h
  cases z : Nat.blt b a <;> rw [z] at h <;> cases h <;> rfl
def M_cpo (H : Nat) (r0 : Nat) (i1 : Nat) : Option (Nat × Nat) :=
  kaln H r0 fun q1 => peq i1 q1 ( none ) ( bdP (pnewI 0 H i1) fun q4a q4b => kaln q4a r0 fun q5 => bdP (M_min q4a q5 i1) fun q6a q6b => bdN (pcpy q6a r0 q4b q6b) fun q7 => some (q7, q4b) )
set_option maxRecDepth 65536 in
set_option maxHeartbeats 40000000 in
theorem rm_cpo (l : Launch) (Z : State) (a0 : Array Value) (hw : ∀ d ∈ tables_1, d.before a0 Z = true) (ca : Nat → Addr) (K : OKa Z ca) (H : Nat) (r0 : Nat) (i1 : Nat) (res : Nat × Nat) (h0 : Heap) (hE0 : Ext Z.heap h0) (R0 : RepP Z ca h0 H)  (hM : M_cpo H r0 i1 = some res) :
    OCtr l Z (⟨"java/util/Arrays", "copyOf", "([II)[I"⟩ : MethodName) jdk_65_method_123_code 3 (some (.array .int)) ({ frames := 1, cells := 1, slots := 8, locals := 18 } : Room) #[(.ref (ad Z ca r0)), (.int (vi i1))] h0 (fun v h => v = some (.ref (ad Z ca res.2)) ∧ RepP Z ca h res.1) := by
  refine o_bodyS (ls0 := #[.val (.ref (ad Z ca r0)), .val (.int (vi i1)), .unset]) (plainFor_of_name pn_3) hE0 (fun m => by first | (simp [entryFrame, mkF, argsToLocals, Value.category]; done) | rfl) ?_
  intro pG eG sG mG bG meG cG hS0
  unfold M_cpo at hM
  refine o_blk (pc' := 2) (st' := [(.ref (ad Z ca r0)), (.int (vi i1))]) (ls' := #[.val (.ref (ad Z ca r0)), .val (.int (vi i1)), .unset]) b5_0_2 rfl ?_
  obtain ⟨q1, hq1, hM⟩ := own_kaln hM
  refine p_len (pc' := 3) R0 hq1 d5_2 rfl ?_
  obtain ⟨hb2, hM⟩ := own_peq hM
  refine o_ic (pc' := 14) (pc'' := 6) d5_3 (by decide) (by decide) rfl (fun (hc3_3 : ¬ (vi i1) = (vi q1)) => ?_) (fun (hc3_3 : (vi i1) = (vi q1)) => ?_)
  ·
    replace hM := own_condF ((vi_eq hb2).2 hc3_3) hM
    refine o_blk (pc' := 15) (st' := [(.int (vi i1))]) (ls' := #[.val (.ref (ad Z ca r0)), .val (.int (vi i1)), .unset]) b5_14_15 rfl ?_
    obtain ⟨q4, hq4, hM⟩ := own_bdP hM
    refine p_newI (pc' := 17) R0 (own_word hw 0 rfl) hq4 d5_15 (by decide) (by decide) rfl ?_
    intro h_q4 R_q4
    refine o_blk (pc' := 18) (st' := []) (ls' := #[.val (.ref (ad Z ca r0)), .val (.int (vi i1)), .val (.ref (ad Z ca q4.2))]) b5_17_18 rfl ?_
    refine o_blk (pc' := 23) (st' := [(.ref (ad Z ca r0)), (.int (vi 1)), (.ref (ad Z ca q4.2)), (.int (vi 1)), (.ref (ad Z ca r0))]) (ls' := #[.val (.ref (ad Z ca r0)), .val (.int (vi i1)), .val (.ref (ad Z ca q4.2))]) b5_18_23 rfl ?_
    obtain ⟨q5, hq5, hM⟩ := own_kaln hM
    refine p_len (pc' := 24) R_q4 hq5 d5_23 rfl ?_
    refine o_blk (pc' := 25) (st' := [(.int (vi i1)), (.int (vi q5)), (.int (vi 1)), (.ref (ad Z ca q4.2)), (.int (vi 1)), (.ref (ad Z ca r0))]) (ls' := #[.val (.ref (ad Z ca r0)), .val (.int (vi i1)), .val (.ref (ad Z ca q4.2))]) b5_24_25 rfl ?_
    obtain ⟨q6, hq6, hM⟩ := own_bdP hM
    refine o_callS (W := 4) (argsL := [(.int (vi q5)), (.int (vi i1))]) (rest := [(.int (vi 1)), (.ref (ad Z ca q4.2)), (.int (vi 1)), (.ref (ad Z ca r0))]) (pc' := 28) (own_word hw 28 rfl) (own_word hw 29 rfl) (own_word hw 30 rfl) (own_word hw 31 rfl) (by decide) (fun hE => rm_min l Z a0 hw ca K q4.1 q5 i1 q6 h_q4 hE R_q4 hq6) d5_25 pd_1 rfl rfl rfl (Nat.le_of_eq rfl) (by decide) (by decide) (by decide) (by decide) rfl ?_
    rintro _ h_q6 ⟨rfl, R_q6⟩ hs_q6
    obtain ⟨q7, hq7, hM⟩ := own_bdN hM
    refine p_cpy (W := 0) (pc' := 31) R_q6 (by rw [hS0, R_q6.size, R0.size, own_minH hq6, pnewI_len hq4]; rfl) (own_word hw 32 rfl) (own_word hw 35 rfl) (own_word hw 33 rfl) (own_word hw 34 rfl) hq7 d5_28 rfl (Nat.le_of_eq rfl) (by decide) (by decide) rfl ?_
    intro h_q7 R_q7
    refine o_blk (pc' := 32) (st' := [(.ref (ad Z ca q4.2))]) (ls' := #[.val (.ref (ad Z ca r0)), .val (.int (vi i1)), .val (.ref (ad Z ca q4.2))]) b5_31_32 rfl ?_
    cases hM
    exact o_retA d5_32 (by decide) (by decide) rfl rfl rfl ⟨rfl, R_q7⟩
  ·
    replace hM := own_condT ((vi_eq hb2).1 hc3_3) hM
    exact nomatch hM
def B_chi_13 (r0 : Nat) (r1 : Nat) (rec : Nat → Nat → Nat → Nat → Nat → Nat → Option (Nat × Nat)) (H : Nat) (t : Nat) (r2 : Nat) (i3 : Nat) (i4 : Nat) : Option (Nat × Nat) :=
  plt i4 i3 ( kilo 0 H r2 i4 fun q5 => plt q5 1 ( rec 13 H 0 r2 i3 (Nat.add i4 1) ) ( kilo 0 H r1 q5 fun q8 => kist 0 H r1 q5 (Nat.add q8 1) fun q9 => rec 13 q9 0 r2 i3 (Nat.add i4 1) ) ) ( kaln H r0 fun q3 => bdP (pnewQ 2 8 H q3) fun q4a q4b => rec 52 q4a 0 q4b 1 0 )
def B_chi_52 (r0 : Nat) (r1 : Nat) (rec : Nat → Nat → Nat → Nat → Nat → Nat → Option (Nat × Nat)) (H : Nat) (t : Nat) (r2 : Nat) (i3 : Nat) (i4 : Nat) : Option (Nat × Nat) :=
  kaln H r0 fun q1 => plt i3 q1 ( kilo 0 H r1 i3 fun q4 => bdP (pnewI 0 H q4) fun q5a q5b => gd (Nat.blt t 8) ( krst2 q5a r2 i3 q5b fun q7 => kist 0 q7 r1 i3 1 fun q8 => rec 52 q8 (t + 1) r2 (Nat.add i3 1) 0 ) ) ( rec 78 H t r2 1 0 )
def B_chi_78 (r0 : Nat) (r1 : Nat) (rec : Nat → Nat → Nat → Nat → Nat → Nat → Option (Nat × Nat)) (H : Nat) (t : Nat) (r2 : Nat) (i3 : Nat) (i4 : Nat) : Option (Nat × Nat) :=
  kaln H r0 fun q1 => plt i3 q1 ( kilo 0 H r0 i3 fun q4 => plt q4 1 ( rec 78 H t r2 (Nat.add i3 1) 0 ) ( krlo H r2 q4 fun q7 => kilo 0 H r1 q4 fun q8 => kist 0 H r1 q4 (Nat.add q8 1) fun q9 => kist 0 q9 q7 q8 i3 fun q10 => rec 78 q10 t r2 (Nat.add i3 1) 0 ) ) ( some (H, r2) )
def L_chi (r0 : Nat) (r1 : Nat) (n : Nat) : Nat → Nat → Nat → Nat → Nat → Nat → Option (Nat × Nat) := Nat.rec (motive := fun _ => Nat → Nat → Nat → Nat → Nat → Nat → Option (Nat × Nat)) (fun _ _ _ _ _ _ => none) (fun _ ih => fun hd => br (Nat.beq hd 13) (B_chi_13 r0 r1 ih) (br (Nat.beq hd 52) (B_chi_52 r0 r1 ih) (br (Nat.beq hd 78) (B_chi_78 r0 r1 ih) (fun _ _ _ _ _ => none)))) n
def M_chi (H : Nat) (r0 : Nat) : Option (Nat × Nat) :=
  kaln H r0 fun q1 => bdP (pnewI 0 H q1) fun q2a q2b => kaln q2a r0 fun q3 => L_chi r0 q2b 60 13 q2a 0 r0 q3 1
set_option maxRecDepth 65536 in
set_option maxHeartbeats 40000000 in
theorem rm_chi (l : Launch) (Z : State) (a0 : Array Value) (hw : ∀ d ∈ tables_1, d.before a0 Z = true) (ca : Nat → Addr) (K : OKa Z ca) (H : Nat) (r0 : Nat) (res : Nat × Nat) (h0 : Heap) (hE0 : Ext Z.heap h0) (R0 : RepP Z ca h0 H)  (hM : M_chi H r0 = some res) :
    OCtr l Z (⟨"com/example/mild_horn/mildhorn/translation/Centroids", "children", "([I)[[I"⟩ : MethodName) prog_40_method_6_code 6 (some (.array (.array .int))) ({ frames := 0, cells := 10, slots := 80, locals := 0 } : Room) #[(.ref (ad Z ca r0))] h0 (fun v h => v = some (.ref (ad Z ca res.2)) ∧ RepP Z ca h res.1) := by
  refine o_bodyS (ls0 := #[.val (.ref (ad Z ca r0)), .unset, .unset, .unset, .unset, .unset]) (plainFor_of_name pn_4) hE0 (fun m => by first | (simp [entryFrame, mkF, argsToLocals, Value.category]; done) | rfl) ?_
  intro pG eG sG mG bG meG cG hS0
  have LP : ∀ f : Nat, (∀ (h : Heap) (H : Nat) (r1 : Nat) (r2 : Nat) (i3 : Nat) (i4 : Nat) (x5 : Slot) (p5 : Pl x5) (R : RepP Z ca h H) (hM : L_chi r0 r1 f 13 H 0 r2 i3 i4 = some res), OG pG l eG ({ frames := 0, cells := 10, slots := 80, locals := 0 } : Room) sG mG #[(.ref (ad Z ca r0))] bG meG cG Z (⟨"com/example/mild_horn/mildhorn/translation/Centroids", "children", "([I)[[I"⟩ : MethodName).cls (⟨"com/example/mild_horn/mildhorn/translation/Centroids", "children", "([I)[[I"⟩ : MethodName).name prog_40_method_6_code 6 (some (.array (.array .int))) (fun v h => v = some (.ref (ad Z ca res.2)) ∧ RepP Z ca h res.1) ({ frames := 0, cells := 10, slots := 80, locals := 0 } : Room).cells ({ frames := 0, cells := 10, slots := 80, locals := 0 } : Room).slots h 1 8 (mkF mG 13 #[.val (.ref (ad Z ca r0)), .val (.ref (ad Z ca r1)), .val (.ref (ad Z ca r2)), .val (.int (vi i3)), .val (.int (vi i4)), x5] [])) ∧ (∀ (h : Heap) (H : Nat) (t : Nat) (ht : t ≤ 8) (c s : Nat) (ec : c = 2 + 1 * t) (es : s = 16 + 8 * t) (r1 : Nat) (r2 : Nat) (i3 : Nat) (x4 : Slot) (p4 : Pl x4) (x5 : Slot) (p5 : Pl x5) (R : RepP Z ca h H) (hM : L_chi r0 r1 f 52 H t r2 i3 0 = some res), OG pG l eG ({ frames := 0, cells := 10, slots := 80, locals := 0 } : Room) sG mG #[(.ref (ad Z ca r0))] bG meG cG Z (⟨"com/example/mild_horn/mildhorn/translation/Centroids", "children", "([I)[[I"⟩ : MethodName).cls (⟨"com/example/mild_horn/mildhorn/translation/Centroids", "children", "([I)[[I"⟩ : MethodName).name prog_40_method_6_code 6 (some (.array (.array .int))) (fun v h => v = some (.ref (ad Z ca res.2)) ∧ RepP Z ca h res.1) ({ frames := 0, cells := 10, slots := 80, locals := 0 } : Room).cells ({ frames := 0, cells := 10, slots := 80, locals := 0 } : Room).slots h c s (mkF mG 52 #[.val (.ref (ad Z ca r0)), .val (.ref (ad Z ca r1)), .val (.ref (ad Z ca r2)), .val (.int (vi i3)), x4, x5] [])) ∧ (∀ (h : Heap) (H : Nat) (t : Nat) (ht : t ≤ 8) (c s : Nat) (ec : c = 2 + 1 * t) (es : s = 16 + 8 * t) (r1 : Nat) (r2 : Nat) (i3 : Nat) (x4 : Slot) (p4 : Pl x4) (x5 : Slot) (p5 : Pl x5) (R : RepP Z ca h H) (hM : L_chi r0 r1 f 78 H t r2 i3 0 = some res), OG pG l eG ({ frames := 0, cells := 10, slots := 80, locals := 0 } : Room) sG mG #[(.ref (ad Z ca r0))] bG meG cG Z (⟨"com/example/mild_horn/mildhorn/translation/Centroids", "children", "([I)[[I"⟩ : MethodName).cls (⟨"com/example/mild_horn/mildhorn/translation/Centroids", "children", "([I)[[I"⟩ : MethodName).name prog_40_method_6_code 6 (some (.array (.array .int))) (fun v h => v = some (.ref (ad Z ca res.2)) ∧ RepP Z ca h res.1) ({ frames := 0, cells := 10, slots := 80, locals := 0 } : Room).cells ({ frames := 0, cells := 10, slots := 80, locals := 0 } : Room).slots h c s (mkF mG 78 #[.val (.ref (ad Z ca r0)), .val (.ref (ad Z ca r1)), .val (.ref (ad Z ca r2)), .val (.int (vi i3)), x4, x5] [])) := by
    intro f
    induction f with
    | zero =>
      refine ⟨?_, ?_, ?_⟩
      · intro h H r1 r2 i3 i4 x5 p5 R hM
        first | exact nomatch hM | (simp [L_chi] at hM; done)
      · intro h H t ht c s ec es r1 r2 i3 x4 p4 x5 p5 R hM
        first | exact nomatch hM | (simp [L_chi] at hM; done)
      · intro h H t ht c s ec es r1 r2 i3 x4 p4 x5 p5 R hM
        first | exact nomatch hM | (simp [L_chi] at hM; done)
    | succ f ih =>
      obtain ⟨ih_13, ih_52, ih_78⟩ := ih
      refine ⟨?_, ?_, ?_⟩
      · intro h H r1 r2 i3 i4 x5 p5 R hM
        have hM : B_chi_13 r0 r1 (L_chi r0 r1 f) H 0 r2 i3 i4 = some res := hM
        unfold B_chi_13 at hM
        refine o_blk (pc' := 16) (st' := [(.int (vi i3)), (.int (vi i4))]) (ls' := #[.val (.ref (ad Z ca r0)), .val (.ref (ad Z ca r1)), .val (.ref (ad Z ca r2)), .val (.int (vi i3)), .val (.int (vi i4)), x5]) b3_13_16 rfl ?_
        obtain ⟨hb1, hM⟩ := own_plt hM
        refine o_ic (pc' := 44) (pc'' := 19) d3_16 (by decide) (by decide) rfl (fun (hc16_2 : ¬ (vi i4) < (vi i3)) => ?_) (fun (hc16_2 : (vi i4) < (vi i3)) => ?_)
        ·
          replace hM := own_condF ((vi_lt hb1).2 hc16_2) hM
          refine o_blk (pc' := 45) (st' := [(.ref (ad Z ca r0))]) (ls' := #[.val (.ref (ad Z ca r0)), .val (.ref (ad Z ca r1)), .val (.ref (ad Z ca r2)), .val (.int (vi i3)), .val (.int (vi i4)), x5]) b3_44_45 rfl ?_
          obtain ⟨q3, hq3, hM⟩ := own_kaln hM
          refine p_len (pc' := 46) R hq3 d3_45 rfl ?_
          obtain ⟨q4, hq4, hM⟩ := own_bdP hM
          refine p_newG (pc' := 49) R (own_word hw 16 rfl) (own_word hw 17 rfl) hq4 d3_46 (by decide) (by decide) rfl ?_
          intro h_q4 R_q4
          refine o_blk (pc' := 50) (st' := []) (ls' := #[.val (.ref (ad Z ca r0)), .val (.ref (ad Z ca r1)), .val (.ref (ad Z ca q4.2)), .val (.int (vi i3)), .val (.int (vi i4)), x5]) b3_49_50 rfl ?_
          refine o_blk (pc' := 52) (st' := []) (ls' := #[.val (.ref (ad Z ca r0)), .val (.ref (ad Z ca r1)), .val (.ref (ad Z ca q4.2)), .val (.int (vi 1)), .val (.int (vi i4)), x5]) b3_50_52 rfl ?_
          exact ih_52 _ _ 0 (by omega) (2) (16) (by omega) (by omega) _ _ _ _ (Pl.i _) _ p5 R_q4 hM
        ·
          replace hM := own_condT ((vi_lt hb1).1 hc16_2) hM
          refine o_blk (pc' := 22) (st' := [(.int (vi i4)), (.ref (ad Z ca r2))]) (ls' := #[.val (.ref (ad Z ca r0)), .val (.ref (ad Z ca r1)), .val (.ref (ad Z ca r2)), .val (.int (vi i3)), .val (.int (vi i4)), x5]) b3_19_22 rfl ?_
          obtain ⟨q5, hq5, hM⟩ := own_kilo hM
          refine p_iald (pc' := 23) R hq5 d3_22 rfl ?_
          refine o_stP (pc' := 25) (st' := []) (ls' := #[.val (.ref (ad Z ca r0)), .val (.ref (ad Z ca r1)), .val (.ref (ad Z ca r2)), .val (.int (vi i3)), .val (.int (vi i4)), .val (.int (vi q5))]) d3_23 rfl rfl (own_stI (x := x5) rfl p5) ?_
          refine o_blk (pc' := 27) (st' := [(.int (vi q5))]) (ls' := #[.val (.ref (ad Z ca r0)), .val (.ref (ad Z ca r1)), .val (.ref (ad Z ca r2)), .val (.int (vi i3)), .val (.int (vi i4)), .val (.int (vi q5))]) b3_25_27 rfl ?_
          obtain ⟨hb6, hM⟩ := own_plt hM
          refine o_if (pc' := 38) (pc'' := 30) d3_27 (by decide) (by decide) rfl (fun (hc27_7 : (vi q5) < (vi 1)) => ?_) (fun (hc27_7 : ¬ (vi q5) < (vi 1)) => ?_)
          ·
            replace hM := own_condT ((vi_lt hb6).1 hc27_7) hM
            refine o_blk (pc' := 41) (st' := []) (ls' := #[.val (.ref (ad Z ca r0)), .val (.ref (ad Z ca r1)), .val (.ref (ad Z ca r2)), .val (.int (vi i3)), .val (.int ((vi i4) + (vi 2))), .val (.int (vi q5))]) b3_38_41 rfl ?_
            rw [vi_inc i4]
            refine o_goto (pc' := 13) d3_41 (by decide) (by decide) ?_
            exact ih_13 _ _ _ _ _ _ _ (Pl.i _) R hM
          ·
            replace hM := own_condF ((vi_lt hb6).2 hc27_7) hM
            refine o_blk (pc' := 34) (st' := [(.int (vi q5)), (.ref (ad Z ca r1)), (.int (vi q5)), (.ref (ad Z ca r1))]) (ls' := #[.val (.ref (ad Z ca r0)), .val (.ref (ad Z ca r1)), .val (.ref (ad Z ca r2)), .val (.int (vi i3)), .val (.int (vi i4)), .val (.int (vi q5))]) b3_30_34 rfl ?_
            obtain ⟨q8, hq8, hM⟩ := own_kilo hM
            refine p_iald (pc' := 35) R hq8 d3_34 rfl ?_
            refine o_blk (pc' := 36) (st' := [(.int (vi 2)), (.int (vi q8)), (.int (vi q5)), (.ref (ad Z ca r1))]) (ls' := #[.val (.ref (ad Z ca r0)), .val (.ref (ad Z ca r1)), .val (.ref (ad Z ca r2)), .val (.int (vi i3)), .val (.int (vi i4)), .val (.int (vi q5))]) b3_35_36 rfl ?_
            refine o_blk (pc' := 37) (st' := [(.int ((vi q8) + (vi 2))), (.int (vi q5)), (.ref (ad Z ca r1))]) (ls' := #[.val (.ref (ad Z ca r0)), .val (.ref (ad Z ca r1)), .val (.ref (ad Z ca r2)), .val (.int (vi i3)), .val (.int (vi i4)), .val (.int (vi q5))]) b3_36_37 rfl ?_
            rw [vi_inc q8]
            obtain ⟨q9, hq9, hM⟩ := own_kist hM
            refine p_iast (pc' := 38) R hq9 d3_37 rfl ?_
            intro h_q9 R_q9
            refine o_blk (pc' := 41) (st' := []) (ls' := #[.val (.ref (ad Z ca r0)), .val (.ref (ad Z ca r1)), .val (.ref (ad Z ca r2)), .val (.int (vi i3)), .val (.int ((vi i4) + (vi 2))), .val (.int (vi q5))]) b3_38_41 rfl ?_
            rw [vi_inc i4]
            refine o_goto (pc' := 13) d3_41 (by decide) (by decide) ?_
            exact ih_13 _ _ _ _ _ _ _ (Pl.i _) R_q9 hM
      · intro h H t ht c s ec es r1 r2 i3 x4 p4 x5 p5 R hM
        subst ec es
        have hM : B_chi_52 r0 r1 (L_chi r0 r1 f) H t r2 i3 0 = some res := hM
        unfold B_chi_52 at hM
        refine o_blk (pc' := 54) (st' := [(.ref (ad Z ca r0)), (.int (vi i3))]) (ls' := #[.val (.ref (ad Z ca r0)), .val (.ref (ad Z ca r1)), .val (.ref (ad Z ca r2)), .val (.int (vi i3)), x4, x5]) b3_52_54 rfl ?_
        obtain ⟨q1, hq1, hM⟩ := own_kaln hM
        refine p_len (pc' := 55) R hq1 d3_54 rfl ?_
        obtain ⟨hb2, hM⟩ := own_plt hM
        refine o_ic (pc' := 76) (pc'' := 58) d3_55 (by decide) (by decide) rfl (fun (hc55_3 : ¬ (vi i3) < (vi q1)) => ?_) (fun (hc55_3 : (vi i3) < (vi q1)) => ?_)
        ·
          replace hM := own_condF ((vi_lt hb2).2 hc55_3) hM
          refine o_blk (pc' := 78) (st' := []) (ls' := #[.val (.ref (ad Z ca r0)), .val (.ref (ad Z ca r1)), .val (.ref (ad Z ca r2)), .val (.int (vi 1)), x4, x5]) b3_76_78 rfl ?_
          exact ih_78 _ _ t (by omega) ((2 + 1 * t)) ((16 + 8 * t)) (by omega) (by omega) _ _ _ _ p4 _ p5 R hM
        ·
          replace hM := own_condT ((vi_lt hb2).1 hc55_3) hM
          refine o_blk (pc' := 62) (st' := [(.int (vi i3)), (.ref (ad Z ca r1)), (.int (vi i3)), (.ref (ad Z ca r2))]) (ls' := #[.val (.ref (ad Z ca r0)), .val (.ref (ad Z ca r1)), .val (.ref (ad Z ca r2)), .val (.int (vi i3)), x4, x5]) b3_58_62 rfl ?_
          obtain ⟨q4, hq4, hM⟩ := own_kilo hM
          refine p_iald (pc' := 63) R hq4 d3_62 rfl ?_
          obtain ⟨q5, hq5, hM⟩ := own_bdP hM
          obtain ⟨hb6, hM⟩ := own_gd hM
          have hb6 := Nat.le_of_ble_eq_true hb6
          refine p_newI (pc' := 65) R (own_word hw 0 rfl) hq5 d3_63 (by show (2 + 1 * t) + 1 ≤ 10; omega) (by show (16 + 8 * t) + 8 ≤ 80; omega) rfl ?_
          intro h_q5 R_q5
          obtain ⟨q7, hq7, hM⟩ := own_krst2 hM
          refine p_aast2 (pc' := 66) R_q5 hq7 d3_65 rfl ?_
          intro h_q7 R_q7
          refine o_blk (pc' := 69) (st' := [(.int (vi 1)), (.int (vi i3)), (.ref (ad Z ca r1))]) (ls' := #[.val (.ref (ad Z ca r0)), .val (.ref (ad Z ca r1)), .val (.ref (ad Z ca r2)), .val (.int (vi i3)), x4, x5]) b3_66_69 rfl ?_
          obtain ⟨q8, hq8, hM⟩ := own_kist hM
          refine p_iast (pc' := 70) R_q7 hq8 d3_69 rfl ?_
          intro h_q8 R_q8
          refine o_blk (pc' := 73) (st' := []) (ls' := #[.val (.ref (ad Z ca r0)), .val (.ref (ad Z ca r1)), .val (.ref (ad Z ca r2)), .val (.int ((vi i3) + (vi 2))), x4, x5]) b3_70_73 rfl ?_
          rw [vi_inc i3]
          refine o_goto (pc' := 52) d3_73 (by decide) (by decide) ?_
          exact ih_52 _ _ (t + 1) (by omega) (((2 + 1 * t) + 1)) (((16 + 8 * t) + 8)) (by omega) (by omega) _ _ _ _ p4 _ p5 R_q8 hM
      · intro h H t ht c s ec es r1 r2 i3 x4 p4 x5 p5 R hM
        subst ec es
        have hM : B_chi_78 r0 r1 (L_chi r0 r1 f) H t r2 i3 0 = some res := hM
        unfold B_chi_78 at hM
        refine o_blk (pc' := 80) (st' := [(.ref (ad Z ca r0)), (.int (vi i3))]) (ls' := #[.val (.ref (ad Z ca r0)), .val (.ref (ad Z ca r1)), .val (.ref (ad Z ca r2)), .val (.int (vi i3)), x4, x5]) b3_78_80 rfl ?_
        obtain ⟨q1, hq1, hM⟩ := own_kaln hM
        refine p_len (pc' := 81) R hq1 d3_80 rfl ?_
        obtain ⟨hb2, hM⟩ := own_plt hM
        refine o_ic (pc' := 115) (pc'' := 84) d3_81 (by decide) (by decide) rfl (fun (hc81_3 : ¬ (vi i3) < (vi q1)) => ?_) (fun (hc81_3 : (vi i3) < (vi q1)) => ?_)
        ·
          replace hM := own_condF ((vi_lt hb2).2 hc81_3) hM
          refine o_blk (pc' := 116) (st' := [(.ref (ad Z ca r2))]) (ls' := #[.val (.ref (ad Z ca r0)), .val (.ref (ad Z ca r1)), .val (.ref (ad Z ca r2)), .val (.int (vi i3)), x4, x5]) b3_115_116 rfl ?_
          cases hM
          exact o_retA d3_116 (by show (2 + 1 * t) ≤ 10; omega) (by show (16 + 8 * t) ≤ 80; omega) rfl rfl rfl ⟨rfl, R⟩
        ·
          replace hM := own_condT ((vi_lt hb2).1 hc81_3) hM
          refine o_blk (pc' := 86) (st' := [(.int (vi i3)), (.ref (ad Z ca r0))]) (ls' := #[.val (.ref (ad Z ca r0)), .val (.ref (ad Z ca r1)), .val (.ref (ad Z ca r2)), .val (.int (vi i3)), x4, x5]) b3_84_86 rfl ?_
          obtain ⟨q4, hq4, hM⟩ := own_kilo hM
          refine p_iald (pc' := 87) R hq4 d3_86 rfl ?_
          refine o_stP (pc' := 89) (st' := []) (ls' := #[.val (.ref (ad Z ca r0)), .val (.ref (ad Z ca r1)), .val (.ref (ad Z ca r2)), .val (.int (vi i3)), .val (.int (vi q4)), x5]) d3_87 rfl rfl (own_stI (x := x4) rfl p4) ?_
          refine o_blk (pc' := 91) (st' := [(.int (vi q4))]) (ls' := #[.val (.ref (ad Z ca r0)), .val (.ref (ad Z ca r1)), .val (.ref (ad Z ca r2)), .val (.int (vi i3)), .val (.int (vi q4)), x5]) b3_89_91 rfl ?_
          obtain ⟨hb5, hM⟩ := own_plt hM
          refine o_if (pc' := 109) (pc'' := 94) d3_91 (by decide) (by decide) rfl (fun (hc91_6 : (vi q4) < (vi 1)) => ?_) (fun (hc91_6 : ¬ (vi q4) < (vi 1)) => ?_)
          ·
            replace hM := own_condT ((vi_lt hb5).1 hc91_6) hM
            refine o_blk (pc' := 112) (st' := []) (ls' := #[.val (.ref (ad Z ca r0)), .val (.ref (ad Z ca r1)), .val (.ref (ad Z ca r2)), .val (.int ((vi i3) + (vi 2))), .val (.int (vi q4)), x5]) b3_109_112 rfl ?_
            rw [vi_inc i3]
            refine o_goto (pc' := 78) d3_112 (by decide) (by decide) ?_
            exact ih_78 _ _ t (by omega) ((2 + 1 * t)) ((16 + 8 * t)) (by omega) (by omega) _ _ _ _ (Pl.i _) _ p5 R hM
          ·
            replace hM := own_condF ((vi_lt hb5).2 hc91_6) hM
            refine o_blk (pc' := 97) (st' := [(.int (vi q4)), (.ref (ad Z ca r2))]) (ls' := #[.val (.ref (ad Z ca r0)), .val (.ref (ad Z ca r1)), .val (.ref (ad Z ca r2)), .val (.int (vi i3)), .val (.int (vi q4)), x5]) b3_94_97 rfl ?_
            obtain ⟨q7, hq7, hM⟩ := own_krlo hM
            refine p_aald (pc' := 98) R hq7 d3_97 rfl ?_
            refine o_blk (pc' := 102) (st' := [(.int (vi q4)), (.ref (ad Z ca r1)), (.int (vi q4)), (.ref (ad Z ca r1)), (.ref (ad Z ca q7))]) (ls' := #[.val (.ref (ad Z ca r0)), .val (.ref (ad Z ca r1)), .val (.ref (ad Z ca r2)), .val (.int (vi i3)), .val (.int (vi q4)), x5]) b3_98_102 rfl ?_
            obtain ⟨q8, hq8, hM⟩ := own_kilo hM
            refine p_iald (pc' := 103) R hq8 d3_102 rfl ?_
            refine o_blk (pc' := 105) (st' := [(.int (vi 2)), (.int (vi q8)), (.int (vi q4)), (.ref (ad Z ca r1)), (.int (vi q8)), (.ref (ad Z ca q7))]) (ls' := #[.val (.ref (ad Z ca r0)), .val (.ref (ad Z ca r1)), .val (.ref (ad Z ca r2)), .val (.int (vi i3)), .val (.int (vi q4)), x5]) b3_103_105 rfl ?_
            refine o_blk (pc' := 106) (st' := [(.int ((vi q8) + (vi 2))), (.int (vi q4)), (.ref (ad Z ca r1)), (.int (vi q8)), (.ref (ad Z ca q7))]) (ls' := #[.val (.ref (ad Z ca r0)), .val (.ref (ad Z ca r1)), .val (.ref (ad Z ca r2)), .val (.int (vi i3)), .val (.int (vi q4)), x5]) b3_105_106 rfl ?_
            rw [vi_inc q8]
            obtain ⟨q9, hq9, hM⟩ := own_kist hM
            refine p_iast (pc' := 107) R hq9 d3_106 rfl ?_
            intro h_q9 R_q9
            refine o_blk (pc' := 108) (st' := [(.int (vi i3)), (.int (vi q8)), (.ref (ad Z ca q7))]) (ls' := #[.val (.ref (ad Z ca r0)), .val (.ref (ad Z ca r1)), .val (.ref (ad Z ca r2)), .val (.int (vi i3)), .val (.int (vi q4)), x5]) b3_107_108 rfl ?_
            obtain ⟨q10, hq10, hM⟩ := own_kist hM
            refine p_iast (pc' := 109) R_q9 hq10 d3_108 rfl ?_
            intro h_q10 R_q10
            refine o_blk (pc' := 112) (st' := []) (ls' := #[.val (.ref (ad Z ca r0)), .val (.ref (ad Z ca r1)), .val (.ref (ad Z ca r2)), .val (.int ((vi i3) + (vi 2))), .val (.int (vi q4)), x5]) b3_109_112 rfl ?_
            rw [vi_inc i3]
            refine o_goto (pc' := 78) d3_112 (by decide) (by decide) ?_
            exact ih_78 _ _ t (by omega) ((2 + 1 * t)) ((16 + 8 * t)) (by omega) (by omega) _ _ _ _ (Pl.i _) _ p5 R_q10 hM
  unfold M_chi at hM
  refine o_blk (pc' := 1) (st' := [(.ref (ad Z ca r0))]) (ls' := #[.val (.ref (ad Z ca r0)), .unset, .unset, .unset, .unset, .unset]) b3_0_1 rfl ?_
  obtain ⟨q1, hq1, hM⟩ := own_kaln hM
  refine p_len (pc' := 2) R0 hq1 d3_1 rfl ?_
  obtain ⟨q2, hq2, hM⟩ := own_bdP hM
  refine p_newI (pc' := 4) R0 (own_word hw 0 rfl) hq2 d3_2 (by decide) (by decide) rfl ?_
  intro h_q2 R_q2
  refine o_blk (pc' := 5) (st' := []) (ls' := #[.val (.ref (ad Z ca r0)), .val (.ref (ad Z ca q2.2)), .unset, .unset, .unset, .unset]) b3_4_5 rfl ?_
  refine o_blk (pc' := 7) (st' := []) (ls' := #[.val (.ref (ad Z ca r0)), .val (.ref (ad Z ca q2.2)), .val (.ref (ad Z ca r0)), .unset, .unset, .unset]) b3_5_7 rfl ?_
  refine o_blk (pc' := 8) (st' := [(.ref (ad Z ca r0))]) (ls' := #[.val (.ref (ad Z ca r0)), .val (.ref (ad Z ca q2.2)), .val (.ref (ad Z ca r0)), .unset, .unset, .unset]) b3_7_8 rfl ?_
  obtain ⟨q3, hq3, hM⟩ := own_kaln hM
  refine p_len (pc' := 9) R_q2 hq3 d3_8 rfl ?_
  refine o_blk (pc' := 10) (st' := []) (ls' := #[.val (.ref (ad Z ca r0)), .val (.ref (ad Z ca q2.2)), .val (.ref (ad Z ca r0)), .val (.int (vi q3)), .unset, .unset]) b3_9_10 rfl ?_
  refine o_blk (pc' := 13) (st' := []) (ls' := #[.val (.ref (ad Z ca r0)), .val (.ref (ad Z ca q2.2)), .val (.ref (ad Z ca r0)), .val (.int (vi q3)), .val (.int (vi 1)), .unset]) b3_10_13 rfl ?_
  exact (LP 60).1 _ _ _ _ _ _ _ Pl.u R_q2 hM
def B_nei_8 (r0 : Nat) (r1 : Nat) (r2 : Nat) (rec : Nat → Nat → Nat → Nat → Option (Nat × Nat)) (H : Nat) (t : Nat) (i3 : Nat) : Option (Nat × Nat) :=
  kaln H r0 fun q1 => plt i3 q1 ( krlo H r1 i3 fun q4 => kilo 0 H r0 i3 fun q5 => plt q5 1 ( krst2 H r2 i3 q4 fun q18 => kilo 0 q18 r0 i3 fun q19 => plt q19 1 ( rec 8 q18 t (Nat.add i3 1) ) ( krlo q18 r2 i3 fun q22 => kaln q18 q4 fun q23 => kist 0 q18 q22 q23 q19 fun q24 => rec 8 q24 t (Nat.add i3 1) ) ) ( kaln H q4 fun q8 => bdP (M_cpo H q4 (Nat.add q8 1)) fun q9a q9b => gd (Nat.blt t 8) ( krst2 q9a r2 i3 q9b fun q11 => kilo 0 q11 r0 i3 fun q12 => plt q12 1 ( rec 8 q11 (t + 1) (Nat.add i3 1) ) ( krlo q11 r2 i3 fun q15 => kaln q11 q4 fun q16 => kist 0 q11 q15 q16 q12 fun q17 => rec 8 q17 (t + 1) (Nat.add i3 1) ) ) ) ) ( some (H, r2) )
def L_nei (r0 : Nat) (r1 : Nat) (r2 : Nat) (n : Nat) : Nat → Nat → Nat → Nat → Option (Nat × Nat) := Nat.rec (motive := fun _ => Nat → Nat → Nat → Nat → Option (Nat × Nat)) (fun _ _ _ _ => none) (fun _ ih => fun hd => br (Nat.beq hd 8) (B_nei_8 r0 r1 r2 ih) (fun _ _ _ => none)) n
def M_nei (H : Nat) (r0 : Nat) (r1 : Nat) : Option (Nat × Nat) :=
  kaln H r0 fun q1 => bdP (pnewQ 2 8 H q1) fun q2a q2b => L_nei r0 r1 q2b 20 8 q2a 0 1
set_option maxRecDepth 65536 in
set_option maxHeartbeats 40000000 in
theorem rm_nei (l : Launch) (Z : State) (a0 : Array Value) (hw : ∀ d ∈ tables_1, d.before a0 Z = true) (ca : Nat → Addr) (K : OKa Z ca) (H : Nat) (r0 : Nat) (r1 : Nat) (res : Nat × Nat) (h0 : Heap) (hE0 : Ext Z.heap h0) (R0 : RepP Z ca h0 H)  (hM : M_nei H r0 r1 = some res) :
    OCtr l Z (⟨"com/example/mild_horn/mildhorn/translation/Centroids", "neighbours", "([I[[I)[[I"⟩ : MethodName) prog_40_method_11_code 5 (some (.array (.array .int))) ({ frames := 2, cells := 9, slots := 72, locals := 34 } : Room) #[(.ref (ad Z ca r0)), (.ref (ad Z ca r1))] h0 (fun v h => v = some (.ref (ad Z ca res.2)) ∧ RepP Z ca h res.1) := by
  refine o_bodyS (ls0 := #[.val (.ref (ad Z ca r0)), .val (.ref (ad Z ca r1)), .unset, .unset, .unset]) (plainFor_of_name pn_4) hE0 (fun m => by first | (simp [entryFrame, mkF, argsToLocals, Value.category]; done) | rfl) ?_
  intro pG eG sG mG bG meG cG hS0
  have LP : ∀ f : Nat, (∀ (h : Heap) (H : Nat) (t : Nat) (ht : t ≤ 8) (c s : Nat) (ec : c = 1 + 1 * t) (es : s = 8 + 8 * t) (r2 : Nat) (i3 : Nat) (x4 : Slot) (p4 : Pl x4) (R : RepP Z ca h H) (hM : L_nei r0 r1 r2 f 8 H t i3 = some res), OG pG l eG ({ frames := 2, cells := 9, slots := 72, locals := 34 } : Room) sG mG #[(.ref (ad Z ca r0)), (.ref (ad Z ca r1))] bG meG cG Z (⟨"com/example/mild_horn/mildhorn/translation/Centroids", "neighbours", "([I[[I)[[I"⟩ : MethodName).cls (⟨"com/example/mild_horn/mildhorn/translation/Centroids", "neighbours", "([I[[I)[[I"⟩ : MethodName).name prog_40_method_11_code 5 (some (.array (.array .int))) (fun v h => v = some (.ref (ad Z ca res.2)) ∧ RepP Z ca h res.1) ({ frames := 2, cells := 9, slots := 72, locals := 34 } : Room).cells ({ frames := 2, cells := 9, slots := 72, locals := 34 } : Room).slots h c s (mkF mG 8 #[.val (.ref (ad Z ca r0)), .val (.ref (ad Z ca r1)), .val (.ref (ad Z ca r2)), .val (.int (vi i3)), x4] [])) := by
    intro f
    induction f with
    | zero =>
      skip
      · intro h H t ht c s ec es r2 i3 x4 p4 R hM
        first | exact nomatch hM | (simp [L_nei] at hM; done)
    | succ f ih =>
      have ih_8 := ih
      skip
      · intro h H t ht c s ec es r2 i3 x4 p4 R hM
        subst ec es
        have hM : B_nei_8 r0 r1 r2 (L_nei r0 r1 r2 f) H t i3 = some res := hM
        unfold B_nei_8 at hM
        refine o_blk (pc' := 10) (st' := [(.ref (ad Z ca r0)), (.int (vi i3))]) (ls' := #[.val (.ref (ad Z ca r0)), .val (.ref (ad Z ca r1)), .val (.ref (ad Z ca r2)), .val (.int (vi i3)), x4]) b4_8_10 rfl ?_
        obtain ⟨q1, hq1, hM⟩ := own_kaln hM
        refine p_len (pc' := 11) R hq1 d4_10 rfl ?_
        obtain ⟨hb2, hM⟩ := own_plt hM
        refine o_ic (pc' := 65) (pc'' := 14) d4_11 (by decide) (by decide) rfl (fun (hc11_3 : ¬ (vi i3) < (vi q1)) => ?_) (fun (hc11_3 : (vi i3) < (vi q1)) => ?_)
        ·
          replace hM := own_condF ((vi_lt hb2).2 hc11_3) hM
          refine o_blk (pc' := 66) (st' := [(.ref (ad Z ca r2))]) (ls' := #[.val (.ref (ad Z ca r0)), .val (.ref (ad Z ca r1)), .val (.ref (ad Z ca r2)), .val (.int (vi i3)), x4]) b4_65_66 rfl ?_
          cases hM
          exact o_retA d4_66 (by show (1 + 1 * t) ≤ 9; omega) (by show (8 + 8 * t) ≤ 72; omega) rfl rfl rfl ⟨rfl, R⟩
        ·
          replace hM := own_condT ((vi_lt hb2).1 hc11_3) hM
          refine o_blk (pc' := 16) (st' := [(.int (vi i3)), (.ref (ad Z ca r1))]) (ls' := #[.val (.ref (ad Z ca r0)), .val (.ref (ad Z ca r1)), .val (.ref (ad Z ca r2)), .val (.int (vi i3)), x4]) b4_14_16 rfl ?_
          obtain ⟨q4, hq4, hM⟩ := own_krlo hM
          refine p_aald (pc' := 17) R hq4 d4_16 rfl ?_
          refine o_stP (pc' := 19) (st' := []) (ls' := #[.val (.ref (ad Z ca r0)), .val (.ref (ad Z ca r1)), .val (.ref (ad Z ca r2)), .val (.int (vi i3)), .val (.ref (ad Z ca q4))]) d4_17 rfl rfl (own_stA (x := x4) rfl p4) ?_
          refine o_blk (pc' := 23) (st' := [(.int (vi i3)), (.ref (ad Z ca r0)), (.int (vi i3)), (.ref (ad Z ca r2))]) (ls' := #[.val (.ref (ad Z ca r0)), .val (.ref (ad Z ca r1)), .val (.ref (ad Z ca r2)), .val (.int (vi i3)), .val (.ref (ad Z ca q4))]) b4_19_23 rfl ?_
          obtain ⟨q5, hq5, hM⟩ := own_kilo hM
          refine p_iald (pc' := 24) R hq5 d4_23 rfl ?_
          obtain ⟨hb6, hM⟩ := own_plt hM
          refine o_if (pc' := 32) (pc'' := 27) d4_24 (by decide) (by decide) rfl (fun (hc24_7 : ¬ (vi q5) < (vi 1)) => ?_) (fun (hc24_7 : (vi q5) < (vi 1)) => ?_)
          ·
            replace hM := own_condF ((vi_lt hb6).2 hc24_7) hM
            refine o_blk (pc' := 36) (st' := [(.ref (ad Z ca q4)), (.ref (ad Z ca q4)), (.int (vi i3)), (.ref (ad Z ca r2))]) (ls' := #[.val (.ref (ad Z ca r0)), .val (.ref (ad Z ca r1)), .val (.ref (ad Z ca r2)), .val (.int (vi i3)), .val (.ref (ad Z ca q4))]) b4_32_36 rfl ?_
            obtain ⟨q8, hq8, hM⟩ := own_kaln hM
            refine p_len (pc' := 37) R hq8 d4_36 rfl ?_
            refine o_blk (pc' := 38) (st' := [(.int (vi 2)), (.int (vi q8)), (.ref (ad Z ca q4)), (.int (vi i3)), (.ref (ad Z ca r2))]) (ls' := #[.val (.ref (ad Z ca r0)), .val (.ref (ad Z ca r1)), .val (.ref (ad Z ca r2)), .val (.int (vi i3)), .val (.ref (ad Z ca q4))]) b4_37_38 rfl ?_
            refine o_blk (pc' := 39) (st' := [(.int ((vi q8) + (vi 2))), (.ref (ad Z ca q4)), (.int (vi i3)), (.ref (ad Z ca r2))]) (ls' := #[.val (.ref (ad Z ca r0)), .val (.ref (ad Z ca r1)), .val (.ref (ad Z ca r2)), .val (.int (vi i3)), .val (.ref (ad Z ca q4))]) b4_38_39 rfl ?_
            rw [vi_inc q8]
            obtain ⟨q9, hq9, hM⟩ := own_bdP hM
            obtain ⟨hb10, hM⟩ := own_gd hM
            have hb10 := Nat.le_of_ble_eq_true hb10
            refine o_callS (W := 2) (argsL := [(.ref (ad Z ca q4)), (.int (vi (Nat.add q8 1)))]) (rest := [(.int (vi i3)), (.ref (ad Z ca r2))]) (pc' := 42) (own_word hw 24 rfl) (own_word hw 25 rfl) (own_word hw 26 rfl) (own_word hw 27 rfl) (by decide) (fun hE => rm_cpo l Z a0 hw ca K H q4 (Nat.add q8 1) q9 h hE R hq9) d4_39 pd_5 rfl rfl rfl (Nat.le_of_eq rfl) (by decide) (by decide) (by show (1 + 1 * t) + 1 ≤ 9; omega) (by show (8 + 8 * t) + 8 ≤ 72; omega) rfl ?_
            rintro _ h_q9 ⟨rfl, R_q9⟩ hs_q9
            obtain ⟨q11, hq11, hM⟩ := own_krst2 hM
            refine p_aast2 (pc' := 43) R_q9 hq11 d4_42 rfl ?_
            intro h_q11 R_q11
            refine o_blk (pc' := 45) (st' := [(.int (vi i3)), (.ref (ad Z ca r0))]) (ls' := #[.val (.ref (ad Z ca r0)), .val (.ref (ad Z ca r1)), .val (.ref (ad Z ca r2)), .val (.int (vi i3)), .val (.ref (ad Z ca q4))]) b4_43_45 rfl ?_
            obtain ⟨q12, hq12, hM⟩ := own_kilo hM
            refine p_iald (pc' := 46) R_q11 hq12 d4_45 rfl ?_
            obtain ⟨hb13, hM⟩ := own_plt hM
            refine o_if (pc' := 59) (pc'' := 49) d4_46 (by decide) (by decide) rfl (fun (hc46_14 : (vi q12) < (vi 1)) => ?_) (fun (hc46_14 : ¬ (vi q12) < (vi 1)) => ?_)
            ·
              replace hM := own_condT ((vi_lt hb13).1 hc46_14) hM
              refine o_blk (pc' := 62) (st' := []) (ls' := #[.val (.ref (ad Z ca r0)), .val (.ref (ad Z ca r1)), .val (.ref (ad Z ca r2)), .val (.int ((vi i3) + (vi 2))), .val (.ref (ad Z ca q4))]) b4_59_62 rfl ?_
              rw [vi_inc i3]
              refine o_goto (pc' := 8) d4_62 (by decide) (by decide) ?_
              exact ih_8 _ _ (t + 1) (by omega) (((1 + 1 * t) + 1)) (((8 + 8 * t) + 8)) (by omega) (by omega) _ _ _ (Pl.r _) R_q11 hM
            ·
              replace hM := own_condF ((vi_lt hb13).2 hc46_14) hM
              refine o_blk (pc' := 51) (st' := [(.int (vi i3)), (.ref (ad Z ca r2))]) (ls' := #[.val (.ref (ad Z ca r0)), .val (.ref (ad Z ca r1)), .val (.ref (ad Z ca r2)), .val (.int (vi i3)), .val (.ref (ad Z ca q4))]) b4_49_51 rfl ?_
              obtain ⟨q15, hq15, hM⟩ := own_krlo hM
              refine p_aald (pc' := 52) R_q11 hq15 d4_51 rfl ?_
              refine o_blk (pc' := 54) (st' := [(.ref (ad Z ca q4)), (.ref (ad Z ca q15))]) (ls' := #[.val (.ref (ad Z ca r0)), .val (.ref (ad Z ca r1)), .val (.ref (ad Z ca r2)), .val (.int (vi i3)), .val (.ref (ad Z ca q4))]) b4_52_54 rfl ?_
              obtain ⟨q16, hq16, hM⟩ := own_kaln hM
              refine p_len (pc' := 55) R_q11 hq16 d4_54 rfl ?_
              refine o_blk (pc' := 57) (st' := [(.int (vi i3)), (.ref (ad Z ca r0)), (.int (vi q16)), (.ref (ad Z ca q15))]) (ls' := #[.val (.ref (ad Z ca r0)), .val (.ref (ad Z ca r1)), .val (.ref (ad Z ca r2)), .val (.int (vi i3)), .val (.ref (ad Z ca q4))]) b4_55_57 rfl ?_
              refine p_iald (pc' := 58) R_q11 hq12 d4_57 rfl ?_
              obtain ⟨q17, hq17, hM⟩ := own_kist hM
              refine p_iast (pc' := 59) R_q11 hq17 d4_58 rfl ?_
              intro h_q17 R_q17
              refine o_blk (pc' := 62) (st' := []) (ls' := #[.val (.ref (ad Z ca r0)), .val (.ref (ad Z ca r1)), .val (.ref (ad Z ca r2)), .val (.int ((vi i3) + (vi 2))), .val (.ref (ad Z ca q4))]) b4_59_62 rfl ?_
              rw [vi_inc i3]
              refine o_goto (pc' := 8) d4_62 (by decide) (by decide) ?_
              exact ih_8 _ _ (t + 1) (by omega) (((1 + 1 * t) + 1)) (((8 + 8 * t) + 8)) (by omega) (by omega) _ _ _ (Pl.r _) R_q17 hM
          ·
            replace hM := own_condT ((vi_lt hb6).1 hc24_7) hM
            refine o_blk (pc' := 29) (st' := [(.ref (ad Z ca q4)), (.int (vi i3)), (.ref (ad Z ca r2))]) (ls' := #[.val (.ref (ad Z ca r0)), .val (.ref (ad Z ca r1)), .val (.ref (ad Z ca r2)), .val (.int (vi i3)), .val (.ref (ad Z ca q4))]) b4_27_29 rfl ?_
            refine o_goto (pc' := 42) d4_29 (by decide) (by decide) ?_
            obtain ⟨q18, hq18, hM⟩ := own_krst2 hM
            refine p_aast2 (pc' := 43) R hq18 d4_42 rfl ?_
            intro h_q18 R_q18
            refine o_blk (pc' := 45) (st' := [(.int (vi i3)), (.ref (ad Z ca r0))]) (ls' := #[.val (.ref (ad Z ca r0)), .val (.ref (ad Z ca r1)), .val (.ref (ad Z ca r2)), .val (.int (vi i3)), .val (.ref (ad Z ca q4))]) b4_43_45 rfl ?_
            obtain ⟨q19, hq19, hM⟩ := own_kilo hM
            refine p_iald (pc' := 46) R_q18 hq19 d4_45 rfl ?_
            obtain ⟨hb20, hM⟩ := own_plt hM
            refine o_if (pc' := 59) (pc'' := 49) d4_46 (by decide) (by decide) rfl (fun (hc46_21 : (vi q19) < (vi 1)) => ?_) (fun (hc46_21 : ¬ (vi q19) < (vi 1)) => ?_)
            ·
              replace hM := own_condT ((vi_lt hb20).1 hc46_21) hM
              refine o_blk (pc' := 62) (st' := []) (ls' := #[.val (.ref (ad Z ca r0)), .val (.ref (ad Z ca r1)), .val (.ref (ad Z ca r2)), .val (.int ((vi i3) + (vi 2))), .val (.ref (ad Z ca q4))]) b4_59_62 rfl ?_
              rw [vi_inc i3]
              refine o_goto (pc' := 8) d4_62 (by decide) (by decide) ?_
              exact ih_8 _ _ t (by omega) ((1 + 1 * t)) ((8 + 8 * t)) (by omega) (by omega) _ _ _ (Pl.r _) R_q18 hM
            ·
              replace hM := own_condF ((vi_lt hb20).2 hc46_21) hM
              refine o_blk (pc' := 51) (st' := [(.int (vi i3)), (.ref (ad Z ca r2))]) (ls' := #[.val (.ref (ad Z ca r0)), .val (.ref (ad Z ca r1)), .val (.ref (ad Z ca r2)), .val (.int (vi i3)), .val (.ref (ad Z ca q4))]) b4_49_51 rfl ?_
              obtain ⟨q22, hq22, hM⟩ := own_krlo hM
              refine p_aald (pc' := 52) R_q18 hq22 d4_51 rfl ?_
              refine o_blk (pc' := 54) (st' := [(.ref (ad Z ca q4)), (.ref (ad Z ca q22))]) (ls' := #[.val (.ref (ad Z ca r0)), .val (.ref (ad Z ca r1)), .val (.ref (ad Z ca r2)), .val (.int (vi i3)), .val (.ref (ad Z ca q4))]) b4_52_54 rfl ?_
              obtain ⟨q23, hq23, hM⟩ := own_kaln hM
              refine p_len (pc' := 55) R_q18 hq23 d4_54 rfl ?_
              refine o_blk (pc' := 57) (st' := [(.int (vi i3)), (.ref (ad Z ca r0)), (.int (vi q23)), (.ref (ad Z ca q22))]) (ls' := #[.val (.ref (ad Z ca r0)), .val (.ref (ad Z ca r1)), .val (.ref (ad Z ca r2)), .val (.int (vi i3)), .val (.ref (ad Z ca q4))]) b4_55_57 rfl ?_
              refine p_iald (pc' := 58) R_q18 hq19 d4_57 rfl ?_
              obtain ⟨q24, hq24, hM⟩ := own_kist hM
              refine p_iast (pc' := 59) R_q18 hq24 d4_58 rfl ?_
              intro h_q24 R_q24
              refine o_blk (pc' := 62) (st' := []) (ls' := #[.val (.ref (ad Z ca r0)), .val (.ref (ad Z ca r1)), .val (.ref (ad Z ca r2)), .val (.int ((vi i3) + (vi 2))), .val (.ref (ad Z ca q4))]) b4_59_62 rfl ?_
              rw [vi_inc i3]
              refine o_goto (pc' := 8) d4_62 (by decide) (by decide) ?_
              exact ih_8 _ _ t (by omega) ((1 + 1 * t)) ((8 + 8 * t)) (by omega) (by omega) _ _ _ (Pl.r _) R_q24 hM
  unfold M_nei at hM
  refine o_blk (pc' := 1) (st' := [(.ref (ad Z ca r0))]) (ls' := #[.val (.ref (ad Z ca r0)), .val (.ref (ad Z ca r1)), .unset, .unset, .unset]) b4_0_1 rfl ?_
  obtain ⟨q1, hq1, hM⟩ := own_kaln hM
  refine p_len (pc' := 2) R0 hq1 d4_1 rfl ?_
  obtain ⟨q2, hq2, hM⟩ := own_bdP hM
  refine p_newG (pc' := 5) R0 (own_word hw 16 rfl) (own_word hw 17 rfl) hq2 d4_2 (by decide) (by decide) rfl ?_
  intro h_q2 R_q2
  refine o_blk (pc' := 6) (st' := []) (ls' := #[.val (.ref (ad Z ca r0)), .val (.ref (ad Z ca r1)), .val (.ref (ad Z ca q2.2)), .unset, .unset]) b4_5_6 rfl ?_
  refine o_blk (pc' := 8) (st' := []) (ls' := #[.val (.ref (ad Z ca r0)), .val (.ref (ad Z ca r1)), .val (.ref (ad Z ca q2.2)), .val (.int (vi 1)), .unset]) b4_6_8 rfl ?_
  exact (LP 20) _ _ 0 (by omega) (1) (8) (by omega) (by omega) _ _ _ Pl.u R_q2 hM
def B_num_29 (r0 : Nat) (i1 : Nat) (r2 : Nat) (rec : Nat → Nat → Nat → Nat → Nat → Nat → Option (Nat × Nat)) (H : Nat) (r3 : Nat) (i4 : Nat) (i5 : Nat) (i6 : Nat) : Option (Nat × Nat) :=
  kisA 5 H r3 ( bdP (M_isemp H r3) fun q2a q2b => peq q2b 1 ( kisA 5 q2a r3 ( bdP (M_pop q2a r3) fun q9a q9b => gd (Nat.ble 1000 q9b) ( gd (Nat.blt q9b 1256) ( bdP (M_ival q9a q9b) fun q12a q12b => kist 0 q12a r2 i4 q12b fun q13 => kgfr 4 60 q13 r0 fun q14 => kist 0 q13 q14 q12b i4 fun q15 => kgfr 4 36 q15 r0 fun q16 => krlo q15 q16 q12b fun q17 => kaln q15 q17 fun q18 => kdc q18 fun q19 => rec 82 q15 r3 (Nat.add i4 1) q12b q19 ) ) ) ) ( kgfr 4 24 q2a r0 fun q5 => kaln q2a q5 fun q6 => kdc q6 fun q7 => rec 124 q2a 0 q7 0 0 ) )
def B_num_82 (r0 : Nat) (i1 : Nat) (r2 : Nat) (rec : Nat → Nat → Nat → Nat → Nat → Nat → Option (Nat × Nat)) (H : Nat) (r3 : Nat) (i4 : Nat) (i5 : Nat) (i6 : Nat) : Option (Nat × Nat) :=
  plt i6 1 ( rec 29 H r3 i4 0 0 ) ( kgfr 4 36 H r0 fun q3 => krlo H q3 i5 fun q4 => kilo 0 H q4 i6 fun q5 => bdP (M_vof H q5) fun q6a q6b => kisA 5 q6a r3 ( bdP (M_push q6a r3 q6b) fun q8a q8b => kdc i6 fun q9 => rec 82 q8a r3 i4 i5 q9 ) )
def B_num_124 (r0 : Nat) (i1 : Nat) (r2 : Nat) (rec : Nat → Nat → Nat → Nat → Nat → Nat → Option (Nat × Nat)) (H : Nat) (r3 : Nat) (i4 : Nat) (i5 : Nat) (i6 : Nat) : Option (Nat × Nat) :=
  plt i4 1 ( some (H, 0) ) ( kilo 0 H r2 i4 fun q3 => kgfr 4 72 H r0 fun q4 => kilo 0 H q4 q3 fun q5 => kgfr 4 60 H r0 fun q6 => kilo 0 H q6 q3 fun q7 => bdP (M_max H q5 q7) fun q8a q8b => kist 0 q8a q4 q3 q8b fun q9 => kgfr 4 24 q9 r0 fun q10 => kilo 0 q9 q10 q3 fun q11 => plt q11 1 ( kdc i4 fun q14 => rec 124 q9 0 q14 0 0 ) ( kgfr 4 72 q9 r0 fun q15 => kilo 0 q9 q15 q11 fun q16 => kilo 0 q9 q15 q3 fun q17 => bdP (M_max q9 q16 q17) fun q18a q18b => kist 0 q18a q15 q11 q18b fun q19 => kdc i4 fun q20 => rec 124 q19 0 q20 0 0 ) )
def L_num (r0 : Nat) (i1 : Nat) (r2 : Nat) (n : Nat) : Nat → Nat → Nat → Nat → Nat → Nat → Option (Nat × Nat) := Nat.rec (motive := fun _ => Nat → Nat → Nat → Nat → Nat → Nat → Option (Nat × Nat)) (fun _ _ _ _ _ _ => none) (fun _ ih => fun hd => br (Nat.beq hd 29) (B_num_29 r0 i1 r2 ih) (br (Nat.beq hd 82) (B_num_82 r0 i1 r2 ih) (br (Nat.beq hd 124) (B_num_124 r0 i1 r2 ih) (fun _ _ _ _ _ => none)))) n
def M_num (H : Nat) (r0 : Nat) (i1 : Nat) : Option (Nat × Nat) :=
  kgfr 4 24 H r0 fun q1 => kaln H q1 fun q2 => bdP (pnewI 0 H q2) fun q3a q3b => bdP (padd q3a pb5) fun q4a q4b => bdP (M_deq q4a q4b) fun q5a q5b => bdP (M_vof q5a i1) fun q6a q6b => kisA 5 q6a q4b ( bdP (M_push q6a q4b q6b) fun q8a q8b => L_num r0 i1 q3b 90 29 q8a q4b 1 0 0 )
set_option maxRecDepth 65536 in
set_option maxHeartbeats 40000000 in
theorem rm_num (l : Launch) (Z : State) (a0 : Array Value) (hw : ∀ d ∈ tables_1, d.before a0 Z = true) (ca : Nat → Addr) (K : OKa Z ca) (H : Nat) (r0 : Nat) (i1 : Nat) (res : Nat × Nat) (h0 : Heap) (hE0 : Ext Z.heap h0) (R0 : RepP Z ca h0 H)  (hM : M_num H r0 i1 = some res) :
    OCtr l Z (⟨"com/example/mild_horn/mildhorn/translation/Centroids", "number", "(I)V"⟩ : MethodName) prog_40_method_7_code 7 none ({ frames := 4, cells := 3, slots := 28, locals := 54 } : Room) #[(.ref (ad Z ca r0)), (.int (vi i1))] h0 (fun v h => v = none ∧ RepP Z ca h res.1) := by
  refine o_bodyS (ls0 := #[.val (.ref (ad Z ca r0)), .val (.int (vi i1)), .unset, .unset, .unset, .unset, .unset]) (plainFor_of_name pn_4) hE0 (fun m => by first | (simp [entryFrame, mkF, argsToLocals, Value.category]; done) | rfl) ?_
  intro pG eG sG mG bG meG cG hS0
  have LP : ∀ f : Nat, (∀ (h : Heap) (H : Nat) (r2 : Nat) (r3 : Nat) (i4 : Nat) (x5 : Slot) (p5 : Pl x5) (x6 : Slot) (p6 : Pl x6) (R : RepP Z ca h H) (hM : L_num r0 i1 r2 f 29 H r3 i4 0 0 = some res), OG pG l eG ({ frames := 4, cells := 3, slots := 28, locals := 54 } : Room) sG mG #[(.ref (ad Z ca r0)), (.int (vi i1))] bG meG cG Z (⟨"com/example/mild_horn/mildhorn/translation/Centroids", "number", "(I)V"⟩ : MethodName).cls (⟨"com/example/mild_horn/mildhorn/translation/Centroids", "number", "(I)V"⟩ : MethodName).name prog_40_method_7_code 7 none (fun v h => v = none ∧ RepP Z ca h res.1) ({ frames := 4, cells := 3, slots := 28, locals := 54 } : Room).cells ({ frames := 4, cells := 3, slots := 28, locals := 54 } : Room).slots h 3 28 (mkF mG 29 #[.val (.ref (ad Z ca r0)), .val (.int (vi i1)), .val (.ref (ad Z ca r2)), .val (.ref (ad Z ca r3)), .val (.int (vi i4)), x5, x6] [])) ∧ (∀ (h : Heap) (H : Nat) (r2 : Nat) (r3 : Nat) (i4 : Nat) (i5 : Nat) (i6 : Nat)  (R : RepP Z ca h H) (hM : L_num r0 i1 r2 f 82 H r3 i4 i5 i6 = some res), OG pG l eG ({ frames := 4, cells := 3, slots := 28, locals := 54 } : Room) sG mG #[(.ref (ad Z ca r0)), (.int (vi i1))] bG meG cG Z (⟨"com/example/mild_horn/mildhorn/translation/Centroids", "number", "(I)V"⟩ : MethodName).cls (⟨"com/example/mild_horn/mildhorn/translation/Centroids", "number", "(I)V"⟩ : MethodName).name prog_40_method_7_code 7 none (fun v h => v = none ∧ RepP Z ca h res.1) ({ frames := 4, cells := 3, slots := 28, locals := 54 } : Room).cells ({ frames := 4, cells := 3, slots := 28, locals := 54 } : Room).slots h 3 28 (mkF mG 82 #[.val (.ref (ad Z ca r0)), .val (.int (vi i1)), .val (.ref (ad Z ca r2)), .val (.ref (ad Z ca r3)), .val (.int (vi i4)), .val (.int (vi i5)), .val (.int (vi i6))] [])) ∧ (∀ (h : Heap) (H : Nat) (r2 : Nat) (i4 : Nat) (x3 : Slot) (p3 : Pl x3) (x5 : Slot) (p5 : Pl x5) (x6 : Slot) (p6 : Pl x6) (R : RepP Z ca h H) (hM : L_num r0 i1 r2 f 124 H 0 i4 0 0 = some res), OG pG l eG ({ frames := 4, cells := 3, slots := 28, locals := 54 } : Room) sG mG #[(.ref (ad Z ca r0)), (.int (vi i1))] bG meG cG Z (⟨"com/example/mild_horn/mildhorn/translation/Centroids", "number", "(I)V"⟩ : MethodName).cls (⟨"com/example/mild_horn/mildhorn/translation/Centroids", "number", "(I)V"⟩ : MethodName).name prog_40_method_7_code 7 none (fun v h => v = none ∧ RepP Z ca h res.1) ({ frames := 4, cells := 3, slots := 28, locals := 54 } : Room).cells ({ frames := 4, cells := 3, slots := 28, locals := 54 } : Room).slots h 3 28 (mkF mG 124 #[.val (.ref (ad Z ca r0)), .val (.int (vi i1)), .val (.ref (ad Z ca r2)), x3, .val (.int (vi i4)), x5, x6] [])) := by
    intro f
    induction f with
    | zero =>
      refine ⟨?_, ?_, ?_⟩
      · intro h H r2 r3 i4 x5 p5 x6 p6 R hM
        first | exact nomatch hM | (simp [L_num] at hM; done)
      · intro h H r2 r3 i4 i5 i6  R hM
        first | exact nomatch hM | (simp [L_num] at hM; done)
      · intro h H r2 i4 x3 p3 x5 p5 x6 p6 R hM
        first | exact nomatch hM | (simp [L_num] at hM; done)
    | succ f ih =>
      obtain ⟨ih_29, ih_82, ih_124⟩ := ih
      refine ⟨?_, ?_, ?_⟩
      · intro h H r2 r3 i4 x5 p5 x6 p6 R hM
        have hM : B_num_29 r0 i1 r2 (L_num r0 i1 r2 f) H r3 i4 0 0 = some res := hM
        unfold B_num_29 at hM
        refine o_blk (pc' := 30) (st' := [(.ref (ad Z ca r3))]) (ls' := #[.val (.ref (ad Z ca r0)), .val (.int (vi i1)), .val (.ref (ad Z ca r2)), .val (.ref (ad Z ca r3)), .val (.int (vi i4)), x5, x6]) b7_29_30 rfl ?_
        obtain ⟨hb1, hM⟩ := own_kisA hM
        obtain ⟨q2, hq2, hM⟩ := own_bdP hM
        refine o_callFU (W := 0) (argsL := []) (rest := []) (pc' := 35) (own_word hw 94 rfl) (own_word hw 95 rfl) (own_word hw 96 rfl) (by decide) (by decide) (own_word hw 97 rfl) (own_word hw 98 rfl) (own_word hw 99 rfl) (own_word hw 100 rfl) (own_word hw 79 rfl) (own_word hw 101 rfl) (own_word hw 50 rfl) (by decide) (R.exa (t := 1) hb1) (fun hE => rm_isemp l Z a0 hw ca K H r3 q2 h hE R hq2) d7_30 pd_7 rfl rfl rfl (Nat.le_of_eq rfl) (by decide) (by decide) (by decide) (by decide) rfl ?_
        rintro _ h_q2 ⟨rfl, R_q2⟩ hs_q2
        obtain ⟨hb3, hM⟩ := own_peq hM
        refine o_if (pc' := 115) (pc'' := 38) d7_35 (by decide) (by decide) rfl (fun (hc35_4 : ¬ (vi q2.2) = (vi 1)) => ?_) (fun (hc35_4 : (vi q2.2) = (vi 1)) => ?_)
        ·
          replace hM := own_condF ((vi_eq hb3).2 hc35_4) hM
          refine o_blk (pc' := 116) (st' := [(.ref (ad Z ca r0))]) (ls' := #[.val (.ref (ad Z ca r0)), .val (.int (vi i1)), .val (.ref (ad Z ca r2)), .val (.ref (ad Z ca r3)), .val (.int (vi i4)), x5, x6]) b7_115_116 rfl ?_
          obtain ⟨q5, hq5, hM⟩ := own_kgfr (i := 0) hM rfl
          refine p_getR (t := 0) (i := 0) (pc' := 119) R_q2 (by decide) (by decide) hq5 rfl rfl (own_word hw 11 rfl) d7_116 rfl ?_
          obtain ⟨q6, hq6, hM⟩ := own_kaln hM
          refine p_len (pc' := 120) R_q2 hq6 d7_119 rfl ?_
          refine o_blk (pc' := 121) (st' := [(.int (vi 2)), (.int (vi q6))]) (ls' := #[.val (.ref (ad Z ca r0)), .val (.int (vi i1)), .val (.ref (ad Z ca r2)), .val (.ref (ad Z ca r3)), .val (.int (vi i4)), x5, x6]) b7_120_121 rfl ?_
          obtain ⟨q7, hq7, hM⟩ := own_kdc hM
          refine o_blk (pc' := 122) (st' := [(.int ((vi q6) - (vi 2)))]) (ls' := #[.val (.ref (ad Z ca r0)), .val (.int (vi i1)), .val (.ref (ad Z ca r2)), .val (.ref (ad Z ca r3)), .val (.int (vi i4)), x5, x6]) b7_121_122 rfl ?_
          rw [hq7]
          refine o_blk (pc' := 124) (st' := []) (ls' := #[.val (.ref (ad Z ca r0)), .val (.int (vi i1)), .val (.ref (ad Z ca r2)), .val (.ref (ad Z ca r3)), .val (.int (vi q7)), x5, x6]) b7_122_124 rfl ?_
          exact ih_124 _ _ _ _ _ (Pl.r _) _ p5 _ p6 R_q2 hM
        ·
          replace hM := own_condT ((vi_eq hb3).1 hc35_4) hM
          refine o_blk (pc' := 39) (st' := [(.ref (ad Z ca r3))]) (ls' := #[.val (.ref (ad Z ca r0)), .val (.int (vi i1)), .val (.ref (ad Z ca r2)), .val (.ref (ad Z ca r3)), .val (.int (vi i4)), x5, x6]) b7_38_39 rfl ?_
          obtain ⟨hb8, hM⟩ := own_kisA hM
          obtain ⟨q9, hq9, hM⟩ := own_bdP hM
          refine o_callF (W := 0) (argsL := []) (rest := []) (pc' := 44) (own_word hw 102 rfl) (own_word hw 103 rfl) (own_word hw 104 rfl) rfl (own_word hw 105 rfl) (own_word hw 106 rfl) (own_word hw 107 rfl) (own_word hw 108 rfl) (own_word hw 79 rfl) (own_word hw 109 rfl) (own_word hw 50 rfl) (by decide) (R_q2.exa (t := 1) hb8) (fun hE => rm_pop l Z a0 hw ca K q2.1 r3 q9 h_q2 hE R_q2 hq9) d7_39 pd_4 rfl rfl rfl (Nat.le_of_eq rfl) (by decide) (by decide) (by decide) (by decide) rfl ?_
          rintro _ h_q9 ⟨rfl, R_q9⟩ hs_q9
          obtain ⟨hb10, hM⟩ := own_gd hM
          obtain ⟨hb11, hM⟩ := own_gd hM
          refine m_castI (pc' := 47) K.1 R_q9.ext ⟨Nat.le_of_ble_eq_true hb10, Nat.le_of_ble_eq_true hb11⟩ (own_word hw 126 rfl) d7_44 rfl ?_
          obtain ⟨q12, hq12, hM⟩ := own_bdP hM
          refine o_callV (W := 0) (argsL := []) (rest := []) (pc' := 50) (own_word hw 128 rfl) (own_word hw 129 rfl) (own_word hw 131 rfl) (own_word hw 131 rfl) (own_word hw 130 rfl) (own_word hw 132 rfl) (own_word hw 67 rfl) (by decide) (own_int K.1 R_q9.ext ⟨Nat.le_of_ble_eq_true hb10, Nat.le_of_ble_eq_true hb11⟩).1 (fun hE => rm_ival l Z a0 hw ca K q9.1 q9.2 q12 h_q9 hE R_q9 hq12) d7_47 pd_8 rfl rfl rfl (Nat.le_of_eq rfl) (by decide) (by decide) (by decide) (by decide) rfl ?_
          rintro _ h_q12 ⟨rfl, R_q12⟩ hs_q12
          refine o_stP (pc' := 52) (st' := []) (ls' := #[.val (.ref (ad Z ca r0)), .val (.int (vi i1)), .val (.ref (ad Z ca r2)), .val (.ref (ad Z ca r3)), .val (.int (vi i4)), .val (.int (vi q12.2)), x6]) d7_50 rfl rfl (own_stI (x := x5) rfl p5) ?_
          refine o_blk (pc' := 57) (st' := [(.int (vi q12.2)), (.int (vi i4)), (.ref (ad Z ca r2))]) (ls' := #[.val (.ref (ad Z ca r0)), .val (.int (vi i1)), .val (.ref (ad Z ca r2)), .val (.ref (ad Z ca r3)), .val (.int (vi i4)), .val (.int (vi q12.2)), x6]) b7_52_57 rfl ?_
          obtain ⟨q13, hq13, hM⟩ := own_kist hM
          refine p_iast (pc' := 58) R_q12 hq13 d7_57 rfl ?_
          intro h_q13 R_q13
          refine o_blk (pc' := 59) (st' := [(.ref (ad Z ca r0))]) (ls' := #[.val (.ref (ad Z ca r0)), .val (.int (vi i1)), .val (.ref (ad Z ca r2)), .val (.ref (ad Z ca r3)), .val (.int (vi i4)), .val (.int (vi q12.2)), x6]) b7_58_59 rfl ?_
          obtain ⟨q14, hq14, hM⟩ := own_kgfr (i := 3) hM rfl
          refine p_getR (t := 0) (i := 3) (pc' := 62) R_q13 (by decide) (by decide) hq14 rfl rfl (own_word hw 38 rfl) d7_59 rfl ?_
          refine o_blk (pc' := 66) (st' := [(.int (vi i4)), (.int (vi q12.2)), (.ref (ad Z ca q14))]) (ls' := #[.val (.ref (ad Z ca r0)), .val (.int (vi i1)), .val (.ref (ad Z ca r2)), .val (.ref (ad Z ca r3)), .val (.int (vi i4)), .val (.int (vi q12.2)), x6]) b7_62_66 rfl ?_
          refine o_blk (pc' := 69) (st' := [(.int (vi i4)), (.int (vi q12.2)), (.ref (ad Z ca q14))]) (ls' := #[.val (.ref (ad Z ca r0)), .val (.int (vi i1)), .val (.ref (ad Z ca r2)), .val (.ref (ad Z ca r3)), .val (.int ((vi i4) + (vi 2))), .val (.int (vi q12.2)), x6]) b7_66_69 rfl ?_
          rw [vi_inc i4]
          obtain ⟨q15, hq15, hM⟩ := own_kist hM
          refine p_iast (pc' := 70) R_q13 hq15 d7_69 rfl ?_
          intro h_q15 R_q15
          refine o_blk (pc' := 71) (st' := [(.ref (ad Z ca r0))]) (ls' := #[.val (.ref (ad Z ca r0)), .val (.int (vi i1)), .val (.ref (ad Z ca r2)), .val (.ref (ad Z ca r3)), .val (.int (vi (Nat.add i4 1))), .val (.int (vi q12.2)), x6]) b7_70_71 rfl ?_
          obtain ⟨q16, hq16, hM⟩ := own_kgfr (i := 1) hM rfl
          refine p_getR (t := 0) (i := 1) (pc' := 74) R_q15 (by decide) (by decide) hq16 rfl rfl (own_word hw 19 rfl) d7_71 rfl ?_
          refine o_blk (pc' := 76) (st' := [(.int (vi q12.2)), (.ref (ad Z ca q16))]) (ls' := #[.val (.ref (ad Z ca r0)), .val (.int (vi i1)), .val (.ref (ad Z ca r2)), .val (.ref (ad Z ca r3)), .val (.int (vi (Nat.add i4 1))), .val (.int (vi q12.2)), x6]) b7_74_76 rfl ?_
          obtain ⟨q17, hq17, hM⟩ := own_krlo hM
          refine p_aald (pc' := 77) R_q15 hq17 d7_76 rfl ?_
          obtain ⟨q18, hq18, hM⟩ := own_kaln hM
          refine p_len (pc' := 78) R_q15 hq18 d7_77 rfl ?_
          refine o_blk (pc' := 79) (st' := [(.int (vi 2)), (.int (vi q18))]) (ls' := #[.val (.ref (ad Z ca r0)), .val (.int (vi i1)), .val (.ref (ad Z ca r2)), .val (.ref (ad Z ca r3)), .val (.int (vi (Nat.add i4 1))), .val (.int (vi q12.2)), x6]) b7_78_79 rfl ?_
          obtain ⟨q19, hq19, hM⟩ := own_kdc hM
          refine o_blk (pc' := 80) (st' := [(.int ((vi q18) - (vi 2)))]) (ls' := #[.val (.ref (ad Z ca r0)), .val (.int (vi i1)), .val (.ref (ad Z ca r2)), .val (.ref (ad Z ca r3)), .val (.int (vi (Nat.add i4 1))), .val (.int (vi q12.2)), x6]) b7_79_80 rfl ?_
          rw [hq19]
          refine o_stP (pc' := 82) (st' := []) (ls' := #[.val (.ref (ad Z ca r0)), .val (.int (vi i1)), .val (.ref (ad Z ca r2)), .val (.ref (ad Z ca r3)), .val (.int (vi (Nat.add i4 1))), .val (.int (vi q12.2)), .val (.int (vi q19))]) d7_80 rfl rfl (own_stI (x := x6) rfl p6) ?_
          exact ih_82 _ _ _ _ _ _ _  R_q15 hM
      · intro h H r2 r3 i4 i5 i6  R hM
        have hM : B_num_82 r0 i1 r2 (L_num r0 i1 r2 f) H r3 i4 i5 i6 = some res := hM
        unfold B_num_82 at hM
        refine o_blk (pc' := 84) (st' := [(.int (vi i6))]) (ls' := #[.val (.ref (ad Z ca r0)), .val (.int (vi i1)), .val (.ref (ad Z ca r2)), .val (.ref (ad Z ca r3)), .val (.int (vi i4)), .val (.int (vi i5)), .val (.int (vi i6))]) b7_82_84 rfl ?_
        obtain ⟨hb1, hM⟩ := own_plt hM
        refine o_if (pc' := 112) (pc'' := 87) d7_84 (by decide) (by decide) rfl (fun (hc84_2 : (vi i6) < (vi 1)) => ?_) (fun (hc84_2 : ¬ (vi i6) < (vi 1)) => ?_)
        ·
          replace hM := own_condT ((vi_lt hb1).1 hc84_2) hM
          refine o_goto (pc' := 29) d7_112 (by decide) (by decide) ?_
          exact ih_29 _ _ _ _ _ _ (Pl.i _) _ (Pl.i _) R hM
        ·
          replace hM := own_condF ((vi_lt hb1).2 hc84_2) hM
          refine o_blk (pc' := 89) (st' := [(.ref (ad Z ca r0)), (.ref (ad Z ca r3))]) (ls' := #[.val (.ref (ad Z ca r0)), .val (.int (vi i1)), .val (.ref (ad Z ca r2)), .val (.ref (ad Z ca r3)), .val (.int (vi i4)), .val (.int (vi i5)), .val (.int (vi i6))]) b7_87_89 rfl ?_
          obtain ⟨q3, hq3, hM⟩ := own_kgfr (i := 1) hM rfl
          refine p_getR (t := 0) (i := 1) (pc' := 92) R (by decide) (by decide) hq3 rfl rfl (own_word hw 19 rfl) d7_89 rfl ?_
          refine o_blk (pc' := 94) (st' := [(.int (vi i5)), (.ref (ad Z ca q3)), (.ref (ad Z ca r3))]) (ls' := #[.val (.ref (ad Z ca r0)), .val (.int (vi i1)), .val (.ref (ad Z ca r2)), .val (.ref (ad Z ca r3)), .val (.int (vi i4)), .val (.int (vi i5)), .val (.int (vi i6))]) b7_92_94 rfl ?_
          obtain ⟨q4, hq4, hM⟩ := own_krlo hM
          refine p_aald (pc' := 95) R hq4 d7_94 rfl ?_
          refine o_blk (pc' := 97) (st' := [(.int (vi i6)), (.ref (ad Z ca q4)), (.ref (ad Z ca r3))]) (ls' := #[.val (.ref (ad Z ca r0)), .val (.int (vi i1)), .val (.ref (ad Z ca r2)), .val (.ref (ad Z ca r3)), .val (.int (vi i4)), .val (.int (vi i5)), .val (.int (vi i6))]) b7_95_97 rfl ?_
          obtain ⟨q5, hq5, hM⟩ := own_kilo hM
          refine p_iald (pc' := 98) R hq5 d7_97 rfl ?_
          obtain ⟨q6, hq6, hM⟩ := own_bdP hM
          refine o_callS (W := 1) (argsL := [(.int (vi q5))]) (rest := [(.ref (ad Z ca r3))]) (pc' := 101) (own_word hw 65 rfl) (own_word hw 66 rfl) (own_word hw 67 rfl) (own_word hw 68 rfl) (by decide) (fun hE => rm_vof l Z a0 hw ca K H q5 q6 h hE R hq6) d7_98 pd_6 rfl rfl rfl (Nat.le_of_eq rfl) (by decide) (by decide) (by decide) (by decide) rfl ?_
          rintro _ h_q6 ⟨rfl, R_q6⟩ hs_q6
          obtain ⟨hb7, hM⟩ := own_kisA hM
          obtain ⟨q8, hq8, hM⟩ := own_bdP hM
          refine o_callF (W := 0) (argsL := [(.ref (ad Z ca q6.2))]) (rest := []) (pc' := 106) (own_word hw 72 rfl) (own_word hw 73 rfl) (own_word hw 74 rfl) rfl (own_word hw 75 rfl) (own_word hw 76 rfl) (own_word hw 77 rfl) (own_word hw 78 rfl) (own_word hw 79 rfl) (own_word hw 80 rfl) (own_word hw 50 rfl) (by decide) (R_q6.exa (t := 1) hb7) (fun hE => rm_push l Z a0 hw ca K q6.1 r3 q6.2 q8 h_q6 hE R_q6 hq8) d7_101 pd_2 rfl rfl rfl (Nat.le_of_eq rfl) (by decide) (by decide) (by decide) (by decide) rfl ?_
          rintro _ h_q8 ⟨rfl, R_q8⟩ hs_q8
          obtain ⟨q9, hq9, hM⟩ := own_kdi hM
          refine o_blk (pc' := 109) (st' := []) (ls' := #[.val (.ref (ad Z ca r0)), .val (.int (vi i1)), .val (.ref (ad Z ca r2)), .val (.ref (ad Z ca r3)), .val (.int (vi i4)), .val (.int (vi i5)), .val (.int ((vi i6) + (vi 0)))]) b7_106_109 rfl ?_
          rw [hq9]
          refine o_goto (pc' := 82) d7_109 (by decide) (by decide) ?_
          exact ih_82 _ _ _ _ _ _ _  R_q8 hM
      · intro h H r2 i4 x3 p3 x5 p5 x6 p6 R hM
        have hM : B_num_124 r0 i1 r2 (L_num r0 i1 r2 f) H 0 i4 0 0 = some res := hM
        unfold B_num_124 at hM
        refine o_blk (pc' := 126) (st' := [(.int (vi i4))]) (ls' := #[.val (.ref (ad Z ca r0)), .val (.int (vi i1)), .val (.ref (ad Z ca r2)), x3, .val (.int (vi i4)), x5, x6]) b7_124_126 rfl ?_
        obtain ⟨hb1, hM⟩ := own_plt hM
        refine o_if (pc' := 209) (pc'' := 129) d7_126 (by decide) (by decide) rfl (fun (hc126_2 : (vi i4) < (vi 1)) => ?_) (fun (hc126_2 : ¬ (vi i4) < (vi 1)) => ?_)
        ·
          replace hM := own_condT ((vi_lt hb1).1 hc126_2) hM
          cases hM
          exact o_retV d7_209 (by decide) (by decide) rfl ⟨rfl, R⟩
        ·
          replace hM := own_condF ((vi_lt hb1).2 hc126_2) hM
          refine o_blk (pc' := 132) (st' := [(.int (vi i4)), (.ref (ad Z ca r2))]) (ls' := #[.val (.ref (ad Z ca r0)), .val (.int (vi i1)), .val (.ref (ad Z ca r2)), x3, .val (.int (vi i4)), x5, x6]) b7_129_132 rfl ?_
          obtain ⟨q3, hq3, hM⟩ := own_kilo hM
          refine p_iald (pc' := 133) R hq3 d7_132 rfl ?_
          refine o_stP (pc' := 135) (st' := []) (ls' := #[.val (.ref (ad Z ca r0)), .val (.int (vi i1)), .val (.ref (ad Z ca r2)), x3, .val (.int (vi i4)), .val (.int (vi q3)), x6]) d7_133 rfl rfl (own_stI (x := x5) rfl p5) ?_
          refine o_blk (pc' := 136) (st' := [(.ref (ad Z ca r0))]) (ls' := #[.val (.ref (ad Z ca r0)), .val (.int (vi i1)), .val (.ref (ad Z ca r2)), x3, .val (.int (vi i4)), .val (.int (vi q3)), x6]) b7_135_136 rfl ?_
          obtain ⟨q4, hq4, hM⟩ := own_kgfr (i := 4) hM rfl
          refine p_getR (t := 0) (i := 4) (pc' := 139) R (by decide) (by decide) hq4 rfl rfl (own_word hw 40 rfl) d7_136 rfl ?_
          refine o_blk (pc' := 142) (st' := [(.ref (ad Z ca r0)), (.int (vi q3)), (.ref (ad Z ca q4))]) (ls' := #[.val (.ref (ad Z ca r0)), .val (.int (vi i1)), .val (.ref (ad Z ca r2)), x3, .val (.int (vi i4)), .val (.int (vi q3)), x6]) b7_139_142 rfl ?_
          refine p_getR (t := 0) (i := 4) (pc' := 145) R (by decide) (by decide) hq4 rfl rfl (own_word hw 40 rfl) d7_142 rfl ?_
          refine o_blk (pc' := 147) (st' := [(.int (vi q3)), (.ref (ad Z ca q4)), (.int (vi q3)), (.ref (ad Z ca q4))]) (ls' := #[.val (.ref (ad Z ca r0)), .val (.int (vi i1)), .val (.ref (ad Z ca r2)), x3, .val (.int (vi i4)), .val (.int (vi q3)), x6]) b7_145_147 rfl ?_
          obtain ⟨q5, hq5, hM⟩ := own_kilo hM
          refine p_iald (pc' := 148) R hq5 d7_147 rfl ?_
          refine o_blk (pc' := 149) (st' := [(.ref (ad Z ca r0)), (.int (vi q5)), (.int (vi q3)), (.ref (ad Z ca q4))]) (ls' := #[.val (.ref (ad Z ca r0)), .val (.int (vi i1)), .val (.ref (ad Z ca r2)), x3, .val (.int (vi i4)), .val (.int (vi q3)), x6]) b7_148_149 rfl ?_
          obtain ⟨q6, hq6, hM⟩ := own_kgfr (i := 3) hM rfl
          refine p_getR (t := 0) (i := 3) (pc' := 152) R (by decide) (by decide) hq6 rfl rfl (own_word hw 38 rfl) d7_149 rfl ?_
          refine o_blk (pc' := 154) (st' := [(.int (vi q3)), (.ref (ad Z ca q6)), (.int (vi q5)), (.int (vi q3)), (.ref (ad Z ca q4))]) (ls' := #[.val (.ref (ad Z ca r0)), .val (.int (vi i1)), .val (.ref (ad Z ca r2)), x3, .val (.int (vi i4)), .val (.int (vi q3)), x6]) b7_152_154 rfl ?_
          obtain ⟨q7, hq7, hM⟩ := own_kilo hM
          refine p_iald (pc' := 155) R hq7 d7_154 rfl ?_
          obtain ⟨q8, hq8, hM⟩ := own_bdP hM
          refine o_callS (W := 2) (argsL := [(.int (vi q5)), (.int (vi q7))]) (rest := [(.int (vi q3)), (.ref (ad Z ca q4))]) (pc' := 158) (own_word hw 135 rfl) (own_word hw 136 rfl) (own_word hw 30 rfl) (own_word hw 137 rfl) (by decide) (fun hE => rm_max l Z a0 hw ca K H q5 q7 q8 h hE R hq8) d7_155 pd_1 rfl rfl rfl (Nat.le_of_eq rfl) (by decide) (by decide) (by decide) (by decide) rfl ?_
          rintro _ h_q8 ⟨rfl, R_q8⟩ hs_q8
          obtain ⟨q9, hq9, hM⟩ := own_kist hM
          refine p_iast (pc' := 159) R_q8 hq9 d7_158 rfl ?_
          intro h_q9 R_q9
          refine o_blk (pc' := 160) (st' := [(.ref (ad Z ca r0))]) (ls' := #[.val (.ref (ad Z ca r0)), .val (.int (vi i1)), .val (.ref (ad Z ca r2)), x3, .val (.int (vi i4)), .val (.int (vi q3)), x6]) b7_159_160 rfl ?_
          obtain ⟨q10, hq10, hM⟩ := own_kgfr (i := 0) hM rfl
          refine p_getR (t := 0) (i := 0) (pc' := 163) R_q9 (by decide) (by decide) hq10 rfl rfl (own_word hw 11 rfl) d7_160 rfl ?_
          refine o_blk (pc' := 165) (st' := [(.int (vi q3)), (.ref (ad Z ca q10))]) (ls' := #[.val (.ref (ad Z ca r0)), .val (.int (vi i1)), .val (.ref (ad Z ca r2)), x3, .val (.int (vi i4)), .val (.int (vi q3)), x6]) b7_163_165 rfl ?_
          obtain ⟨q11, hq11, hM⟩ := own_kilo hM
          refine p_iald (pc' := 166) R_q9 hq11 d7_165 rfl ?_
          obtain ⟨hb12, hM⟩ := own_plt hM
          refine o_if (pc' := 203) (pc'' := 169) d7_166 (by decide) (by decide) rfl (fun (hc166_13 : (vi q11) < (vi 1)) => ?_) (fun (hc166_13 : ¬ (vi q11) < (vi 1)) => ?_)
          ·
            replace hM := own_condT ((vi_lt hb12).1 hc166_13) hM
            obtain ⟨q14, hq14, hM⟩ := own_kdi hM
            refine o_blk (pc' := 206) (st' := []) (ls' := #[.val (.ref (ad Z ca r0)), .val (.int (vi i1)), .val (.ref (ad Z ca r2)), x3, .val (.int ((vi i4) + (vi 0))), .val (.int (vi q3)), x6]) b7_203_206 rfl ?_
            rw [hq14]
            refine o_goto (pc' := 124) d7_206 (by decide) (by decide) ?_
            exact ih_124 _ _ _ _ _ p3 _ (Pl.i _) _ p6 R_q9 hM
          ·
            replace hM := own_condF ((vi_lt hb12).2 hc166_13) hM
            refine o_blk (pc' := 170) (st' := [(.ref (ad Z ca r0))]) (ls' := #[.val (.ref (ad Z ca r0)), .val (.int (vi i1)), .val (.ref (ad Z ca r2)), x3, .val (.int (vi i4)), .val (.int (vi q3)), x6]) b7_169_170 rfl ?_
            obtain ⟨q15, hq15, hM⟩ := own_kgfr (i := 4) hM rfl
            refine p_getR (t := 0) (i := 4) (pc' := 173) R_q9 (by decide) (by decide) hq15 rfl rfl (own_word hw 40 rfl) d7_170 rfl ?_
            refine o_blk (pc' := 174) (st' := [(.ref (ad Z ca r0)), (.ref (ad Z ca q15))]) (ls' := #[.val (.ref (ad Z ca r0)), .val (.int (vi i1)), .val (.ref (ad Z ca r2)), x3, .val (.int (vi i4)), .val (.int (vi q3)), x6]) b7_173_174 rfl ?_
            refine p_getR (t := 0) (i := 0) (pc' := 177) R_q9 (by decide) (by decide) hq10 rfl rfl (own_word hw 11 rfl) d7_174 rfl ?_
            refine o_blk (pc' := 179) (st' := [(.int (vi q3)), (.ref (ad Z ca q10)), (.ref (ad Z ca q15))]) (ls' := #[.val (.ref (ad Z ca r0)), .val (.int (vi i1)), .val (.ref (ad Z ca r2)), x3, .val (.int (vi i4)), .val (.int (vi q3)), x6]) b7_177_179 rfl ?_
            refine p_iald (pc' := 180) R_q9 hq11 d7_179 rfl ?_
            refine o_blk (pc' := 181) (st' := [(.ref (ad Z ca r0)), (.int (vi q11)), (.ref (ad Z ca q15))]) (ls' := #[.val (.ref (ad Z ca r0)), .val (.int (vi i1)), .val (.ref (ad Z ca r2)), x3, .val (.int (vi i4)), .val (.int (vi q3)), x6]) b7_180_181 rfl ?_
            refine p_getR (t := 0) (i := 4) (pc' := 184) R_q9 (by decide) (by decide) hq15 rfl rfl (own_word hw 40 rfl) d7_181 rfl ?_
            refine o_blk (pc' := 185) (st' := [(.ref (ad Z ca r0)), (.ref (ad Z ca q15)), (.int (vi q11)), (.ref (ad Z ca q15))]) (ls' := #[.val (.ref (ad Z ca r0)), .val (.int (vi i1)), .val (.ref (ad Z ca r2)), x3, .val (.int (vi i4)), .val (.int (vi q3)), x6]) b7_184_185 rfl ?_
            refine p_getR (t := 0) (i := 0) (pc' := 188) R_q9 (by decide) (by decide) hq10 rfl rfl (own_word hw 11 rfl) d7_185 rfl ?_
            refine o_blk (pc' := 190) (st' := [(.int (vi q3)), (.ref (ad Z ca q10)), (.ref (ad Z ca q15)), (.int (vi q11)), (.ref (ad Z ca q15))]) (ls' := #[.val (.ref (ad Z ca r0)), .val (.int (vi i1)), .val (.ref (ad Z ca r2)), x3, .val (.int (vi i4)), .val (.int (vi q3)), x6]) b7_188_190 rfl ?_
            refine p_iald (pc' := 191) R_q9 hq11 d7_190 rfl ?_
            obtain ⟨q16, hq16, hM⟩ := own_kilo hM
            refine p_iald (pc' := 192) R_q9 hq16 d7_191 rfl ?_
            refine o_blk (pc' := 193) (st' := [(.ref (ad Z ca r0)), (.int (vi q16)), (.int (vi q11)), (.ref (ad Z ca q15))]) (ls' := #[.val (.ref (ad Z ca r0)), .val (.int (vi i1)), .val (.ref (ad Z ca r2)), x3, .val (.int (vi i4)), .val (.int (vi q3)), x6]) b7_192_193 rfl ?_
            refine p_getR (t := 0) (i := 4) (pc' := 196) R_q9 (by decide) (by decide) hq15 rfl rfl (own_word hw 40 rfl) d7_193 rfl ?_
            refine o_blk (pc' := 198) (st' := [(.int (vi q3)), (.ref (ad Z ca q15)), (.int (vi q16)), (.int (vi q11)), (.ref (ad Z ca q15))]) (ls' := #[.val (.ref (ad Z ca r0)), .val (.int (vi i1)), .val (.ref (ad Z ca r2)), x3, .val (.int (vi i4)), .val (.int (vi q3)), x6]) b7_196_198 rfl ?_
            obtain ⟨q17, hq17, hM⟩ := own_kilo hM
            refine p_iald (pc' := 199) R_q9 hq17 d7_198 rfl ?_
            obtain ⟨q18, hq18, hM⟩ := own_bdP hM
            refine o_callS (W := 2) (argsL := [(.int (vi q16)), (.int (vi q17))]) (rest := [(.int (vi q11)), (.ref (ad Z ca q15))]) (pc' := 202) (own_word hw 135 rfl) (own_word hw 136 rfl) (own_word hw 30 rfl) (own_word hw 137 rfl) (by decide) (fun hE => rm_max l Z a0 hw ca K q9 q16 q17 q18 h_q9 hE R_q9 hq18) d7_199 pd_1 rfl rfl rfl (Nat.le_of_eq rfl) (by decide) (by decide) (by decide) (by decide) rfl ?_
            rintro _ h_q18 ⟨rfl, R_q18⟩ hs_q18
            obtain ⟨q19, hq19, hM⟩ := own_kist hM
            refine p_iast (pc' := 203) R_q18 hq19 d7_202 rfl ?_
            intro h_q19 R_q19
            obtain ⟨q20, hq20, hM⟩ := own_kdi hM
            refine o_blk (pc' := 206) (st' := []) (ls' := #[.val (.ref (ad Z ca r0)), .val (.int (vi i1)), .val (.ref (ad Z ca r2)), x3, .val (.int ((vi i4) + (vi 0))), .val (.int (vi q3)), x6]) b7_203_206 rfl ?_
            rw [hq20]
            refine o_goto (pc' := 124) d7_206 (by decide) (by decide) ?_
            exact ih_124 _ _ _ _ _ p3 _ (Pl.i _) _ p6 R_q19 hM
  unfold M_num at hM
  refine o_blk (pc' := 1) (st' := [(.ref (ad Z ca r0))]) (ls' := #[.val (.ref (ad Z ca r0)), .val (.int (vi i1)), .unset, .unset, .unset, .unset, .unset]) b7_0_1 rfl ?_
  obtain ⟨q1, hq1, hM⟩ := own_kgfr (i := 0) hM rfl
  refine p_getR (t := 0) (i := 0) (pc' := 4) R0 (by decide) (by decide) hq1 rfl rfl (own_word hw 11 rfl) d7_1 rfl ?_
  obtain ⟨q2, hq2, hM⟩ := own_kaln hM
  refine p_len (pc' := 5) R0 hq2 d7_4 rfl ?_
  obtain ⟨q3, hq3, hM⟩ := own_bdP hM
  refine p_newI (pc' := 7) R0 (own_word hw 0 rfl) hq3 d7_5 (by decide) (by decide) rfl ?_
  intro h_q3 R_q3
  refine o_blk (pc' := 8) (st' := []) (ls' := #[.val (.ref (ad Z ca r0)), .val (.int (vi i1)), .val (.ref (ad Z ca q3.2)), .unset, .unset, .unset, .unset]) b7_7_8 rfl ?_
  obtain ⟨q4, hq4, hM⟩ := own_bdP hM
  refine p_new5 (pc' := 11) R_q3 (own_lay5 hw) rfl (own_word hw 48 rfl) (own_word hw 49 rfl) (own_word hw 50 rfl) hq4 d7_8 (by decide) (by decide) rfl ?_
  intro h_q4 R_q4
  refine o_blk (pc' := 12) (st' := [(.ref (ad Z ca q4.2)), (.ref (ad Z ca q4.2))]) (ls' := #[.val (.ref (ad Z ca r0)), .val (.int (vi i1)), .val (.ref (ad Z ca q3.2)), .unset, .unset, .unset, .unset]) b7_11_12 rfl ?_
  obtain ⟨q5, hq5, hM⟩ := own_bdP hM
  refine o_callI (W := 1) (argsL := []) (rest := [(.ref (ad Z ca q4.2))]) (pc' := 15) rfl (own_word hw 51 rfl) (own_word hw 52 rfl) (own_word hw 53 rfl) (own_word hw 50 rfl) (by decide) (fun hE => rm_deq l Z a0 hw ca K q4.1 q4.2 q5 h_q4 hE R_q4 hq5) d7_12 pd_0 rfl rfl rfl (Nat.le_of_eq rfl) (by decide) (by decide) (by decide) (by decide) rfl ?_
  rintro _ h_q5 ⟨rfl, R_q5⟩ hs_q5
  refine o_blk (pc' := 16) (st' := []) (ls' := #[.val (.ref (ad Z ca r0)), .val (.int (vi i1)), .val (.ref (ad Z ca q3.2)), .val (.ref (ad Z ca q4.2)), .unset, .unset, .unset]) b7_15_16 rfl ?_
  refine o_blk (pc' := 19) (st' := []) (ls' := #[.val (.ref (ad Z ca r0)), .val (.int (vi i1)), .val (.ref (ad Z ca q3.2)), .val (.ref (ad Z ca q4.2)), .val (.int (vi 1)), .unset, .unset]) b7_16_19 rfl ?_
  refine o_blk (pc' := 21) (st' := [(.int (vi i1)), (.ref (ad Z ca q4.2))]) (ls' := #[.val (.ref (ad Z ca r0)), .val (.int (vi i1)), .val (.ref (ad Z ca q3.2)), .val (.ref (ad Z ca q4.2)), .val (.int (vi 1)), .unset, .unset]) b7_19_21 rfl ?_
  obtain ⟨q6, hq6, hM⟩ := own_bdP hM
  refine o_callS (W := 1) (argsL := [(.int (vi i1))]) (rest := [(.ref (ad Z ca q4.2))]) (pc' := 24) (own_word hw 65 rfl) (own_word hw 66 rfl) (own_word hw 67 rfl) (own_word hw 68 rfl) (by decide) (fun hE => rm_vof l Z a0 hw ca K q5.1 i1 q6 h_q5 hE R_q5 hq6) d7_21 pd_6 rfl rfl rfl (Nat.le_of_eq rfl) (by decide) (by decide) (by decide) (by decide) rfl ?_
  rintro _ h_q6 ⟨rfl, R_q6⟩ hs_q6
  obtain ⟨hb7, hM⟩ := own_kisA hM
  obtain ⟨q8, hq8, hM⟩ := own_bdP hM
  refine o_callF (W := 0) (argsL := [(.ref (ad Z ca q6.2))]) (rest := []) (pc' := 29) (own_word hw 72 rfl) (own_word hw 73 rfl) (own_word hw 74 rfl) rfl (own_word hw 75 rfl) (own_word hw 76 rfl) (own_word hw 77 rfl) (own_word hw 78 rfl) (own_word hw 79 rfl) (own_word hw 80 rfl) (own_word hw 50 rfl) (by decide) (R_q6.exa (t := 1) hb7) (fun hE => rm_push l Z a0 hw ca K q6.1 q4.2 q6.2 q8 h_q6 hE R_q6 hq8) d7_24 pd_2 rfl rfl rfl (Nat.le_of_eq rfl) (by decide) (by decide) (by decide) (by decide) rfl ?_
  rintro _ h_q8 ⟨rfl, R_q8⟩ hs_q8
  exact (LP 90).1 _ _ _ _ _ _ Pl.u _ Pl.u R_q8 hM
def B_rea_19 (r0 : Nat) (i1 : Nat) (r2 : Nat) (r3 : Nat) (r4 : Nat) (rec : Nat → Nat → Nat → Nat → Nat → Nat → Nat → Nat → Option (Nat × Nat)) (H : Nat) (i5 : Nat) (i6 : Nat) (i7 : Nat) (r8 : Nat) (i9 : Nat) (i10 : Nat) : Option (Nat × Nat) :=
  plt i6 i5 ( kilo 0 H r3 i6 fun q3 => kgfr 4 48 H r0 fun q4 => krlo H q4 q3 fun q5 => kaln H q5 fun q6 => rec 49 H i5 i6 q3 q5 q6 1 ) ( some (H, i5) )
def B_rea_49 (r0 : Nat) (i1 : Nat) (r2 : Nat) (r3 : Nat) (r4 : Nat) (rec : Nat → Nat → Nat → Nat → Nat → Nat → Nat → Nat → Option (Nat × Nat)) (H : Nat) (i5 : Nat) (i6 : Nat) (i7 : Nat) (r8 : Nat) (i9 : Nat) (i10 : Nat) : Option (Nat × Nat) :=
  plt i10 i9 ( kilo 0 H r8 i10 fun q3 => kilo 1 H r2 q3 fun q4 => peq q4 1 ( kilo 0 H r4 i7 fun q7 => peq q3 q7 ( rec 49 H i5 i6 i7 r8 i9 (Nat.add i10 1) ) ( kist 0 H r4 q3 i7 fun q10 => kist 0 q10 r3 i5 q3 fun q11 => rec 49 q11 (Nat.add i5 1) i6 i7 r8 i9 (Nat.add i10 1) ) ) ( rec 49 H i5 i6 i7 r8 i9 (Nat.add i10 1) ) ) ( rec 19 H i5 (Nat.add i6 1) 0 0 0 0 )
def L_rea (r0 : Nat) (i1 : Nat) (r2 : Nat) (r3 : Nat) (r4 : Nat) (n : Nat) : Nat → Nat → Nat → Nat → Nat → Nat → Nat → Nat → Option (Nat × Nat) := Nat.rec (motive := fun _ => Nat → Nat → Nat → Nat → Nat → Nat → Nat → Nat → Option (Nat × Nat)) (fun _ _ _ _ _ _ _ _ => none) (fun _ ih => fun hd => br (Nat.beq hd 19) (B_rea_19 r0 i1 r2 r3 r4 ih) (br (Nat.beq hd 49) (B_rea_49 r0 i1 r2 r3 r4 ih) (fun _ _ _ _ _ _ _ => none))) n
def M_rea (H : Nat) (r0 : Nat) (i1 : Nat) (r2 : Nat) (r3 : Nat) (r4 : Nat) : Option (Nat × Nat) :=
  kist 0 H r3 1 i1 fun q1 => kist 0 q1 r4 i1 0 fun q2 => L_rea r0 i1 r2 r3 r4 90 19 q2 (Nat.add 1 1) 1 0 0 0 0
set_option maxRecDepth 65536 in
set_option maxHeartbeats 40000000 in
theorem rm_rea (l : Launch) (Z : State) (a0 : Array Value) (hw : ∀ d ∈ tables_1, d.before a0 Z = true) (ca : Nat → Addr) (K : OKa Z ca) (H : Nat) (r0 : Nat) (i1 : Nat) (r2 : Nat) (r3 : Nat) (r4 : Nat) (res : Nat × Nat) (h0 : Heap) (hE0 : Ext Z.heap h0) (R0 : RepP Z ca h0 H)  (hM : M_rea H r0 i1 r2 r3 r4 = some res) :
    OCtr l Z (⟨"com/example/mild_horn/mildhorn/translation/Centroids", "reach", "(I[Z[I[I)I"⟩ : MethodName) prog_40_method_9_code 12 (some .int) ({ frames := 0, cells := 0, slots := 0, locals := 0 } : Room) #[(.ref (ad Z ca r0)), (.int (vi i1)), (.ref (ad Z ca r2)), (.ref (ad Z ca r3)), (.ref (ad Z ca r4))] h0 (fun v h => v = some (.int (vi res.2)) ∧ RepP Z ca h res.1) := by
  refine o_bodyS (ls0 := #[.val (.ref (ad Z ca r0)), .val (.int (vi i1)), .val (.ref (ad Z ca r2)), .val (.ref (ad Z ca r3)), .val (.ref (ad Z ca r4)), .unset, .unset, .unset, .unset, .unset, .unset, .unset]) (plainFor_of_name pn_4) hE0 (fun m => by first | (simp [entryFrame, mkF, argsToLocals, Value.category]; done) | rfl) ?_
  intro pG eG sG mG bG meG cG hS0
  have LP : ∀ f : Nat, (∀ (h : Heap) (H : Nat) (i5 : Nat) (i6 : Nat) (x7 : Slot) (p7 : Pl x7) (x8 : Slot) (p8 : Pl x8) (x9 : Slot) (p9 : Pl x9) (x10 : Slot) (p10 : Pl x10) (x11 : Slot) (p11 : Pl x11) (R : RepP Z ca h H) (hM : L_rea r0 i1 r2 r3 r4 f 19 H i5 i6 0 0 0 0 = some res), OG pG l eG ({ frames := 0, cells := 0, slots := 0, locals := 0 } : Room) sG mG #[(.ref (ad Z ca r0)), (.int (vi i1)), (.ref (ad Z ca r2)), (.ref (ad Z ca r3)), (.ref (ad Z ca r4))] bG meG cG Z (⟨"com/example/mild_horn/mildhorn/translation/Centroids", "reach", "(I[Z[I[I)I"⟩ : MethodName).cls (⟨"com/example/mild_horn/mildhorn/translation/Centroids", "reach", "(I[Z[I[I)I"⟩ : MethodName).name prog_40_method_9_code 12 (some .int) (fun v h => v = some (.int (vi res.2)) ∧ RepP Z ca h res.1) ({ frames := 0, cells := 0, slots := 0, locals := 0 } : Room).cells ({ frames := 0, cells := 0, slots := 0, locals := 0 } : Room).slots h 0 0 (mkF mG 19 #[.val (.ref (ad Z ca r0)), .val (.int (vi i1)), .val (.ref (ad Z ca r2)), .val (.ref (ad Z ca r3)), .val (.ref (ad Z ca r4)), .val (.int (vi i5)), .val (.int (vi i6)), x7, x8, x9, x10, x11] [])) ∧ (∀ (h : Heap) (H : Nat) (i5 : Nat) (i6 : Nat) (i7 : Nat) (r8 : Nat) (i9 : Nat) (i10 : Nat) (x11 : Slot) (p11 : Pl x11) (R : RepP Z ca h H) (hM : L_rea r0 i1 r2 r3 r4 f 49 H i5 i6 i7 r8 i9 i10 = some res), OG pG l eG ({ frames := 0, cells := 0, slots := 0, locals := 0 } : Room) sG mG #[(.ref (ad Z ca r0)), (.int (vi i1)), (.ref (ad Z ca r2)), (.ref (ad Z ca r3)), (.ref (ad Z ca r4))] bG meG cG Z (⟨"com/example/mild_horn/mildhorn/translation/Centroids", "reach", "(I[Z[I[I)I"⟩ : MethodName).cls (⟨"com/example/mild_horn/mildhorn/translation/Centroids", "reach", "(I[Z[I[I)I"⟩ : MethodName).name prog_40_method_9_code 12 (some .int) (fun v h => v = some (.int (vi res.2)) ∧ RepP Z ca h res.1) ({ frames := 0, cells := 0, slots := 0, locals := 0 } : Room).cells ({ frames := 0, cells := 0, slots := 0, locals := 0 } : Room).slots h 0 0 (mkF mG 49 #[.val (.ref (ad Z ca r0)), .val (.int (vi i1)), .val (.ref (ad Z ca r2)), .val (.ref (ad Z ca r3)), .val (.ref (ad Z ca r4)), .val (.int (vi i5)), .val (.int (vi i6)), .val (.int (vi i7)), .val (.ref (ad Z ca r8)), .val (.int (vi i9)), .val (.int (vi i10)), x11] [])) := by
    intro f
    induction f with
    | zero =>
      refine ⟨?_, ?_⟩
      · intro h H i5 i6 x7 p7 x8 p8 x9 p9 x10 p10 x11 p11 R hM
        first | exact nomatch hM | (simp [L_rea] at hM; done)
      · intro h H i5 i6 i7 r8 i9 i10 x11 p11 R hM
        first | exact nomatch hM | (simp [L_rea] at hM; done)
    | succ f ih =>
      obtain ⟨ih_19, ih_49⟩ := ih
      refine ⟨?_, ?_⟩
      · intro h H i5 i6 x7 p7 x8 p8 x9 p9 x10 p10 x11 p11 R hM
        have hM : B_rea_19 r0 i1 r2 r3 r4 (L_rea r0 i1 r2 r3 r4 f) H i5 i6 0 0 0 0 = some res := hM
        unfold B_rea_19 at hM
        refine o_blk (pc' := 23) (st' := [(.int (vi i5)), (.int (vi i6))]) (ls' := #[.val (.ref (ad Z ca r0)), .val (.int (vi i1)), .val (.ref (ad Z ca r2)), .val (.ref (ad Z ca r3)), .val (.ref (ad Z ca r4)), .val (.int (vi i5)), .val (.int (vi i6)), x7, x8, x9, x10, x11]) b23_19_23 rfl ?_
        obtain ⟨hb1, hM⟩ := own_plt hM
        refine o_ic (pc' := 108) (pc'' := 26) d23_23 (by decide) (by decide) rfl (fun (hc23_2 : ¬ (vi i6) < (vi i5)) => ?_) (fun (hc23_2 : (vi i6) < (vi i5)) => ?_)
        ·
          replace hM := own_condF ((vi_lt hb1).2 hc23_2) hM
          refine o_blk (pc' := 110) (st' := [(.int (vi i5))]) (ls' := #[.val (.ref (ad Z ca r0)), .val (.int (vi i1)), .val (.ref (ad Z ca r2)), .val (.ref (ad Z ca r3)), .val (.ref (ad Z ca r4)), .val (.int (vi i5)), .val (.int (vi i6)), x7, x8, x9, x10, x11]) b23_108_110 rfl ?_
          cases hM
          exact o_retI d23_110 (by decide) (by decide) rfl ⟨rfl, R⟩
        ·
          replace hM := own_condT ((vi_lt hb1).1 hc23_2) hM
          refine o_blk (pc' := 29) (st' := [(.int (vi i6)), (.ref (ad Z ca r3))]) (ls' := #[.val (.ref (ad Z ca r0)), .val (.int (vi i1)), .val (.ref (ad Z ca r2)), .val (.ref (ad Z ca r3)), .val (.ref (ad Z ca r4)), .val (.int (vi i5)), .val (.int (vi i6)), x7, x8, x9, x10, x11]) b23_26_29 rfl ?_
          obtain ⟨q3, hq3, hM⟩ := own_kilo hM
          refine p_iald (pc' := 30) R hq3 d23_29 rfl ?_
          refine o_stP (pc' := 32) (st' := []) (ls' := #[.val (.ref (ad Z ca r0)), .val (.int (vi i1)), .val (.ref (ad Z ca r2)), .val (.ref (ad Z ca r3)), .val (.ref (ad Z ca r4)), .val (.int (vi i5)), .val (.int (vi i6)), .val (.int (vi q3)), x8, x9, x10, x11]) d23_30 rfl rfl (own_stI (x := x7) rfl p7) ?_
          refine o_blk (pc' := 33) (st' := [(.ref (ad Z ca r0))]) (ls' := #[.val (.ref (ad Z ca r0)), .val (.int (vi i1)), .val (.ref (ad Z ca r2)), .val (.ref (ad Z ca r3)), .val (.ref (ad Z ca r4)), .val (.int (vi i5)), .val (.int (vi i6)), .val (.int (vi q3)), x8, x9, x10, x11]) b23_32_33 rfl ?_
          obtain ⟨q4, hq4, hM⟩ := own_kgfr (i := 2) hM rfl
          refine p_getR (t := 0) (i := 2) (pc' := 36) R (by decide) (by decide) hq4 rfl rfl (own_word hw 36 rfl) d23_33 rfl ?_
          refine o_blk (pc' := 38) (st' := [(.int (vi q3)), (.ref (ad Z ca q4))]) (ls' := #[.val (.ref (ad Z ca r0)), .val (.int (vi i1)), .val (.ref (ad Z ca r2)), .val (.ref (ad Z ca r3)), .val (.ref (ad Z ca r4)), .val (.int (vi i5)), .val (.int (vi i6)), .val (.int (vi q3)), x8, x9, x10, x11]) b23_36_38 rfl ?_
          obtain ⟨q5, hq5, hM⟩ := own_krlo hM
          refine p_aald (pc' := 39) R hq5 d23_38 rfl ?_
          refine o_stP (pc' := 41) (st' := []) (ls' := #[.val (.ref (ad Z ca r0)), .val (.int (vi i1)), .val (.ref (ad Z ca r2)), .val (.ref (ad Z ca r3)), .val (.ref (ad Z ca r4)), .val (.int (vi i5)), .val (.int (vi i6)), .val (.int (vi q3)), .val (.ref (ad Z ca q5)), x9, x10, x11]) d23_39 rfl rfl (own_stA (x := x8) rfl p8) ?_
          refine o_blk (pc' := 43) (st' := [(.ref (ad Z ca q5))]) (ls' := #[.val (.ref (ad Z ca r0)), .val (.int (vi i1)), .val (.ref (ad Z ca r2)), .val (.ref (ad Z ca r3)), .val (.ref (ad Z ca r4)), .val (.int (vi i5)), .val (.int (vi i6)), .val (.int (vi q3)), .val (.ref (ad Z ca q5)), x9, x10, x11]) b23_41_43 rfl ?_
          obtain ⟨q6, hq6, hM⟩ := own_kaln hM
          refine p_len (pc' := 44) R hq6 d23_43 rfl ?_
          refine o_stP (pc' := 46) (st' := []) (ls' := #[.val (.ref (ad Z ca r0)), .val (.int (vi i1)), .val (.ref (ad Z ca r2)), .val (.ref (ad Z ca r3)), .val (.ref (ad Z ca r4)), .val (.int (vi i5)), .val (.int (vi i6)), .val (.int (vi q3)), .val (.ref (ad Z ca q5)), .val (.int (vi q6)), x10, x11]) d23_44 rfl rfl (own_stI (x := x9) rfl p9) ?_
          refine o_blk (pc' := 47) (st' := [(.int (vi 1))]) (ls' := #[.val (.ref (ad Z ca r0)), .val (.int (vi i1)), .val (.ref (ad Z ca r2)), .val (.ref (ad Z ca r3)), .val (.ref (ad Z ca r4)), .val (.int (vi i5)), .val (.int (vi i6)), .val (.int (vi q3)), .val (.ref (ad Z ca q5)), .val (.int (vi q6)), x10, x11]) b23_46_47 rfl ?_
          refine o_stP (pc' := 49) (st' := []) (ls' := #[.val (.ref (ad Z ca r0)), .val (.int (vi i1)), .val (.ref (ad Z ca r2)), .val (.ref (ad Z ca r3)), .val (.ref (ad Z ca r4)), .val (.int (vi i5)), .val (.int (vi i6)), .val (.int (vi q3)), .val (.ref (ad Z ca q5)), .val (.int (vi q6)), .val (.int (vi 1)), x11]) d23_47 rfl rfl (own_stI (x := x10) rfl p10) ?_
          exact ih_49 _ _ _ _ _ _ _ _ _ p11 R hM
      · intro h H i5 i6 i7 r8 i9 i10 x11 p11 R hM
        have hM : B_rea_49 r0 i1 r2 r3 r4 (L_rea r0 i1 r2 r3 r4 f) H i5 i6 i7 r8 i9 i10 = some res := hM
        unfold B_rea_49 at hM
        refine o_blk (pc' := 53) (st' := [(.int (vi i9)), (.int (vi i10))]) (ls' := #[.val (.ref (ad Z ca r0)), .val (.int (vi i1)), .val (.ref (ad Z ca r2)), .val (.ref (ad Z ca r3)), .val (.ref (ad Z ca r4)), .val (.int (vi i5)), .val (.int (vi i6)), .val (.int (vi i7)), .val (.ref (ad Z ca r8)), .val (.int (vi i9)), .val (.int (vi i10)), x11]) b23_49_53 rfl ?_
        obtain ⟨hb1, hM⟩ := own_plt hM
        refine o_ic (pc' := 102) (pc'' := 56) d23_53 (by decide) (by decide) rfl (fun (hc53_2 : ¬ (vi i10) < (vi i9)) => ?_) (fun (hc53_2 : (vi i10) < (vi i9)) => ?_)
        ·
          replace hM := own_condF ((vi_lt hb1).2 hc53_2) hM
          refine o_blk (pc' := 105) (st' := []) (ls' := #[.val (.ref (ad Z ca r0)), .val (.int (vi i1)), .val (.ref (ad Z ca r2)), .val (.ref (ad Z ca r3)), .val (.ref (ad Z ca r4)), .val (.int (vi i5)), .val (.int ((vi i6) + (vi 2))), .val (.int (vi i7)), .val (.ref (ad Z ca r8)), .val (.int (vi i9)), .val (.int (vi i10)), x11]) b23_102_105 rfl ?_
          rw [vi_inc i6]
          refine o_goto (pc' := 19) d23_105 (by decide) (by decide) ?_
          exact ih_19 _ _ _ _ _ (Pl.i _) _ (Pl.r _) _ (Pl.i _) _ (Pl.i _) _ p11 R hM
        ·
          replace hM := own_condT ((vi_lt hb1).1 hc53_2) hM
          refine o_blk (pc' := 60) (st' := [(.int (vi i10)), (.ref (ad Z ca r8))]) (ls' := #[.val (.ref (ad Z ca r0)), .val (.int (vi i1)), .val (.ref (ad Z ca r2)), .val (.ref (ad Z ca r3)), .val (.ref (ad Z ca r4)), .val (.int (vi i5)), .val (.int (vi i6)), .val (.int (vi i7)), .val (.ref (ad Z ca r8)), .val (.int (vi i9)), .val (.int (vi i10)), x11]) b23_56_60 rfl ?_
          obtain ⟨q3, hq3, hM⟩ := own_kilo hM
          refine p_iald (pc' := 61) R hq3 d23_60 rfl ?_
          refine o_stP (pc' := 63) (st' := []) (ls' := #[.val (.ref (ad Z ca r0)), .val (.int (vi i1)), .val (.ref (ad Z ca r2)), .val (.ref (ad Z ca r3)), .val (.ref (ad Z ca r4)), .val (.int (vi i5)), .val (.int (vi i6)), .val (.int (vi i7)), .val (.ref (ad Z ca r8)), .val (.int (vi i9)), .val (.int (vi i10)), .val (.int (vi q3))]) d23_61 rfl rfl (own_stI (x := x11) rfl p11) ?_
          refine o_blk (pc' := 66) (st' := [(.int (vi q3)), (.ref (ad Z ca r2))]) (ls' := #[.val (.ref (ad Z ca r0)), .val (.int (vi i1)), .val (.ref (ad Z ca r2)), .val (.ref (ad Z ca r3)), .val (.ref (ad Z ca r4)), .val (.int (vi i5)), .val (.int (vi i6)), .val (.int (vi i7)), .val (.ref (ad Z ca r8)), .val (.int (vi i9)), .val (.int (vi i10)), .val (.int (vi q3))]) b23_63_66 rfl ?_
          obtain ⟨q4, hq4, hM⟩ := own_kilo hM
          refine p_zald (pc' := 67) R hq4 d23_66 rfl ?_
          obtain ⟨hb5, hM⟩ := own_peq hM
          refine o_if (pc' := 96) (pc'' := 70) d23_67 (by decide) (by decide) rfl (fun (hc67_6 : ¬ (vi q4) = (vi 1)) => ?_) (fun (hc67_6 : (vi q4) = (vi 1)) => ?_)
          ·
            replace hM := own_condF ((vi_eq hb5).2 hc67_6) hM
            refine o_blk (pc' := 99) (st' := []) (ls' := #[.val (.ref (ad Z ca r0)), .val (.int (vi i1)), .val (.ref (ad Z ca r2)), .val (.ref (ad Z ca r3)), .val (.ref (ad Z ca r4)), .val (.int (vi i5)), .val (.int (vi i6)), .val (.int (vi i7)), .val (.ref (ad Z ca r8)), .val (.int (vi i9)), .val (.int ((vi i10) + (vi 2))), .val (.int (vi q3))]) b23_96_99 rfl ?_
            rw [vi_inc i10]
            refine o_goto (pc' := 49) d23_99 (by decide) (by decide) ?_
            exact ih_49 _ _ _ _ _ _ _ _ _ (Pl.i _) R hM
          ·
            replace hM := own_condT ((vi_eq hb5).1 hc67_6) hM
            refine o_blk (pc' := 76) (st' := [(.int (vi i7)), (.ref (ad Z ca r4)), (.int (vi q3))]) (ls' := #[.val (.ref (ad Z ca r0)), .val (.int (vi i1)), .val (.ref (ad Z ca r2)), .val (.ref (ad Z ca r3)), .val (.ref (ad Z ca r4)), .val (.int (vi i5)), .val (.int (vi i6)), .val (.int (vi i7)), .val (.ref (ad Z ca r8)), .val (.int (vi i9)), .val (.int (vi i10)), .val (.int (vi q3))]) b23_70_76 rfl ?_
            obtain ⟨q7, hq7, hM⟩ := own_kilo hM
            refine p_iald (pc' := 77) R hq7 d23_76 rfl ?_
            obtain ⟨hb8, hM⟩ := own_peq hM
            refine o_ic (pc' := 96) (pc'' := 80) d23_77 (by decide) (by decide) rfl (fun (hc77_9 : (vi q3) = (vi q7)) => ?_) (fun (hc77_9 : ¬ (vi q3) = (vi q7)) => ?_)
            ·
              replace hM := own_condT ((vi_eq hb8).1 hc77_9) hM
              refine o_blk (pc' := 99) (st' := []) (ls' := #[.val (.ref (ad Z ca r0)), .val (.int (vi i1)), .val (.ref (ad Z ca r2)), .val (.ref (ad Z ca r3)), .val (.ref (ad Z ca r4)), .val (.int (vi i5)), .val (.int (vi i6)), .val (.int (vi i7)), .val (.ref (ad Z ca r8)), .val (.int (vi i9)), .val (.int ((vi i10) + (vi 2))), .val (.int (vi q3))]) b23_96_99 rfl ?_
              rw [vi_inc i10]
              refine o_goto (pc' := 49) d23_99 (by decide) (by decide) ?_
              exact ih_49 _ _ _ _ _ _ _ _ _ (Pl.i _) R hM
            ·
              replace hM := own_condF ((vi_eq hb8).2 hc77_9) hM
              refine o_blk (pc' := 86) (st' := [(.int (vi i7)), (.int (vi q3)), (.ref (ad Z ca r4))]) (ls' := #[.val (.ref (ad Z ca r0)), .val (.int (vi i1)), .val (.ref (ad Z ca r2)), .val (.ref (ad Z ca r3)), .val (.ref (ad Z ca r4)), .val (.int (vi i5)), .val (.int (vi i6)), .val (.int (vi i7)), .val (.ref (ad Z ca r8)), .val (.int (vi i9)), .val (.int (vi i10)), .val (.int (vi q3))]) b23_80_86 rfl ?_
              obtain ⟨q10, hq10, hM⟩ := own_kist hM
              refine p_iast (pc' := 87) R hq10 d23_86 rfl ?_
              intro h_q10 R_q10
              refine o_blk (pc' := 90) (st' := [(.int (vi i5)), (.ref (ad Z ca r3))]) (ls' := #[.val (.ref (ad Z ca r0)), .val (.int (vi i1)), .val (.ref (ad Z ca r2)), .val (.ref (ad Z ca r3)), .val (.ref (ad Z ca r4)), .val (.int (vi i5)), .val (.int (vi i6)), .val (.int (vi i7)), .val (.ref (ad Z ca r8)), .val (.int (vi i9)), .val (.int (vi i10)), .val (.int (vi q3))]) b23_87_90 rfl ?_
              refine o_blk (pc' := 93) (st' := [(.int (vi i5)), (.ref (ad Z ca r3))]) (ls' := #[.val (.ref (ad Z ca r0)), .val (.int (vi i1)), .val (.ref (ad Z ca r2)), .val (.ref (ad Z ca r3)), .val (.ref (ad Z ca r4)), .val (.int ((vi i5) + (vi 2))), .val (.int (vi i6)), .val (.int (vi i7)), .val (.ref (ad Z ca r8)), .val (.int (vi i9)), .val (.int (vi i10)), .val (.int (vi q3))]) b23_90_93 rfl ?_
              rw [vi_inc i5]
              refine o_blk (pc' := 95) (st' := [(.int (vi q3)), (.int (vi i5)), (.ref (ad Z ca r3))]) (ls' := #[.val (.ref (ad Z ca r0)), .val (.int (vi i1)), .val (.ref (ad Z ca r2)), .val (.ref (ad Z ca r3)), .val (.ref (ad Z ca r4)), .val (.int (vi (Nat.add i5 1))), .val (.int (vi i6)), .val (.int (vi i7)), .val (.ref (ad Z ca r8)), .val (.int (vi i9)), .val (.int (vi i10)), .val (.int (vi q3))]) b23_93_95 rfl ?_
              obtain ⟨q11, hq11, hM⟩ := own_kist hM
              refine p_iast (pc' := 96) R_q10 hq11 d23_95 rfl ?_
              intro h_q11 R_q11
              refine o_blk (pc' := 99) (st' := []) (ls' := #[.val (.ref (ad Z ca r0)), .val (.int (vi i1)), .val (.ref (ad Z ca r2)), .val (.ref (ad Z ca r3)), .val (.ref (ad Z ca r4)), .val (.int (vi (Nat.add i5 1))), .val (.int (vi i6)), .val (.int (vi i7)), .val (.ref (ad Z ca r8)), .val (.int (vi i9)), .val (.int ((vi i10) + (vi 2))), .val (.int (vi q3))]) b23_96_99 rfl ?_
              rw [vi_inc i10]
              refine o_goto (pc' := 49) d23_99 (by decide) (by decide) ?_
              exact ih_49 _ _ _ _ _ _ _ _ _ (Pl.i _) R_q11 hM
  unfold M_rea at hM
  refine o_blk (pc' := 3) (st' := []) (ls' := #[.val (.ref (ad Z ca r0)), .val (.int (vi i1)), .val (.ref (ad Z ca r2)), .val (.ref (ad Z ca r3)), .val (.ref (ad Z ca r4)), .val (.int (vi 1)), .unset, .unset, .unset, .unset, .unset, .unset]) b23_0_3 rfl ?_
  refine o_blk (pc' := 6) (st' := [(.int (vi 1)), (.ref (ad Z ca r3))]) (ls' := #[.val (.ref (ad Z ca r0)), .val (.int (vi i1)), .val (.ref (ad Z ca r2)), .val (.ref (ad Z ca r3)), .val (.ref (ad Z ca r4)), .val (.int (vi 1)), .unset, .unset, .unset, .unset, .unset, .unset]) b23_3_6 rfl ?_
  refine o_blk (pc' := 9) (st' := [(.int (vi 1)), (.ref (ad Z ca r3))]) (ls' := #[.val (.ref (ad Z ca r0)), .val (.int (vi i1)), .val (.ref (ad Z ca r2)), .val (.ref (ad Z ca r3)), .val (.ref (ad Z ca r4)), .val (.int ((vi 1) + (vi 2))), .unset, .unset, .unset, .unset, .unset, .unset]) b23_6_9 rfl ?_
  rw [vi_inc 1]
  refine o_blk (pc' := 10) (st' := [(.int (vi i1)), (.int (vi 1)), (.ref (ad Z ca r3))]) (ls' := #[.val (.ref (ad Z ca r0)), .val (.int (vi i1)), .val (.ref (ad Z ca r2)), .val (.ref (ad Z ca r3)), .val (.ref (ad Z ca r4)), .val (.int (vi (Nat.add 1 1))), .unset, .unset, .unset, .unset, .unset, .unset]) b23_9_10 rfl ?_
  obtain ⟨q1, hq1, hM⟩ := own_kist hM
  refine p_iast (pc' := 11) R0 hq1 d23_10 rfl ?_
  intro h_q1 R_q1
  refine o_blk (pc' := 15) (st' := [(.int (vi 0)), (.int (vi i1)), (.ref (ad Z ca r4))]) (ls' := #[.val (.ref (ad Z ca r0)), .val (.int (vi i1)), .val (.ref (ad Z ca r2)), .val (.ref (ad Z ca r3)), .val (.ref (ad Z ca r4)), .val (.int (vi (Nat.add 1 1))), .unset, .unset, .unset, .unset, .unset, .unset]) b23_11_15 rfl ?_
  obtain ⟨q2, hq2, hM⟩ := own_kist hM
  refine p_iast (pc' := 16) R_q1 hq2 d23_15 rfl ?_
  intro h_q2 R_q2
  refine o_blk (pc' := 19) (st' := []) (ls' := #[.val (.ref (ad Z ca r0)), .val (.int (vi i1)), .val (.ref (ad Z ca r2)), .val (.ref (ad Z ca r3)), .val (.ref (ad Z ca r4)), .val (.int (vi (Nat.add 1 1))), .val (.int (vi 1)), .unset, .unset, .unset, .unset, .unset]) b23_16_19 rfl ?_
  exact (LP 90).1 _ _ _ _ _ Pl.u _ Pl.u _ Pl.u _ Pl.u _ Pl.u R_q2 hM
def B_hea_6 (r0 : Nat) (i1 : Nat) (i2 : Nat) (r3 : Nat) (r4 : Nat) (r5 : Nat) (rec : Nat → Nat → Nat → Nat → Nat → Nat → Nat → Option (Nat × Nat)) (H : Nat) (i6 : Nat) (i7 : Nat) (r8 : Nat) (i9 : Nat) (i10 : Nat) : Option (Nat × Nat) :=
  peq i7 1 ( some (H, i6) ) ( kgfr 4 48 H r0 fun q3 => krlo H q3 i6 fun q4 => kaln H q4 fun q5 => rec 31 H i6 1 q4 q5 1 )
def B_hea_31 (r0 : Nat) (i1 : Nat) (i2 : Nat) (r3 : Nat) (r4 : Nat) (r5 : Nat) (rec : Nat → Nat → Nat → Nat → Nat → Nat → Nat → Option (Nat × Nat)) (H : Nat) (i6 : Nat) (i7 : Nat) (r8 : Nat) (i9 : Nat) (i10 : Nat) : Option (Nat × Nat) :=
  plt i10 i9 ( kilo 0 H r8 i10 fun q3 => kilo 1 H r3 q3 fun q4 => peq q4 1 ( kilo 0 H r4 q3 fun q7 => peq q7 i6 ( kilo 0 H r5 q3 fun q10 => khf i2 fun q11 => plt q11 q10 ( rec 6 H q3 2 0 0 0 ) ( rec 31 H i6 i7 r8 i9 (Nat.add i10 1) ) ) ( rec 31 H i6 i7 r8 i9 (Nat.add i10 1) ) ) ( rec 31 H i6 i7 r8 i9 (Nat.add i10 1) ) ) ( rec 6 H i6 i7 0 0 0 )
def L_hea (r0 : Nat) (i1 : Nat) (i2 : Nat) (r3 : Nat) (r4 : Nat) (r5 : Nat) (n : Nat) : Nat → Nat → Nat → Nat → Nat → Nat → Nat → Option (Nat × Nat) := Nat.rec (motive := fun _ => Nat → Nat → Nat → Nat → Nat → Nat → Nat → Option (Nat × Nat)) (fun _ _ _ _ _ _ _ => none) (fun _ ih => fun hd => br (Nat.beq hd 6) (B_hea_6 r0 i1 i2 r3 r4 r5 ih) (br (Nat.beq hd 31) (B_hea_31 r0 i1 i2 r3 r4 r5 ih) (fun _ _ _ _ _ _ => none))) n
def M_hea (H : Nat) (r0 : Nat) (i1 : Nat) (i2 : Nat) (r3 : Nat) (r4 : Nat) (r5 : Nat) : Option (Nat × Nat) :=
  L_hea r0 i1 i2 r3 r4 r5 90 6 H i1 2 0 0 0
set_option maxRecDepth 65536 in
set_option maxHeartbeats 40000000 in
theorem rm_hea (l : Launch) (Z : State) (a0 : Array Value) (hw : ∀ d ∈ tables_1, d.before a0 Z = true) (ca : Nat → Addr) (K : OKa Z ca) (H : Nat) (r0 : Nat) (i1 : Nat) (i2 : Nat) (r3 : Nat) (r4 : Nat) (r5 : Nat) (res : Nat × Nat) (h0 : Heap) (hE0 : Ext Z.heap h0) (R0 : RepP Z ca h0 H)  (hM : M_hea H r0 i1 i2 r3 r4 r5 = some res) :
    OCtr l Z (⟨"com/example/mild_horn/mildhorn/translation/Centroids", "heaviest", "(II[Z[I[I)I"⟩ : MethodName) prog_40_method_10_code 12 (some .int) ({ frames := 0, cells := 0, slots := 0, locals := 0 } : Room) #[(.ref (ad Z ca r0)), (.int (vi i1)), (.int (vi i2)), (.ref (ad Z ca r3)), (.ref (ad Z ca r4)), (.ref (ad Z ca r5))] h0 (fun v h => v = some (.int (vi res.2)) ∧ RepP Z ca h res.1) := by
  refine o_bodyS (ls0 := #[.val (.ref (ad Z ca r0)), .val (.int (vi i1)), .val (.int (vi i2)), .val (.ref (ad Z ca r3)), .val (.ref (ad Z ca r4)), .val (.ref (ad Z ca r5)), .unset, .unset, .unset, .unset, .unset, .unset]) (plainFor_of_name pn_4) hE0 (fun m => by first | (simp [entryFrame, mkF, argsToLocals, Value.category]; done) | rfl) ?_
  intro pG eG sG mG bG meG cG hS0
  have LP : ∀ f : Nat, (∀ (h : Heap) (H : Nat) (i6 : Nat) (i7 : Nat) (x8 : Slot) (p8 : Pl x8) (x9 : Slot) (p9 : Pl x9) (x10 : Slot) (p10 : Pl x10) (x11 : Slot) (p11 : Pl x11) (R : RepP Z ca h H) (hM : L_hea r0 i1 i2 r3 r4 r5 f 6 H i6 i7 0 0 0 = some res), OG pG l eG ({ frames := 0, cells := 0, slots := 0, locals := 0 } : Room) sG mG #[(.ref (ad Z ca r0)), (.int (vi i1)), (.int (vi i2)), (.ref (ad Z ca r3)), (.ref (ad Z ca r4)), (.ref (ad Z ca r5))] bG meG cG Z (⟨"com/example/mild_horn/mildhorn/translation/Centroids", "heaviest", "(II[Z[I[I)I"⟩ : MethodName).cls (⟨"com/example/mild_horn/mildhorn/translation/Centroids", "heaviest", "(II[Z[I[I)I"⟩ : MethodName).name prog_40_method_10_code 12 (some .int) (fun v h => v = some (.int (vi res.2)) ∧ RepP Z ca h res.1) ({ frames := 0, cells := 0, slots := 0, locals := 0 } : Room).cells ({ frames := 0, cells := 0, slots := 0, locals := 0 } : Room).slots h 0 0 (mkF mG 6 #[.val (.ref (ad Z ca r0)), .val (.int (vi i1)), .val (.int (vi i2)), .val (.ref (ad Z ca r3)), .val (.ref (ad Z ca r4)), .val (.ref (ad Z ca r5)), .val (.int (vi i6)), .val (.int (vi i7)), x8, x9, x10, x11] [])) ∧ (∀ (h : Heap) (H : Nat) (i6 : Nat) (i7 : Nat) (r8 : Nat) (i9 : Nat) (i10 : Nat) (x11 : Slot) (p11 : Pl x11) (R : RepP Z ca h H) (hM : L_hea r0 i1 i2 r3 r4 r5 f 31 H i6 i7 r8 i9 i10 = some res), OG pG l eG ({ frames := 0, cells := 0, slots := 0, locals := 0 } : Room) sG mG #[(.ref (ad Z ca r0)), (.int (vi i1)), (.int (vi i2)), (.ref (ad Z ca r3)), (.ref (ad Z ca r4)), (.ref (ad Z ca r5))] bG meG cG Z (⟨"com/example/mild_horn/mildhorn/translation/Centroids", "heaviest", "(II[Z[I[I)I"⟩ : MethodName).cls (⟨"com/example/mild_horn/mildhorn/translation/Centroids", "heaviest", "(II[Z[I[I)I"⟩ : MethodName).name prog_40_method_10_code 12 (some .int) (fun v h => v = some (.int (vi res.2)) ∧ RepP Z ca h res.1) ({ frames := 0, cells := 0, slots := 0, locals := 0 } : Room).cells ({ frames := 0, cells := 0, slots := 0, locals := 0 } : Room).slots h 0 0 (mkF mG 31 #[.val (.ref (ad Z ca r0)), .val (.int (vi i1)), .val (.int (vi i2)), .val (.ref (ad Z ca r3)), .val (.ref (ad Z ca r4)), .val (.ref (ad Z ca r5)), .val (.int (vi i6)), .val (.int (vi i7)), .val (.ref (ad Z ca r8)), .val (.int (vi i9)), .val (.int (vi i10)), x11] [])) := by
    intro f
    induction f with
    | zero =>
      refine ⟨?_, ?_⟩
      · intro h H i6 i7 x8 p8 x9 p9 x10 p10 x11 p11 R hM
        first | exact nomatch hM | (simp [L_hea] at hM; done)
      · intro h H i6 i7 r8 i9 i10 x11 p11 R hM
        first | exact nomatch hM | (simp [L_hea] at hM; done)
    | succ f ih =>
      obtain ⟨ih_6, ih_31⟩ := ih
      refine ⟨?_, ?_⟩
      · intro h H i6 i7 x8 p8 x9 p9 x10 p10 x11 p11 R hM
        have hM : B_hea_6 r0 i1 i2 r3 r4 r5 (L_hea r0 i1 i2 r3 r4 r5 f) H i6 i7 0 0 0 = some res := hM
        unfold B_hea_6 at hM
        refine o_blk (pc' := 8) (st' := [(.int (vi i7))]) (ls' := #[.val (.ref (ad Z ca r0)), .val (.int (vi i1)), .val (.int (vi i2)), .val (.ref (ad Z ca r3)), .val (.ref (ad Z ca r4)), .val (.ref (ad Z ca r5)), .val (.int (vi i6)), .val (.int (vi i7)), x8, x9, x10, x11]) b24_6_8 rfl ?_
        obtain ⟨hb1, hM⟩ := own_peq hM
        refine o_if (pc' := 92) (pc'' := 11) d24_8 (by decide) (by decide) rfl (fun (hc8_2 : (vi i7) = (vi 1)) => ?_) (fun (hc8_2 : ¬ (vi i7) = (vi 1)) => ?_)
        ·
          replace hM := own_condT ((vi_eq hb1).1 hc8_2) hM
          refine o_blk (pc' := 94) (st' := [(.int (vi i6))]) (ls' := #[.val (.ref (ad Z ca r0)), .val (.int (vi i1)), .val (.int (vi i2)), .val (.ref (ad Z ca r3)), .val (.ref (ad Z ca r4)), .val (.ref (ad Z ca r5)), .val (.int (vi i6)), .val (.int (vi i7)), x8, x9, x10, x11]) b24_92_94 rfl ?_
          cases hM
          exact o_retI d24_94 (by decide) (by decide) rfl ⟨rfl, R⟩
        ·
          replace hM := own_condF ((vi_eq hb1).2 hc8_2) hM
          refine o_blk (pc' := 14) (st' := []) (ls' := #[.val (.ref (ad Z ca r0)), .val (.int (vi i1)), .val (.int (vi i2)), .val (.ref (ad Z ca r3)), .val (.ref (ad Z ca r4)), .val (.ref (ad Z ca r5)), .val (.int (vi i6)), .val (.int (vi 1)), x8, x9, x10, x11]) b24_11_14 rfl ?_
          refine o_blk (pc' := 15) (st' := [(.ref (ad Z ca r0))]) (ls' := #[.val (.ref (ad Z ca r0)), .val (.int (vi i1)), .val (.int (vi i2)), .val (.ref (ad Z ca r3)), .val (.ref (ad Z ca r4)), .val (.ref (ad Z ca r5)), .val (.int (vi i6)), .val (.int (vi 1)), x8, x9, x10, x11]) b24_14_15 rfl ?_
          obtain ⟨q3, hq3, hM⟩ := own_kgfr (i := 2) hM rfl
          refine p_getR (t := 0) (i := 2) (pc' := 18) R (by decide) (by decide) hq3 rfl rfl (own_word hw 36 rfl) d24_15 rfl ?_
          refine o_blk (pc' := 20) (st' := [(.int (vi i6)), (.ref (ad Z ca q3))]) (ls' := #[.val (.ref (ad Z ca r0)), .val (.int (vi i1)), .val (.int (vi i2)), .val (.ref (ad Z ca r3)), .val (.ref (ad Z ca r4)), .val (.ref (ad Z ca r5)), .val (.int (vi i6)), .val (.int (vi 1)), x8, x9, x10, x11]) b24_18_20 rfl ?_
          obtain ⟨q4, hq4, hM⟩ := own_krlo hM
          refine p_aald (pc' := 21) R hq4 d24_20 rfl ?_
          refine o_stP (pc' := 23) (st' := []) (ls' := #[.val (.ref (ad Z ca r0)), .val (.int (vi i1)), .val (.int (vi i2)), .val (.ref (ad Z ca r3)), .val (.ref (ad Z ca r4)), .val (.ref (ad Z ca r5)), .val (.int (vi i6)), .val (.int (vi 1)), .val (.ref (ad Z ca q4)), x9, x10, x11]) d24_21 rfl rfl (own_stA (x := x8) rfl p8) ?_
          refine o_blk (pc' := 25) (st' := [(.ref (ad Z ca q4))]) (ls' := #[.val (.ref (ad Z ca r0)), .val (.int (vi i1)), .val (.int (vi i2)), .val (.ref (ad Z ca r3)), .val (.ref (ad Z ca r4)), .val (.ref (ad Z ca r5)), .val (.int (vi i6)), .val (.int (vi 1)), .val (.ref (ad Z ca q4)), x9, x10, x11]) b24_23_25 rfl ?_
          obtain ⟨q5, hq5, hM⟩ := own_kaln hM
          refine p_len (pc' := 26) R hq5 d24_25 rfl ?_
          refine o_stP (pc' := 28) (st' := []) (ls' := #[.val (.ref (ad Z ca r0)), .val (.int (vi i1)), .val (.int (vi i2)), .val (.ref (ad Z ca r3)), .val (.ref (ad Z ca r4)), .val (.ref (ad Z ca r5)), .val (.int (vi i6)), .val (.int (vi 1)), .val (.ref (ad Z ca q4)), .val (.int (vi q5)), x10, x11]) d24_26 rfl rfl (own_stI (x := x9) rfl p9) ?_
          refine o_blk (pc' := 29) (st' := [(.int (vi 1))]) (ls' := #[.val (.ref (ad Z ca r0)), .val (.int (vi i1)), .val (.int (vi i2)), .val (.ref (ad Z ca r3)), .val (.ref (ad Z ca r4)), .val (.ref (ad Z ca r5)), .val (.int (vi i6)), .val (.int (vi 1)), .val (.ref (ad Z ca q4)), .val (.int (vi q5)), x10, x11]) b24_28_29 rfl ?_
          refine o_stP (pc' := 31) (st' := []) (ls' := #[.val (.ref (ad Z ca r0)), .val (.int (vi i1)), .val (.int (vi i2)), .val (.ref (ad Z ca r3)), .val (.ref (ad Z ca r4)), .val (.ref (ad Z ca r5)), .val (.int (vi i6)), .val (.int (vi 1)), .val (.ref (ad Z ca q4)), .val (.int (vi q5)), .val (.int (vi 1)), x11]) d24_29 rfl rfl (own_stI (x := x10) rfl p10) ?_
          exact ih_31 _ _ _ _ _ _ _ _ p11 R hM
      · intro h H i6 i7 r8 i9 i10 x11 p11 R hM
        have hM : B_hea_31 r0 i1 i2 r3 r4 r5 (L_hea r0 i1 i2 r3 r4 r5 f) H i6 i7 r8 i9 i10 = some res := hM
        unfold B_hea_31 at hM
        refine o_blk (pc' := 35) (st' := [(.int (vi i9)), (.int (vi i10))]) (ls' := #[.val (.ref (ad Z ca r0)), .val (.int (vi i1)), .val (.int (vi i2)), .val (.ref (ad Z ca r3)), .val (.ref (ad Z ca r4)), .val (.ref (ad Z ca r5)), .val (.int (vi i6)), .val (.int (vi i7)), .val (.ref (ad Z ca r8)), .val (.int (vi i9)), .val (.int (vi i10)), x11]) b24_31_35 rfl ?_
        obtain ⟨hb1, hM⟩ := own_plt hM
        refine o_ic (pc' := 89) (pc'' := 38) d24_35 (by decide) (by decide) rfl (fun (hc35_2 : ¬ (vi i10) < (vi i9)) => ?_) (fun (hc35_2 : (vi i10) < (vi i9)) => ?_)
        ·
          replace hM := own_condF ((vi_lt hb1).2 hc35_2) hM
          refine o_goto (pc' := 6) d24_89 (by decide) (by decide) ?_
          exact ih_6 _ _ _ _ _ (Pl.r _) _ (Pl.i _) _ (Pl.i _) _ p11 R hM
        ·
          replace hM := own_condT ((vi_lt hb1).1 hc35_2) hM
          refine o_blk (pc' := 42) (st' := [(.int (vi i10)), (.ref (ad Z ca r8))]) (ls' := #[.val (.ref (ad Z ca r0)), .val (.int (vi i1)), .val (.int (vi i2)), .val (.ref (ad Z ca r3)), .val (.ref (ad Z ca r4)), .val (.ref (ad Z ca r5)), .val (.int (vi i6)), .val (.int (vi i7)), .val (.ref (ad Z ca r8)), .val (.int (vi i9)), .val (.int (vi i10)), x11]) b24_38_42 rfl ?_
          obtain ⟨q3, hq3, hM⟩ := own_kilo hM
          refine p_iald (pc' := 43) R hq3 d24_42 rfl ?_
          refine o_stP (pc' := 45) (st' := []) (ls' := #[.val (.ref (ad Z ca r0)), .val (.int (vi i1)), .val (.int (vi i2)), .val (.ref (ad Z ca r3)), .val (.ref (ad Z ca r4)), .val (.ref (ad Z ca r5)), .val (.int (vi i6)), .val (.int (vi i7)), .val (.ref (ad Z ca r8)), .val (.int (vi i9)), .val (.int (vi i10)), .val (.int (vi q3))]) d24_43 rfl rfl (own_stI (x := x11) rfl p11) ?_
          refine o_blk (pc' := 48) (st' := [(.int (vi q3)), (.ref (ad Z ca r3))]) (ls' := #[.val (.ref (ad Z ca r0)), .val (.int (vi i1)), .val (.int (vi i2)), .val (.ref (ad Z ca r3)), .val (.ref (ad Z ca r4)), .val (.ref (ad Z ca r5)), .val (.int (vi i6)), .val (.int (vi i7)), .val (.ref (ad Z ca r8)), .val (.int (vi i9)), .val (.int (vi i10)), .val (.int (vi q3))]) b24_45_48 rfl ?_
          obtain ⟨q4, hq4, hM⟩ := own_kilo hM
          refine p_zald (pc' := 49) R hq4 d24_48 rfl ?_
          obtain ⟨hb5, hM⟩ := own_peq hM
          refine o_if (pc' := 83) (pc'' := 52) d24_49 (by decide) (by decide) rfl (fun (hc49_6 : ¬ (vi q4) = (vi 1)) => ?_) (fun (hc49_6 : (vi q4) = (vi 1)) => ?_)
          ·
            replace hM := own_condF ((vi_eq hb5).2 hc49_6) hM
            refine o_blk (pc' := 86) (st' := []) (ls' := #[.val (.ref (ad Z ca r0)), .val (.int (vi i1)), .val (.int (vi i2)), .val (.ref (ad Z ca r3)), .val (.ref (ad Z ca r4)), .val (.ref (ad Z ca r5)), .val (.int (vi i6)), .val (.int (vi i7)), .val (.ref (ad Z ca r8)), .val (.int (vi i9)), .val (.int ((vi i10) + (vi 2))), .val (.int (vi q3))]) b24_83_86 rfl ?_
            rw [vi_inc i10]
            refine o_goto (pc' := 31) d24_86 (by decide) (by decide) ?_
            exact ih_31 _ _ _ _ _ _ _ _ (Pl.i _) R hM
          ·
            replace hM := own_condT ((vi_eq hb5).1 hc49_6) hM
            refine o_blk (pc' := 56) (st' := [(.int (vi q3)), (.ref (ad Z ca r4))]) (ls' := #[.val (.ref (ad Z ca r0)), .val (.int (vi i1)), .val (.int (vi i2)), .val (.ref (ad Z ca r3)), .val (.ref (ad Z ca r4)), .val (.ref (ad Z ca r5)), .val (.int (vi i6)), .val (.int (vi i7)), .val (.ref (ad Z ca r8)), .val (.int (vi i9)), .val (.int (vi i10)), .val (.int (vi q3))]) b24_52_56 rfl ?_
            obtain ⟨q7, hq7, hM⟩ := own_kilo hM
            refine p_iald (pc' := 57) R hq7 d24_56 rfl ?_
            refine o_blk (pc' := 59) (st' := [(.int (vi i6)), (.int (vi q7))]) (ls' := #[.val (.ref (ad Z ca r0)), .val (.int (vi i1)), .val (.int (vi i2)), .val (.ref (ad Z ca r3)), .val (.ref (ad Z ca r4)), .val (.ref (ad Z ca r5)), .val (.int (vi i6)), .val (.int (vi i7)), .val (.ref (ad Z ca r8)), .val (.int (vi i9)), .val (.int (vi i10)), .val (.int (vi q3))]) b24_57_59 rfl ?_
            obtain ⟨hb8, hM⟩ := own_peq hM
            refine o_ic (pc' := 83) (pc'' := 62) d24_59 (by decide) (by decide) rfl (fun (hc59_9 : ¬ (vi q7) = (vi i6)) => ?_) (fun (hc59_9 : (vi q7) = (vi i6)) => ?_)
            ·
              replace hM := own_condF ((vi_eq hb8).2 hc59_9) hM
              refine o_blk (pc' := 86) (st' := []) (ls' := #[.val (.ref (ad Z ca r0)), .val (.int (vi i1)), .val (.int (vi i2)), .val (.ref (ad Z ca r3)), .val (.ref (ad Z ca r4)), .val (.ref (ad Z ca r5)), .val (.int (vi i6)), .val (.int (vi i7)), .val (.ref (ad Z ca r8)), .val (.int (vi i9)), .val (.int ((vi i10) + (vi 2))), .val (.int (vi q3))]) b24_83_86 rfl ?_
              rw [vi_inc i10]
              refine o_goto (pc' := 31) d24_86 (by decide) (by decide) ?_
              exact ih_31 _ _ _ _ _ _ _ _ (Pl.i _) R hM
            ·
              replace hM := own_condT ((vi_eq hb8).1 hc59_9) hM
              refine o_blk (pc' := 66) (st' := [(.int (vi q3)), (.ref (ad Z ca r5))]) (ls' := #[.val (.ref (ad Z ca r0)), .val (.int (vi i1)), .val (.int (vi i2)), .val (.ref (ad Z ca r3)), .val (.ref (ad Z ca r4)), .val (.ref (ad Z ca r5)), .val (.int (vi i6)), .val (.int (vi i7)), .val (.ref (ad Z ca r8)), .val (.int (vi i9)), .val (.int (vi i10)), .val (.int (vi q3))]) b24_62_66 rfl ?_
              obtain ⟨q10, hq10, hM⟩ := own_kilo hM
              refine p_iald (pc' := 67) R hq10 d24_66 rfl ?_
              refine o_blk (pc' := 69) (st' := [(.int (vi 3)), (.int (vi i2)), (.int (vi q10))]) (ls' := #[.val (.ref (ad Z ca r0)), .val (.int (vi i1)), .val (.int (vi i2)), .val (.ref (ad Z ca r3)), .val (.ref (ad Z ca r4)), .val (.ref (ad Z ca r5)), .val (.int (vi i6)), .val (.int (vi i7)), .val (.ref (ad Z ca r8)), .val (.int (vi i9)), .val (.int (vi i10)), .val (.int (vi q3))]) b24_67_69 rfl ?_
              obtain ⟨q11, hq11, hM⟩ := own_khf hM
              refine o_idiv (pc' := 70) d24_69 (by decide) rfl ?_
              rw [hq11]
              obtain ⟨hb12, hM⟩ := own_plt hM
              refine o_ic (pc' := 83) (pc'' := 73) d24_70 (by decide) (by decide) rfl (fun (hc70_13 : ¬ (vi q11) < (vi q10)) => ?_) (fun (hc70_13 : (vi q11) < (vi q10)) => ?_)
              ·
                replace hM := own_condF ((vi_lt hb12).2 hc70_13) hM
                refine o_blk (pc' := 86) (st' := []) (ls' := #[.val (.ref (ad Z ca r0)), .val (.int (vi i1)), .val (.int (vi i2)), .val (.ref (ad Z ca r3)), .val (.ref (ad Z ca r4)), .val (.ref (ad Z ca r5)), .val (.int (vi i6)), .val (.int (vi i7)), .val (.ref (ad Z ca r8)), .val (.int (vi i9)), .val (.int ((vi i10) + (vi 2))), .val (.int (vi q3))]) b24_83_86 rfl ?_
                rw [vi_inc i10]
                refine o_goto (pc' := 31) d24_86 (by decide) (by decide) ?_
                exact ih_31 _ _ _ _ _ _ _ _ (Pl.i _) R hM
              ·
                replace hM := own_condT ((vi_lt hb12).1 hc70_13) hM
                refine o_blk (pc' := 77) (st' := []) (ls' := #[.val (.ref (ad Z ca r0)), .val (.int (vi i1)), .val (.int (vi i2)), .val (.ref (ad Z ca r3)), .val (.ref (ad Z ca r4)), .val (.ref (ad Z ca r5)), .val (.int (vi q3)), .val (.int (vi i7)), .val (.ref (ad Z ca r8)), .val (.int (vi i9)), .val (.int (vi i10)), .val (.int (vi q3))]) b24_73_77 rfl ?_
                refine o_blk (pc' := 80) (st' := []) (ls' := #[.val (.ref (ad Z ca r0)), .val (.int (vi i1)), .val (.int (vi i2)), .val (.ref (ad Z ca r3)), .val (.ref (ad Z ca r4)), .val (.ref (ad Z ca r5)), .val (.int (vi q3)), .val (.int (vi 2)), .val (.ref (ad Z ca r8)), .val (.int (vi i9)), .val (.int (vi i10)), .val (.int (vi q3))]) b24_77_80 rfl ?_
                refine o_goto (pc' := 89) d24_80 (by decide) (by decide) ?_
                refine o_goto (pc' := 6) d24_89 (by decide) (by decide) ?_
                exact ih_6 _ _ _ _ _ (Pl.r _) _ (Pl.i _) _ (Pl.i _) _ (Pl.i _) R hM
  unfold M_hea at hM
  refine o_blk (pc' := 3) (st' := []) (ls' := #[.val (.ref (ad Z ca r0)), .val (.int (vi i1)), .val (.int (vi i2)), .val (.ref (ad Z ca r3)), .val (.ref (ad Z ca r4)), .val (.ref (ad Z ca r5)), .val (.int (vi i1)), .unset, .unset, .unset, .unset, .unset]) b24_0_3 rfl ?_
  refine o_blk (pc' := 6) (st' := []) (ls' := #[.val (.ref (ad Z ca r0)), .val (.int (vi i1)), .val (.int (vi i2)), .val (.ref (ad Z ca r3)), .val (.ref (ad Z ca r4)), .val (.ref (ad Z ca r5)), .val (.int (vi i1)), .val (.int (vi 2)), .unset, .unset, .unset, .unset]) b24_3_6 rfl ?_
  exact (LP 90).1 _ _ _ _ _ Pl.u _ Pl.u _ Pl.u _ Pl.u R0 hM
def B_dcp_64 (r0 : Nat) (i1 : Nat) (r2 : Nat) (r3 : Nat) (r4 : Nat) (r5 : Nat) (r6 : Nat) (rec : Nat → Nat → Nat → Nat → Nat → Nat → Nat → Nat → Nat → Nat → Nat → Nat → Nat → Option (Nat × Nat)) (H : Nat) (t : Nat) (i7 : Nat) (r8 : Nat) (i9 : Nat) (i10 : Nat) (i11 : Nat) (r11 : Nat) (i12 : Nat) (r12 : Nat) (i13 : Nat) (i14 : Nat) : Option (Nat × Nat) :=
  kisA 5 H r6 ( bdP (M_isemp H r6) fun q2a q2b => peq q2b 1 ( kisA 5 q2a r6 ( bdP (M_pop q2a r6) fun q6a q6b => kisA 0 q6a q6b ( kilo 0 q6a q6b 1 fun q8 => kisA 4 q6a r0 ( bdP (M_rea q6a r0 q8 r2 r3 r4) fun q10a q10b => kdc q10b fun q11 => rec 106 q10a t i7 q6b q10b q11 0 0 0 0 0 0 ) ) ) ) ( some (q2a, i7) ) )
def B_dcp_106 (r0 : Nat) (i1 : Nat) (r2 : Nat) (r3 : Nat) (r4 : Nat) (r5 : Nat) (r6 : Nat) (rec : Nat → Nat → Nat → Nat → Nat → Nat → Nat → Nat → Nat → Nat → Nat → Nat → Nat → Option (Nat × Nat)) (H : Nat) (t : Nat) (i7 : Nat) (r8 : Nat) (i9 : Nat) (i10 : Nat) (i11 : Nat) (r11 : Nat) (i12 : Nat) (r12 : Nat) (i13 : Nat) (i14 : Nat) : Option (Nat × Nat) :=
  plt i10 1 ( kilo 0 H r8 1 fun q3 => kisA 4 H r0 ( bdP (M_hea H r0 q3 i9 r2 r4 r5) fun q5a q5b => kist 1 q5a r2 q5b 2 fun q6 => kgfr 4 84 q6 r0 fun q7 => kilo 0 q6 r8 2 fun q8 => kist 0 q6 q7 q5b q8 fun q9 => kilo 0 q9 r8 2 fun q10 => plt q10 1 ( kgfr 4 48 q9 r0 fun q16 => krlo q9 q16 q5b fun q17 => kaln q9 q17 fun q18 => rec 257 q9 t q5b 0 0 q5b 0 q17 q18 0 1 0 ) ( kgfr 4 48 q9 r0 fun q13 => krlo q9 q13 q5b fun q14 => kaln q9 q14 fun q15 => rec 257 q9 t i7 0 0 q5b 0 q14 q15 0 1 0 ) ) ) ( kilo 0 H r3 i10 fun q19 => kist 0 H r5 q19 2 fun q20 => kgfr 4 48 q20 r0 fun q21 => krlo q20 q21 q19 fun q22 => kaln q20 q22 fun q23 => rec 140 q20 t i7 r8 i9 i10 q19 0 0 q22 q23 1 )
def B_dcp_140 (r0 : Nat) (i1 : Nat) (r2 : Nat) (r3 : Nat) (r4 : Nat) (r5 : Nat) (r6 : Nat) (rec : Nat → Nat → Nat → Nat → Nat → Nat → Nat → Nat → Nat → Nat → Nat → Nat → Nat → Option (Nat × Nat)) (H : Nat) (t : Nat) (i7 : Nat) (r8 : Nat) (i9 : Nat) (i10 : Nat) (i11 : Nat) (r11 : Nat) (i12 : Nat) (r12 : Nat) (i13 : Nat) (i14 : Nat) : Option (Nat × Nat) :=
  plt i14 i13 ( kilo 0 H r12 i14 fun q4 => kilo 1 H r2 q4 fun q5 => peq q5 1 ( kilo 0 H r4 q4 fun q8 => peq q8 i11 ( kilo 0 H r5 i11 fun q11 => kilo 0 H r5 q4 fun q12 => kad q11 q12 fun q13 => kist 0 H r5 i11 q13 fun q14 => rec 140 q14 t i7 r8 i9 i10 i11 0 0 r12 i13 (Nat.add i14 1) ) ( rec 140 H t i7 r8 i9 i10 i11 0 0 r12 i13 (Nat.add i14 1) ) ) ( rec 140 H t i7 r8 i9 i10 i11 0 0 r12 i13 (Nat.add i14 1) ) ) ( kdc i10 fun q3 => rec 106 H t i7 r8 i9 q3 0 0 0 0 0 0 )
def B_dcp_257 (r0 : Nat) (i1 : Nat) (r2 : Nat) (r3 : Nat) (r4 : Nat) (r5 : Nat) (r6 : Nat) (rec : Nat → Nat → Nat → Nat → Nat → Nat → Nat → Nat → Nat → Nat → Nat → Nat → Nat → Option (Nat × Nat)) (H : Nat) (t : Nat) (i7 : Nat) (r8 : Nat) (i9 : Nat) (i10 : Nat) (i11 : Nat) (r11 : Nat) (i12 : Nat) (r12 : Nat) (i13 : Nat) (i14 : Nat) : Option (Nat × Nat) :=
  plt i13 i12 ( kilo 0 H r11 i13 fun q3 => kilo 1 H r2 q3 fun q4 => peq q4 1 ( bdP (pnewI 0 H 3) fun q7a q7b => gd (Nat.blt t 8) ( kist 0 q7a q7b 1 q3 fun q9 => kist 0 q9 q7b 2 i10 fun q10 => kisA 5 q10 r6 ( bdP (M_push q10 r6 q7b) fun q12a q12b => rec 257 q12a (t + 1) i7 0 0 i10 0 r11 i12 0 (Nat.add i13 1) 0 ) ) ) ( rec 257 H t i7 0 0 i10 0 r11 i12 0 (Nat.add i13 1) 0 ) ) ( rec 64 H t i7 0 0 0 0 0 0 0 0 0 )
def L_dcp (r0 : Nat) (i1 : Nat) (r2 : Nat) (r3 : Nat) (r4 : Nat) (r5 : Nat) (r6 : Nat) (n : Nat) : Nat → Nat → Nat → Nat → Nat → Nat → Nat → Nat → Nat → Nat → Nat → Nat → Nat → Option (Nat × Nat) := Nat.rec (motive := fun _ => Nat → Nat → Nat → Nat → Nat → Nat → Nat → Nat → Nat → Nat → Nat → Nat → Nat → Option (Nat × Nat)) (fun _ _ _ _ _ _ _ _ _ _ _ _ _ => none) (fun _ ih => fun hd => br (Nat.beq hd 64) (B_dcp_64 r0 i1 r2 r3 r4 r5 r6 ih) (br (Nat.beq hd 106) (B_dcp_106 r0 i1 r2 r3 r4 r5 r6 ih) (br (Nat.beq hd 140) (B_dcp_140 r0 i1 r2 r3 r4 r5 r6 ih) (br (Nat.beq hd 257) (B_dcp_257 r0 i1 r2 r3 r4 r5 r6 ih) (fun _ _ _ _ _ _ _ _ _ _ _ _ => none))))) n
def M_dcp (H : Nat) (r0 : Nat) (i1 : Nat) : Option (Nat × Nat) :=
  kgfr 4 24 H r0 fun q1 => kaln H q1 fun q2 => bdP (pnewI 1 H q2) fun q3a q3b => kgfr 4 24 q3a r0 fun q4 => kaln q3a q4 fun q5 => bdP (pnewI 0 q3a q5) fun q6a q6b => kgfr 4 24 q6a r0 fun q7 => kaln q6a q7 fun q8 => bdP (pnewI 0 q6a q8) fun q9a q9b => kgfr 4 24 q9a r0 fun q10 => kaln q9a q10 fun q11 => bdP (pnewI 0 q9a q11) fun q12a q12b => bdP (padd q12a pb5) fun q13a q13b => bdP (M_deq q13a q13b) fun q14a q14b => bdP (pnewI 0 q14a 3) fun q15a q15b => kist 0 q15a q15b 1 i1 fun q16 => kist 0 q16 q15b 2 0 fun q17 => kisA 5 q17 q13b ( bdP (M_push q17 q13b q15b) fun q19a q19b => L_dcp r0 i1 q3b q6b q9b q12b q13b 400 64 q19a 0 0 0 0 0 0 0 0 0 0 0 )
set_option maxRecDepth 65536 in
set_option maxHeartbeats 40000000 in
theorem rm_dcp (l : Launch) (Z : State) (a0 : Array Value) (hw : ∀ d ∈ tables_1, d.before a0 Z = true) (ca : Nat → Addr) (K : OKa Z ca) (H : Nat) (r0 : Nat) (i1 : Nat) (res : Nat × Nat) (h0 : Heap) (hE0 : Ext Z.heap h0) (R0 : RepP Z ca h0 H)  (hM : M_dcp H r0 i1 = some res) :
    OCtr l Z (⟨"com/example/mild_horn/mildhorn/translation/Centroids", "decompose", "(I)I"⟩ : MethodName) prog_40_method_8_code 16 (some .int) ({ frames := 4, cells := 15, slots := 124, locals := 54 } : Room) #[(.ref (ad Z ca r0)), (.int (vi i1))] h0 (fun v h => v = some (.int (vi res.2)) ∧ RepP Z ca h res.1) := by
  refine o_bodyS (ls0 := #[.val (.ref (ad Z ca r0)), .val (.int (vi i1)), .unset, .unset, .unset, .unset, .unset, .unset, .unset, .unset, .unset, .unset, .unset, .unset, .unset, .unset]) (plainFor_of_name pn_4) hE0 (fun m => by first | (simp [entryFrame, mkF, argsToLocals, Value.category]; done) | rfl) ?_
  intro pG eG sG mG bG meG cG hS0
  have LP : ∀ f : Nat, (∀ (h : Heap) (H : Nat) (t : Nat) (ht : t ≤ 8) (c s : Nat) (ec : c = 7 + 1 * t) (es : s = 60 + 8 * t) (r2 : Nat) (r3 : Nat) (r4 : Nat) (r5 : Nat) (r6 : Nat) (i7 : Nat) (x8 : Slot) (p8 : Pl x8) (x9 : Slot) (p9 : Pl x9) (x10 : Slot) (p10 : Pl x10) (x11 : Slot) (p11 : Pl x11) (x12 : Slot) (p12 : Pl x12) (x13 : Slot) (p13 : Pl x13) (x14 : Slot) (p14 : Pl x14) (x15 : Slot) (p15 : Pl x15) (R : RepP Z ca h H) (hM : L_dcp r0 i1 r2 r3 r4 r5 r6 f 64 H t i7 0 0 0 0 0 0 0 0 0 = some res), OG pG l eG ({ frames := 4, cells := 15, slots := 124, locals := 54 } : Room) sG mG #[(.ref (ad Z ca r0)), (.int (vi i1))] bG meG cG Z (⟨"com/example/mild_horn/mildhorn/translation/Centroids", "decompose", "(I)I"⟩ : MethodName).cls (⟨"com/example/mild_horn/mildhorn/translation/Centroids", "decompose", "(I)I"⟩ : MethodName).name prog_40_method_8_code 16 (some .int) (fun v h => v = some (.int (vi res.2)) ∧ RepP Z ca h res.1) ({ frames := 4, cells := 15, slots := 124, locals := 54 } : Room).cells ({ frames := 4, cells := 15, slots := 124, locals := 54 } : Room).slots h c s (mkF mG 64 #[.val (.ref (ad Z ca r0)), .val (.int (vi i1)), .val (.ref (ad Z ca r2)), .val (.ref (ad Z ca r3)), .val (.ref (ad Z ca r4)), .val (.ref (ad Z ca r5)), .val (.ref (ad Z ca r6)), .val (.int (vi i7)), x8, x9, x10, x11, x12, x13, x14, x15] [])) ∧ (∀ (h : Heap) (H : Nat) (t : Nat) (ht : t ≤ 8) (c s : Nat) (ec : c = 7 + 1 * t) (es : s = 60 + 8 * t) (r2 : Nat) (r3 : Nat) (r4 : Nat) (r5 : Nat) (r6 : Nat) (i7 : Nat) (r8 : Nat) (i9 : Nat) (i10 : Nat) (x11 : Slot) (p11 : Pl x11) (x12 : Slot) (p12 : Pl x12) (x13 : Slot) (p13 : Pl x13) (x14 : Slot) (p14 : Pl x14) (x15 : Slot) (p15 : Pl x15) (R : RepP Z ca h H) (hM : L_dcp r0 i1 r2 r3 r4 r5 r6 f 106 H t i7 r8 i9 i10 0 0 0 0 0 0 = some res), OG pG l eG ({ frames := 4, cells := 15, slots := 124, locals := 54 } : Room) sG mG #[(.ref (ad Z ca r0)), (.int (vi i1))] bG meG cG Z (⟨"com/example/mild_horn/mildhorn/translation/Centroids", "decompose", "(I)I"⟩ : MethodName).cls (⟨"com/example/mild_horn/mildhorn/translation/Centroids", "decompose", "(I)I"⟩ : MethodName).name prog_40_method_8_code 16 (some .int) (fun v h => v = some (.int (vi res.2)) ∧ RepP Z ca h res.1) ({ frames := 4, cells := 15, slots := 124, locals := 54 } : Room).cells ({ frames := 4, cells := 15, slots := 124, locals := 54 } : Room).slots h c s (mkF mG 106 #[.val (.ref (ad Z ca r0)), .val (.int (vi i1)), .val (.ref (ad Z ca r2)), .val (.ref (ad Z ca r3)), .val (.ref (ad Z ca r4)), .val (.ref (ad Z ca r5)), .val (.ref (ad Z ca r6)), .val (.int (vi i7)), .val (.ref (ad Z ca r8)), .val (.int (vi i9)), .val (.int (vi i10)), x11, x12, x13, x14, x15] [])) ∧ (∀ (h : Heap) (H : Nat) (t : Nat) (ht : t ≤ 8) (c s : Nat) (ec : c = 7 + 1 * t) (es : s = 60 + 8 * t) (r2 : Nat) (r3 : Nat) (r4 : Nat) (r5 : Nat) (r6 : Nat) (i7 : Nat) (r8 : Nat) (i9 : Nat) (i10 : Nat) (i11 : Nat) (r12 : Nat) (i13 : Nat) (i14 : Nat) (x15 : Slot) (p15 : Pl x15) (R : RepP Z ca h H) (hM : L_dcp r0 i1 r2 r3 r4 r5 r6 f 140 H t i7 r8 i9 i10 i11 0 0 r12 i13 i14 = some res), OG pG l eG ({ frames := 4, cells := 15, slots := 124, locals := 54 } : Room) sG mG #[(.ref (ad Z ca r0)), (.int (vi i1))] bG meG cG Z (⟨"com/example/mild_horn/mildhorn/translation/Centroids", "decompose", "(I)I"⟩ : MethodName).cls (⟨"com/example/mild_horn/mildhorn/translation/Centroids", "decompose", "(I)I"⟩ : MethodName).name prog_40_method_8_code 16 (some .int) (fun v h => v = some (.int (vi res.2)) ∧ RepP Z ca h res.1) ({ frames := 4, cells := 15, slots := 124, locals := 54 } : Room).cells ({ frames := 4, cells := 15, slots := 124, locals := 54 } : Room).slots h c s (mkF mG 140 #[.val (.ref (ad Z ca r0)), .val (.int (vi i1)), .val (.ref (ad Z ca r2)), .val (.ref (ad Z ca r3)), .val (.ref (ad Z ca r4)), .val (.ref (ad Z ca r5)), .val (.ref (ad Z ca r6)), .val (.int (vi i7)), .val (.ref (ad Z ca r8)), .val (.int (vi i9)), .val (.int (vi i10)), .val (.int (vi i11)), .val (.ref (ad Z ca r12)), .val (.int (vi i13)), .val (.int (vi i14)), x15] [])) ∧ (∀ (h : Heap) (H : Nat) (t : Nat) (ht : t ≤ 8) (c s : Nat) (ec : c = 7 + 1 * t) (es : s = 60 + 8 * t) (r2 : Nat) (r3 : Nat) (r4 : Nat) (r5 : Nat) (r6 : Nat) (i7 : Nat) (i10 : Nat) (r11 : Nat) (i12 : Nat) (i13 : Nat) (x8 : Slot) (p8 : Pl x8) (x9 : Slot) (p9 : Pl x9) (x14 : Slot) (p14 : Pl x14) (x15 : Slot) (p15 : Pl x15) (R : RepP Z ca h H) (hM : L_dcp r0 i1 r2 r3 r4 r5 r6 f 257 H t i7 0 0 i10 0 r11 i12 0 i13 0 = some res), OG pG l eG ({ frames := 4, cells := 15, slots := 124, locals := 54 } : Room) sG mG #[(.ref (ad Z ca r0)), (.int (vi i1))] bG meG cG Z (⟨"com/example/mild_horn/mildhorn/translation/Centroids", "decompose", "(I)I"⟩ : MethodName).cls (⟨"com/example/mild_horn/mildhorn/translation/Centroids", "decompose", "(I)I"⟩ : MethodName).name prog_40_method_8_code 16 (some .int) (fun v h => v = some (.int (vi res.2)) ∧ RepP Z ca h res.1) ({ frames := 4, cells := 15, slots := 124, locals := 54 } : Room).cells ({ frames := 4, cells := 15, slots := 124, locals := 54 } : Room).slots h c s (mkF mG 257 #[.val (.ref (ad Z ca r0)), .val (.int (vi i1)), .val (.ref (ad Z ca r2)), .val (.ref (ad Z ca r3)), .val (.ref (ad Z ca r4)), .val (.ref (ad Z ca r5)), .val (.ref (ad Z ca r6)), .val (.int (vi i7)), x8, x9, .val (.int (vi i10)), .val (.ref (ad Z ca r11)), .val (.int (vi i12)), .val (.int (vi i13)), x14, x15] [])) := by
    intro f
    induction f with
    | zero =>
      refine ⟨?_, ?_, ?_, ?_⟩
      · intro h H t ht c s ec es r2 r3 r4 r5 r6 i7 x8 p8 x9 p9 x10 p10 x11 p11 x12 p12 x13 p13 x14 p14 x15 p15 R hM
        first | exact nomatch hM | (simp [L_dcp] at hM; done)
      · intro h H t ht c s ec es r2 r3 r4 r5 r6 i7 r8 i9 i10 x11 p11 x12 p12 x13 p13 x14 p14 x15 p15 R hM
        first | exact nomatch hM | (simp [L_dcp] at hM; done)
      · intro h H t ht c s ec es r2 r3 r4 r5 r6 i7 r8 i9 i10 i11 r12 i13 i14 x15 p15 R hM
        first | exact nomatch hM | (simp [L_dcp] at hM; done)
      · intro h H t ht c s ec es r2 r3 r4 r5 r6 i7 i10 r11 i12 i13 x8 p8 x9 p9 x14 p14 x15 p15 R hM
        first | exact nomatch hM | (simp [L_dcp] at hM; done)
    | succ f ih =>
      obtain ⟨ih_64, ih_106, ih_140, ih_257⟩ := ih
      refine ⟨?_, ?_, ?_, ?_⟩
      · intro h H t ht c s ec es r2 r3 r4 r5 r6 i7 x8 p8 x9 p9 x10 p10 x11 p11 x12 p12 x13 p13 x14 p14 x15 p15 R hM
        subst ec es
        have hM : B_dcp_64 r0 i1 r2 r3 r4 r5 r6 (L_dcp r0 i1 r2 r3 r4 r5 r6 f) H t i7 0 0 0 0 0 0 0 0 0 = some res := hM
        unfold B_dcp_64 at hM
        refine o_blk (pc' := 66) (st' := [(.ref (ad Z ca r6))]) (ls' := #[.val (.ref (ad Z ca r0)), .val (.int (vi i1)), .val (.ref (ad Z ca r2)), .val (.ref (ad Z ca r3)), .val (.ref (ad Z ca r4)), .val (.ref (ad Z ca r5)), .val (.ref (ad Z ca r6)), .val (.int (vi i7)), x8, x9, x10, x11, x12, x13, x14, x15]) b22_64_66 rfl ?_
        obtain ⟨hb1, hM⟩ := own_kisA hM
        obtain ⟨q2, hq2, hM⟩ := own_bdP hM
        refine o_callFU (W := 0) (argsL := []) (rest := []) (pc' := 71) (own_word hw 94 rfl) (own_word hw 95 rfl) (own_word hw 96 rfl) (by decide) (by decide) (own_word hw 97 rfl) (own_word hw 98 rfl) (own_word hw 99 rfl) (own_word hw 100 rfl) (own_word hw 79 rfl) (own_word hw 101 rfl) (own_word hw 50 rfl) (by decide) (R.exa (t := 1) hb1) (fun hE => rm_isemp l Z a0 hw ca K H r6 q2 h hE R hq2) d22_66 pd_7 rfl rfl rfl (Nat.le_of_eq rfl) (by decide) (by decide) (by show (7 + 1 * t) + 0 ≤ 15; omega) (by show (60 + 8 * t) + 0 ≤ 124; omega) rfl ?_
        rintro _ h_q2 ⟨rfl, R_q2⟩ hs_q2
        obtain ⟨hb3, hM⟩ := own_peq hM
        refine o_if (pc' := 307) (pc'' := 74) d22_71 (by decide) (by decide) rfl (fun (hc71_4 : ¬ (vi q2.2) = (vi 1)) => ?_) (fun (hc71_4 : (vi q2.2) = (vi 1)) => ?_)
        ·
          replace hM := own_condF ((vi_eq hb3).2 hc71_4) hM
          refine o_blk (pc' := 309) (st' := [(.int (vi i7))]) (ls' := #[.val (.ref (ad Z ca r0)), .val (.int (vi i1)), .val (.ref (ad Z ca r2)), .val (.ref (ad Z ca r3)), .val (.ref (ad Z ca r4)), .val (.ref (ad Z ca r5)), .val (.ref (ad Z ca r6)), .val (.int (vi i7)), x8, x9, x10, x11, x12, x13, x14, x15]) b22_307_309 rfl ?_
          cases hM
          exact o_retI d22_309 (by show ((7 + 1 * t) + 0) ≤ 15; omega) (by show ((60 + 8 * t) + 0) ≤ 124; omega) rfl ⟨rfl, R_q2⟩
        ·
          replace hM := own_condT ((vi_eq hb3).1 hc71_4) hM
          refine o_blk (pc' := 76) (st' := [(.ref (ad Z ca r6))]) (ls' := #[.val (.ref (ad Z ca r0)), .val (.int (vi i1)), .val (.ref (ad Z ca r2)), .val (.ref (ad Z ca r3)), .val (.ref (ad Z ca r4)), .val (.ref (ad Z ca r5)), .val (.ref (ad Z ca r6)), .val (.int (vi i7)), x8, x9, x10, x11, x12, x13, x14, x15]) b22_74_76 rfl ?_
          obtain ⟨hb5, hM⟩ := own_kisA hM
          obtain ⟨q6, hq6, hM⟩ := own_bdP hM
          refine o_callF (W := 0) (argsL := []) (rest := []) (pc' := 81) (own_word hw 102 rfl) (own_word hw 103 rfl) (own_word hw 104 rfl) rfl (own_word hw 105 rfl) (own_word hw 106 rfl) (own_word hw 107 rfl) (own_word hw 108 rfl) (own_word hw 79 rfl) (own_word hw 109 rfl) (own_word hw 50 rfl) (by decide) (R_q2.exa (t := 1) hb5) (fun hE => rm_pop l Z a0 hw ca K q2.1 r6 q6 h_q2 hE R_q2 hq6) d22_76 pd_4 rfl rfl rfl (Nat.le_of_eq rfl) (by decide) (by decide) (by show ((7 + 1 * t) + 0) + 0 ≤ 15; omega) (by show ((60 + 8 * t) + 0) + 0 ≤ 124; omega) rfl ?_
          rintro _ h_q6 ⟨rfl, R_q6⟩ hs_q6
          obtain ⟨hb7, hM⟩ := own_kisA hM
          refine p_castA (pc' := 84) R_q6 hb7 (own_word hw 16 rfl) d22_81 rfl ?_
          refine o_stP (pc' := 86) (st' := []) (ls' := #[.val (.ref (ad Z ca r0)), .val (.int (vi i1)), .val (.ref (ad Z ca r2)), .val (.ref (ad Z ca r3)), .val (.ref (ad Z ca r4)), .val (.ref (ad Z ca r5)), .val (.ref (ad Z ca r6)), .val (.int (vi i7)), .val (.ref (ad Z ca q6.2)), x9, x10, x11, x12, x13, x14, x15]) d22_84 rfl rfl (own_stA (x := x8) rfl p8) ?_
          refine o_blk (pc' := 90) (st' := [(.int (vi 1)), (.ref (ad Z ca q6.2)), (.ref (ad Z ca r0))]) (ls' := #[.val (.ref (ad Z ca r0)), .val (.int (vi i1)), .val (.ref (ad Z ca r2)), .val (.ref (ad Z ca r3)), .val (.ref (ad Z ca r4)), .val (.ref (ad Z ca r5)), .val (.ref (ad Z ca r6)), .val (.int (vi i7)), .val (.ref (ad Z ca q6.2)), x9, x10, x11, x12, x13, x14, x15]) b22_86_90 rfl ?_
          obtain ⟨q8, hq8, hM⟩ := own_kilo hM
          refine p_iald (pc' := 91) R_q6 hq8 d22_90 rfl ?_
          refine o_blk (pc' := 95) (st' := [(.ref (ad Z ca r4)), (.ref (ad Z ca r3)), (.ref (ad Z ca r2)), (.int (vi q8)), (.ref (ad Z ca r0))]) (ls' := #[.val (.ref (ad Z ca r0)), .val (.int (vi i1)), .val (.ref (ad Z ca r2)), .val (.ref (ad Z ca r3)), .val (.ref (ad Z ca r4)), .val (.ref (ad Z ca r5)), .val (.ref (ad Z ca r6)), .val (.int (vi i7)), .val (.ref (ad Z ca q6.2)), x9, x10, x11, x12, x13, x14, x15]) b22_91_95 rfl ?_
          obtain ⟨hb9, hM⟩ := own_kisA hM
          obtain ⟨q10, hq10, hM⟩ := own_bdP hM
          refine o_callP (W := 0) (argsL := [(.int (vi q8)), (.ref (ad Z ca r2)), (.ref (ad Z ca r3)), (.ref (ad Z ca r4))]) (rest := []) (pc' := 98) (own_word hw 144 rfl) (own_word hw 145 rfl) (own_word hw 146 rfl) (own_word hw 3 rfl) (own_word hw 147 rfl) (own_word hw 4 rfl) (by decide) (R_q6.exa (t := 0) hb9) (fun hE => rm_rea l Z a0 hw ca K q6.1 r0 q8 r2 r3 r4 q10 h_q6 hE R_q6 hq10) d22_95 pd_9 rfl rfl rfl (Nat.le_of_eq rfl) (by decide) (by decide) (by show (((7 + 1 * t) + 0) + 0) + 0 ≤ 15; omega) (by show (((60 + 8 * t) + 0) + 0) + 0 ≤ 124; omega) rfl ?_
          rintro _ h_q10 ⟨rfl, R_q10⟩ hs_q10
          refine o_stP (pc' := 100) (st' := []) (ls' := #[.val (.ref (ad Z ca r0)), .val (.int (vi i1)), .val (.ref (ad Z ca r2)), .val (.ref (ad Z ca r3)), .val (.ref (ad Z ca r4)), .val (.ref (ad Z ca r5)), .val (.ref (ad Z ca r6)), .val (.int (vi i7)), .val (.ref (ad Z ca q6.2)), .val (.int (vi q10.2)), x10, x11, x12, x13, x14, x15]) d22_98 rfl rfl (own_stI (x := x9) rfl p9) ?_
          refine o_blk (pc' := 103) (st' := [(.int (vi 2)), (.int (vi q10.2))]) (ls' := #[.val (.ref (ad Z ca r0)), .val (.int (vi i1)), .val (.ref (ad Z ca r2)), .val (.ref (ad Z ca r3)), .val (.ref (ad Z ca r4)), .val (.ref (ad Z ca r5)), .val (.ref (ad Z ca r6)), .val (.int (vi i7)), .val (.ref (ad Z ca q6.2)), .val (.int (vi q10.2)), x10, x11, x12, x13, x14, x15]) b22_100_103 rfl ?_
          obtain ⟨q11, hq11, hM⟩ := own_kdc hM
          refine o_blk (pc' := 104) (st' := [(.int ((vi q10.2) - (vi 2)))]) (ls' := #[.val (.ref (ad Z ca r0)), .val (.int (vi i1)), .val (.ref (ad Z ca r2)), .val (.ref (ad Z ca r3)), .val (.ref (ad Z ca r4)), .val (.ref (ad Z ca r5)), .val (.ref (ad Z ca r6)), .val (.int (vi i7)), .val (.ref (ad Z ca q6.2)), .val (.int (vi q10.2)), x10, x11, x12, x13, x14, x15]) b22_103_104 rfl ?_
          rw [hq11]
          refine o_stP (pc' := 106) (st' := []) (ls' := #[.val (.ref (ad Z ca r0)), .val (.int (vi i1)), .val (.ref (ad Z ca r2)), .val (.ref (ad Z ca r3)), .val (.ref (ad Z ca r4)), .val (.ref (ad Z ca r5)), .val (.ref (ad Z ca r6)), .val (.int (vi i7)), .val (.ref (ad Z ca q6.2)), .val (.int (vi q10.2)), .val (.int (vi q11)), x11, x12, x13, x14, x15]) d22_104 rfl rfl (own_stI (x := x10) rfl p10) ?_
          exact ih_106 _ _ t (by omega) (((((7 + 1 * t) + 0) + 0) + 0)) (((((60 + 8 * t) + 0) + 0) + 0)) (by omega) (by omega) _ _ _ _ _ _ _ _ _ _ p11 _ p12 _ p13 _ p14 _ p15 R_q10 hM
      · intro h H t ht c s ec es r2 r3 r4 r5 r6 i7 r8 i9 i10 x11 p11 x12 p12 x13 p13 x14 p14 x15 p15 R hM
        subst ec es
        have hM : B_dcp_106 r0 i1 r2 r3 r4 r5 r6 (L_dcp r0 i1 r2 r3 r4 r5 r6 f) H t i7 r8 i9 i10 0 0 0 0 0 0 = some res := hM
        unfold B_dcp_106 at hM
        refine o_blk (pc' := 108) (st' := [(.int (vi i10))]) (ls' := #[.val (.ref (ad Z ca r0)), .val (.int (vi i1)), .val (.ref (ad Z ca r2)), .val (.ref (ad Z ca r3)), .val (.ref (ad Z ca r4)), .val (.ref (ad Z ca r5)), .val (.ref (ad Z ca r6)), .val (.int (vi i7)), .val (.ref (ad Z ca r8)), .val (.int (vi i9)), .val (.int (vi i10)), x11, x12, x13, x14, x15]) b22_106_108 rfl ?_
        obtain ⟨hb1, hM⟩ := own_plt hM
        refine o_if (pc' := 196) (pc'' := 111) d22_108 (by decide) (by decide) rfl (fun (hc108_2 : (vi i10) < (vi 1)) => ?_) (fun (hc108_2 : ¬ (vi i10) < (vi 1)) => ?_)
        ·
          replace hM := own_condT ((vi_lt hb1).1 hc108_2) hM
          refine o_blk (pc' := 200) (st' := [(.int (vi 1)), (.ref (ad Z ca r8)), (.ref (ad Z ca r0))]) (ls' := #[.val (.ref (ad Z ca r0)), .val (.int (vi i1)), .val (.ref (ad Z ca r2)), .val (.ref (ad Z ca r3)), .val (.ref (ad Z ca r4)), .val (.ref (ad Z ca r5)), .val (.ref (ad Z ca r6)), .val (.int (vi i7)), .val (.ref (ad Z ca r8)), .val (.int (vi i9)), .val (.int (vi i10)), x11, x12, x13, x14, x15]) b22_196_200 rfl ?_
          obtain ⟨q3, hq3, hM⟩ := own_kilo hM
          refine p_iald (pc' := 201) R hq3 d22_200 rfl ?_
          refine o_blk (pc' := 208) (st' := [(.ref (ad Z ca r5)), (.ref (ad Z ca r4)), (.ref (ad Z ca r2)), (.int (vi i9)), (.int (vi q3)), (.ref (ad Z ca r0))]) (ls' := #[.val (.ref (ad Z ca r0)), .val (.int (vi i1)), .val (.ref (ad Z ca r2)), .val (.ref (ad Z ca r3)), .val (.ref (ad Z ca r4)), .val (.ref (ad Z ca r5)), .val (.ref (ad Z ca r6)), .val (.int (vi i7)), .val (.ref (ad Z ca r8)), .val (.int (vi i9)), .val (.int (vi i10)), x11, x12, x13, x14, x15]) b22_201_208 rfl ?_
          obtain ⟨hb4, hM⟩ := own_kisA hM
          obtain ⟨q5, hq5, hM⟩ := own_bdP hM
          refine o_callP (W := 0) (argsL := [(.int (vi q3)), (.int (vi i9)), (.ref (ad Z ca r2)), (.ref (ad Z ca r4)), (.ref (ad Z ca r5))]) (rest := []) (pc' := 211) (own_word hw 148 rfl) (own_word hw 149 rfl) (own_word hw 150 rfl) (own_word hw 3 rfl) (own_word hw 151 rfl) (own_word hw 4 rfl) (by decide) (R.exa (t := 0) hb4) (fun hE => rm_hea l Z a0 hw ca K H r0 q3 i9 r2 r4 r5 q5 h hE R hq5) d22_208 pd_10 rfl rfl rfl (Nat.le_of_eq rfl) (by decide) (by decide) (by show (7 + 1 * t) + 0 ≤ 15; omega) (by show (60 + 8 * t) + 0 ≤ 124; omega) rfl ?_
          rintro _ h_q5 ⟨rfl, R_q5⟩ hs_q5
          refine o_blk (pc' := 213) (st' := []) (ls' := #[.val (.ref (ad Z ca r0)), .val (.int (vi i1)), .val (.ref (ad Z ca r2)), .val (.ref (ad Z ca r3)), .val (.ref (ad Z ca r4)), .val (.ref (ad Z ca r5)), .val (.ref (ad Z ca r6)), .val (.int (vi i7)), .val (.ref (ad Z ca r8)), .val (.int (vi i9)), .val (.int (vi q5.2)), x11, x12, x13, x14, x15]) b22_211_213 rfl ?_
          refine o_blk (pc' := 217) (st' := [(.int (vi 2)), (.int (vi q5.2)), (.ref (ad Z ca r2))]) (ls' := #[.val (.ref (ad Z ca r0)), .val (.int (vi i1)), .val (.ref (ad Z ca r2)), .val (.ref (ad Z ca r3)), .val (.ref (ad Z ca r4)), .val (.ref (ad Z ca r5)), .val (.ref (ad Z ca r6)), .val (.int (vi i7)), .val (.ref (ad Z ca r8)), .val (.int (vi i9)), .val (.int (vi q5.2)), x11, x12, x13, x14, x15]) b22_213_217 rfl ?_
          obtain ⟨q6, hq6, hM⟩ := own_kist hM
          refine p_zast (pc' := 218) R_q5 hq6 d22_217 rfl ?_
          intro h_q6 R_q6
          refine o_blk (pc' := 219) (st' := [(.ref (ad Z ca r0))]) (ls' := #[.val (.ref (ad Z ca r0)), .val (.int (vi i1)), .val (.ref (ad Z ca r2)), .val (.ref (ad Z ca r3)), .val (.ref (ad Z ca r4)), .val (.ref (ad Z ca r5)), .val (.ref (ad Z ca r6)), .val (.int (vi i7)), .val (.ref (ad Z ca r8)), .val (.int (vi i9)), .val (.int (vi q5.2)), x11, x12, x13, x14, x15]) b22_218_219 rfl ?_
          obtain ⟨q7, hq7, hM⟩ := own_kgfr (i := 5) hM rfl
          refine p_getR (t := 0) (i := 5) (pc' := 222) R_q6 (by decide) (by decide) hq7 rfl rfl (own_word hw 42 rfl) d22_219 rfl ?_
          refine o_blk (pc' := 227) (st' := [(.int (vi 2)), (.ref (ad Z ca r8)), (.int (vi q5.2)), (.ref (ad Z ca q7))]) (ls' := #[.val (.ref (ad Z ca r0)), .val (.int (vi i1)), .val (.ref (ad Z ca r2)), .val (.ref (ad Z ca r3)), .val (.ref (ad Z ca r4)), .val (.ref (ad Z ca r5)), .val (.ref (ad Z ca r6)), .val (.int (vi i7)), .val (.ref (ad Z ca r8)), .val (.int (vi i9)), .val (.int (vi q5.2)), x11, x12, x13, x14, x15]) b22_222_227 rfl ?_
          obtain ⟨q8, hq8, hM⟩ := own_kilo hM
          refine p_iald (pc' := 228) R_q6 hq8 d22_227 rfl ?_
          obtain ⟨q9, hq9, hM⟩ := own_kist hM
          refine p_iast (pc' := 229) R_q6 hq9 d22_228 rfl ?_
          intro h_q9 R_q9
          refine o_blk (pc' := 232) (st' := [(.int (vi 2)), (.ref (ad Z ca r8))]) (ls' := #[.val (.ref (ad Z ca r0)), .val (.int (vi i1)), .val (.ref (ad Z ca r2)), .val (.ref (ad Z ca r3)), .val (.ref (ad Z ca r4)), .val (.ref (ad Z ca r5)), .val (.ref (ad Z ca r6)), .val (.int (vi i7)), .val (.ref (ad Z ca r8)), .val (.int (vi i9)), .val (.int (vi q5.2)), x11, x12, x13, x14, x15]) b22_229_232 rfl ?_
          obtain ⟨q10, hq10, hM⟩ := own_kilo hM
          refine p_iald (pc' := 233) R_q9 hq10 d22_232 rfl ?_
          obtain ⟨hb11, hM⟩ := own_plt hM
          refine o_if (pc' := 240) (pc'' := 236) d22_233 (by decide) (by decide) rfl (fun (hc233_12 : ¬ (vi q10) < (vi 1)) => ?_) (fun (hc233_12 : (vi q10) < (vi 1)) => ?_)
          ·
            replace hM := own_condF ((vi_lt hb11).2 hc233_12) hM
            refine o_blk (pc' := 241) (st' := [(.ref (ad Z ca r0))]) (ls' := #[.val (.ref (ad Z ca r0)), .val (.int (vi i1)), .val (.ref (ad Z ca r2)), .val (.ref (ad Z ca r3)), .val (.ref (ad Z ca r4)), .val (.ref (ad Z ca r5)), .val (.ref (ad Z ca r6)), .val (.int (vi i7)), .val (.ref (ad Z ca r8)), .val (.int (vi i9)), .val (.int (vi q5.2)), x11, x12, x13, x14, x15]) b22_240_241 rfl ?_
            obtain ⟨q13, hq13, hM⟩ := own_kgfr (i := 2) hM rfl
            refine p_getR (t := 0) (i := 2) (pc' := 244) R_q9 (by decide) (by decide) hq13 rfl rfl (own_word hw 36 rfl) d22_241 rfl ?_
            refine o_blk (pc' := 246) (st' := [(.int (vi q5.2)), (.ref (ad Z ca q13))]) (ls' := #[.val (.ref (ad Z ca r0)), .val (.int (vi i1)), .val (.ref (ad Z ca r2)), .val (.ref (ad Z ca r3)), .val (.ref (ad Z ca r4)), .val (.ref (ad Z ca r5)), .val (.ref (ad Z ca r6)), .val (.int (vi i7)), .val (.ref (ad Z ca r8)), .val (.int (vi i9)), .val (.int (vi q5.2)), x11, x12, x13, x14, x15]) b22_244_246 rfl ?_
            obtain ⟨q14, hq14, hM⟩ := own_krlo hM
            refine p_aald (pc' := 247) R_q9 hq14 d22_246 rfl ?_
            refine o_stP (pc' := 249) (st' := []) (ls' := #[.val (.ref (ad Z ca r0)), .val (.int (vi i1)), .val (.ref (ad Z ca r2)), .val (.ref (ad Z ca r3)), .val (.ref (ad Z ca r4)), .val (.ref (ad Z ca r5)), .val (.ref (ad Z ca r6)), .val (.int (vi i7)), .val (.ref (ad Z ca r8)), .val (.int (vi i9)), .val (.int (vi q5.2)), .val (.ref (ad Z ca q14)), x12, x13, x14, x15]) d22_247 rfl rfl (own_stA (x := x11) rfl p11) ?_
            refine o_blk (pc' := 251) (st' := [(.ref (ad Z ca q14))]) (ls' := #[.val (.ref (ad Z ca r0)), .val (.int (vi i1)), .val (.ref (ad Z ca r2)), .val (.ref (ad Z ca r3)), .val (.ref (ad Z ca r4)), .val (.ref (ad Z ca r5)), .val (.ref (ad Z ca r6)), .val (.int (vi i7)), .val (.ref (ad Z ca r8)), .val (.int (vi i9)), .val (.int (vi q5.2)), .val (.ref (ad Z ca q14)), x12, x13, x14, x15]) b22_249_251 rfl ?_
            obtain ⟨q15, hq15, hM⟩ := own_kaln hM
            refine p_len (pc' := 252) R_q9 hq15 d22_251 rfl ?_
            refine o_stP (pc' := 254) (st' := []) (ls' := #[.val (.ref (ad Z ca r0)), .val (.int (vi i1)), .val (.ref (ad Z ca r2)), .val (.ref (ad Z ca r3)), .val (.ref (ad Z ca r4)), .val (.ref (ad Z ca r5)), .val (.ref (ad Z ca r6)), .val (.int (vi i7)), .val (.ref (ad Z ca r8)), .val (.int (vi i9)), .val (.int (vi q5.2)), .val (.ref (ad Z ca q14)), .val (.int (vi q15)), x13, x14, x15]) d22_252 rfl rfl (own_stI (x := x12) rfl p12) ?_
            refine o_blk (pc' := 255) (st' := [(.int (vi 1))]) (ls' := #[.val (.ref (ad Z ca r0)), .val (.int (vi i1)), .val (.ref (ad Z ca r2)), .val (.ref (ad Z ca r3)), .val (.ref (ad Z ca r4)), .val (.ref (ad Z ca r5)), .val (.ref (ad Z ca r6)), .val (.int (vi i7)), .val (.ref (ad Z ca r8)), .val (.int (vi i9)), .val (.int (vi q5.2)), .val (.ref (ad Z ca q14)), .val (.int (vi q15)), x13, x14, x15]) b22_254_255 rfl ?_
            refine o_stP (pc' := 257) (st' := []) (ls' := #[.val (.ref (ad Z ca r0)), .val (.int (vi i1)), .val (.ref (ad Z ca r2)), .val (.ref (ad Z ca r3)), .val (.ref (ad Z ca r4)), .val (.ref (ad Z ca r5)), .val (.ref (ad Z ca r6)), .val (.int (vi i7)), .val (.ref (ad Z ca r8)), .val (.int (vi i9)), .val (.int (vi q5.2)), .val (.ref (ad Z ca q14)), .val (.int (vi q15)), .val (.int (vi 1)), x14, x15]) d22_255 rfl rfl (own_stI (x := x13) rfl p13) ?_
            exact ih_257 _ _ t (by omega) (((7 + 1 * t) + 0)) (((60 + 8 * t) + 0)) (by omega) (by omega) _ _ _ _ _ _ _ _ _ _ _ (Pl.r _) _ (Pl.i _) _ p14 _ p15 R_q9 hM
          ·
            replace hM := own_condT ((vi_lt hb11).1 hc233_12) hM
            refine o_blk (pc' := 240) (st' := []) (ls' := #[.val (.ref (ad Z ca r0)), .val (.int (vi i1)), .val (.ref (ad Z ca r2)), .val (.ref (ad Z ca r3)), .val (.ref (ad Z ca r4)), .val (.ref (ad Z ca r5)), .val (.ref (ad Z ca r6)), .val (.int (vi q5.2)), .val (.ref (ad Z ca r8)), .val (.int (vi i9)), .val (.int (vi q5.2)), x11, x12, x13, x14, x15]) b22_236_240 rfl ?_
            refine o_blk (pc' := 241) (st' := [(.ref (ad Z ca r0))]) (ls' := #[.val (.ref (ad Z ca r0)), .val (.int (vi i1)), .val (.ref (ad Z ca r2)), .val (.ref (ad Z ca r3)), .val (.ref (ad Z ca r4)), .val (.ref (ad Z ca r5)), .val (.ref (ad Z ca r6)), .val (.int (vi q5.2)), .val (.ref (ad Z ca r8)), .val (.int (vi i9)), .val (.int (vi q5.2)), x11, x12, x13, x14, x15]) b22_240_241 rfl ?_
            obtain ⟨q16, hq16, hM⟩ := own_kgfr (i := 2) hM rfl
            refine p_getR (t := 0) (i := 2) (pc' := 244) R_q9 (by decide) (by decide) hq16 rfl rfl (own_word hw 36 rfl) d22_241 rfl ?_
            refine o_blk (pc' := 246) (st' := [(.int (vi q5.2)), (.ref (ad Z ca q16))]) (ls' := #[.val (.ref (ad Z ca r0)), .val (.int (vi i1)), .val (.ref (ad Z ca r2)), .val (.ref (ad Z ca r3)), .val (.ref (ad Z ca r4)), .val (.ref (ad Z ca r5)), .val (.ref (ad Z ca r6)), .val (.int (vi q5.2)), .val (.ref (ad Z ca r8)), .val (.int (vi i9)), .val (.int (vi q5.2)), x11, x12, x13, x14, x15]) b22_244_246 rfl ?_
            obtain ⟨q17, hq17, hM⟩ := own_krlo hM
            refine p_aald (pc' := 247) R_q9 hq17 d22_246 rfl ?_
            refine o_stP (pc' := 249) (st' := []) (ls' := #[.val (.ref (ad Z ca r0)), .val (.int (vi i1)), .val (.ref (ad Z ca r2)), .val (.ref (ad Z ca r3)), .val (.ref (ad Z ca r4)), .val (.ref (ad Z ca r5)), .val (.ref (ad Z ca r6)), .val (.int (vi q5.2)), .val (.ref (ad Z ca r8)), .val (.int (vi i9)), .val (.int (vi q5.2)), .val (.ref (ad Z ca q17)), x12, x13, x14, x15]) d22_247 rfl rfl (own_stA (x := x11) rfl p11) ?_
            refine o_blk (pc' := 251) (st' := [(.ref (ad Z ca q17))]) (ls' := #[.val (.ref (ad Z ca r0)), .val (.int (vi i1)), .val (.ref (ad Z ca r2)), .val (.ref (ad Z ca r3)), .val (.ref (ad Z ca r4)), .val (.ref (ad Z ca r5)), .val (.ref (ad Z ca r6)), .val (.int (vi q5.2)), .val (.ref (ad Z ca r8)), .val (.int (vi i9)), .val (.int (vi q5.2)), .val (.ref (ad Z ca q17)), x12, x13, x14, x15]) b22_249_251 rfl ?_
            obtain ⟨q18, hq18, hM⟩ := own_kaln hM
            refine p_len (pc' := 252) R_q9 hq18 d22_251 rfl ?_
            refine o_stP (pc' := 254) (st' := []) (ls' := #[.val (.ref (ad Z ca r0)), .val (.int (vi i1)), .val (.ref (ad Z ca r2)), .val (.ref (ad Z ca r3)), .val (.ref (ad Z ca r4)), .val (.ref (ad Z ca r5)), .val (.ref (ad Z ca r6)), .val (.int (vi q5.2)), .val (.ref (ad Z ca r8)), .val (.int (vi i9)), .val (.int (vi q5.2)), .val (.ref (ad Z ca q17)), .val (.int (vi q18)), x13, x14, x15]) d22_252 rfl rfl (own_stI (x := x12) rfl p12) ?_
            refine o_blk (pc' := 255) (st' := [(.int (vi 1))]) (ls' := #[.val (.ref (ad Z ca r0)), .val (.int (vi i1)), .val (.ref (ad Z ca r2)), .val (.ref (ad Z ca r3)), .val (.ref (ad Z ca r4)), .val (.ref (ad Z ca r5)), .val (.ref (ad Z ca r6)), .val (.int (vi q5.2)), .val (.ref (ad Z ca r8)), .val (.int (vi i9)), .val (.int (vi q5.2)), .val (.ref (ad Z ca q17)), .val (.int (vi q18)), x13, x14, x15]) b22_254_255 rfl ?_
            refine o_stP (pc' := 257) (st' := []) (ls' := #[.val (.ref (ad Z ca r0)), .val (.int (vi i1)), .val (.ref (ad Z ca r2)), .val (.ref (ad Z ca r3)), .val (.ref (ad Z ca r4)), .val (.ref (ad Z ca r5)), .val (.ref (ad Z ca r6)), .val (.int (vi q5.2)), .val (.ref (ad Z ca r8)), .val (.int (vi i9)), .val (.int (vi q5.2)), .val (.ref (ad Z ca q17)), .val (.int (vi q18)), .val (.int (vi 1)), x14, x15]) d22_255 rfl rfl (own_stI (x := x13) rfl p13) ?_
            exact ih_257 _ _ t (by omega) (((7 + 1 * t) + 0)) (((60 + 8 * t) + 0)) (by omega) (by omega) _ _ _ _ _ _ _ _ _ _ _ (Pl.r _) _ (Pl.i _) _ p14 _ p15 R_q9 hM
        ·
          replace hM := own_condF ((vi_lt hb1).2 hc108_2) hM
          refine o_blk (pc' := 114) (st' := [(.int (vi i10)), (.ref (ad Z ca r3))]) (ls' := #[.val (.ref (ad Z ca r0)), .val (.int (vi i1)), .val (.ref (ad Z ca r2)), .val (.ref (ad Z ca r3)), .val (.ref (ad Z ca r4)), .val (.ref (ad Z ca r5)), .val (.ref (ad Z ca r6)), .val (.int (vi i7)), .val (.ref (ad Z ca r8)), .val (.int (vi i9)), .val (.int (vi i10)), x11, x12, x13, x14, x15]) b22_111_114 rfl ?_
          obtain ⟨q19, hq19, hM⟩ := own_kilo hM
          refine p_iald (pc' := 115) R hq19 d22_114 rfl ?_
          refine o_stP (pc' := 117) (st' := []) (ls' := #[.val (.ref (ad Z ca r0)), .val (.int (vi i1)), .val (.ref (ad Z ca r2)), .val (.ref (ad Z ca r3)), .val (.ref (ad Z ca r4)), .val (.ref (ad Z ca r5)), .val (.ref (ad Z ca r6)), .val (.int (vi i7)), .val (.ref (ad Z ca r8)), .val (.int (vi i9)), .val (.int (vi i10)), .val (.int (vi q19)), x12, x13, x14, x15]) d22_115 rfl rfl (own_stI (x := x11) rfl p11) ?_
          refine o_blk (pc' := 122) (st' := [(.int (vi 2)), (.int (vi q19)), (.ref (ad Z ca r5))]) (ls' := #[.val (.ref (ad Z ca r0)), .val (.int (vi i1)), .val (.ref (ad Z ca r2)), .val (.ref (ad Z ca r3)), .val (.ref (ad Z ca r4)), .val (.ref (ad Z ca r5)), .val (.ref (ad Z ca r6)), .val (.int (vi i7)), .val (.ref (ad Z ca r8)), .val (.int (vi i9)), .val (.int (vi i10)), .val (.int (vi q19)), x12, x13, x14, x15]) b22_117_122 rfl ?_
          obtain ⟨q20, hq20, hM⟩ := own_kist hM
          refine p_iast (pc' := 123) R hq20 d22_122 rfl ?_
          intro h_q20 R_q20
          refine o_blk (pc' := 124) (st' := [(.ref (ad Z ca r0))]) (ls' := #[.val (.ref (ad Z ca r0)), .val (.int (vi i1)), .val (.ref (ad Z ca r2)), .val (.ref (ad Z ca r3)), .val (.ref (ad Z ca r4)), .val (.ref (ad Z ca r5)), .val (.ref (ad Z ca r6)), .val (.int (vi i7)), .val (.ref (ad Z ca r8)), .val (.int (vi i9)), .val (.int (vi i10)), .val (.int (vi q19)), x12, x13, x14, x15]) b22_123_124 rfl ?_
          obtain ⟨q21, hq21, hM⟩ := own_kgfr (i := 2) hM rfl
          refine p_getR (t := 0) (i := 2) (pc' := 127) R_q20 (by decide) (by decide) hq21 rfl rfl (own_word hw 36 rfl) d22_124 rfl ?_
          refine o_blk (pc' := 129) (st' := [(.int (vi q19)), (.ref (ad Z ca q21))]) (ls' := #[.val (.ref (ad Z ca r0)), .val (.int (vi i1)), .val (.ref (ad Z ca r2)), .val (.ref (ad Z ca r3)), .val (.ref (ad Z ca r4)), .val (.ref (ad Z ca r5)), .val (.ref (ad Z ca r6)), .val (.int (vi i7)), .val (.ref (ad Z ca r8)), .val (.int (vi i9)), .val (.int (vi i10)), .val (.int (vi q19)), x12, x13, x14, x15]) b22_127_129 rfl ?_
          obtain ⟨q22, hq22, hM⟩ := own_krlo hM
          refine p_aald (pc' := 130) R_q20 hq22 d22_129 rfl ?_
          refine o_stP (pc' := 132) (st' := []) (ls' := #[.val (.ref (ad Z ca r0)), .val (.int (vi i1)), .val (.ref (ad Z ca r2)), .val (.ref (ad Z ca r3)), .val (.ref (ad Z ca r4)), .val (.ref (ad Z ca r5)), .val (.ref (ad Z ca r6)), .val (.int (vi i7)), .val (.ref (ad Z ca r8)), .val (.int (vi i9)), .val (.int (vi i10)), .val (.int (vi q19)), .val (.ref (ad Z ca q22)), x13, x14, x15]) d22_130 rfl rfl (own_stA (x := x12) rfl p12) ?_
          refine o_blk (pc' := 134) (st' := [(.ref (ad Z ca q22))]) (ls' := #[.val (.ref (ad Z ca r0)), .val (.int (vi i1)), .val (.ref (ad Z ca r2)), .val (.ref (ad Z ca r3)), .val (.ref (ad Z ca r4)), .val (.ref (ad Z ca r5)), .val (.ref (ad Z ca r6)), .val (.int (vi i7)), .val (.ref (ad Z ca r8)), .val (.int (vi i9)), .val (.int (vi i10)), .val (.int (vi q19)), .val (.ref (ad Z ca q22)), x13, x14, x15]) b22_132_134 rfl ?_
          obtain ⟨q23, hq23, hM⟩ := own_kaln hM
          refine p_len (pc' := 135) R_q20 hq23 d22_134 rfl ?_
          refine o_stP (pc' := 137) (st' := []) (ls' := #[.val (.ref (ad Z ca r0)), .val (.int (vi i1)), .val (.ref (ad Z ca r2)), .val (.ref (ad Z ca r3)), .val (.ref (ad Z ca r4)), .val (.ref (ad Z ca r5)), .val (.ref (ad Z ca r6)), .val (.int (vi i7)), .val (.ref (ad Z ca r8)), .val (.int (vi i9)), .val (.int (vi i10)), .val (.int (vi q19)), .val (.ref (ad Z ca q22)), .val (.int (vi q23)), x14, x15]) d22_135 rfl rfl (own_stI (x := x13) rfl p13) ?_
          refine o_blk (pc' := 138) (st' := [(.int (vi 1))]) (ls' := #[.val (.ref (ad Z ca r0)), .val (.int (vi i1)), .val (.ref (ad Z ca r2)), .val (.ref (ad Z ca r3)), .val (.ref (ad Z ca r4)), .val (.ref (ad Z ca r5)), .val (.ref (ad Z ca r6)), .val (.int (vi i7)), .val (.ref (ad Z ca r8)), .val (.int (vi i9)), .val (.int (vi i10)), .val (.int (vi q19)), .val (.ref (ad Z ca q22)), .val (.int (vi q23)), x14, x15]) b22_137_138 rfl ?_
          refine o_stP (pc' := 140) (st' := []) (ls' := #[.val (.ref (ad Z ca r0)), .val (.int (vi i1)), .val (.ref (ad Z ca r2)), .val (.ref (ad Z ca r3)), .val (.ref (ad Z ca r4)), .val (.ref (ad Z ca r5)), .val (.ref (ad Z ca r6)), .val (.int (vi i7)), .val (.ref (ad Z ca r8)), .val (.int (vi i9)), .val (.int (vi i10)), .val (.int (vi q19)), .val (.ref (ad Z ca q22)), .val (.int (vi q23)), .val (.int (vi 1)), x15]) d22_138 rfl rfl (own_stI (x := x14) rfl p14) ?_
          exact ih_140 _ _ t (by omega) ((7 + 1 * t)) ((60 + 8 * t)) (by omega) (by omega) _ _ _ _ _ _ _ _ _ _ _ _ _ _ p15 R_q20 hM
      · intro h H t ht c s ec es r2 r3 r4 r5 r6 i7 r8 i9 i10 i11 r12 i13 i14 x15 p15 R hM
        subst ec es
        have hM : B_dcp_140 r0 i1 r2 r3 r4 r5 r6 (L_dcp r0 i1 r2 r3 r4 r5 r6 f) H t i7 r8 i9 i10 i11 0 0 r12 i13 i14 = some res := hM
        unfold B_dcp_140 at hM
        refine o_blk (pc' := 144) (st' := [(.int (vi i13)), (.int (vi i14))]) (ls' := #[.val (.ref (ad Z ca r0)), .val (.int (vi i1)), .val (.ref (ad Z ca r2)), .val (.ref (ad Z ca r3)), .val (.ref (ad Z ca r4)), .val (.ref (ad Z ca r5)), .val (.ref (ad Z ca r6)), .val (.int (vi i7)), .val (.ref (ad Z ca r8)), .val (.int (vi i9)), .val (.int (vi i10)), .val (.int (vi i11)), .val (.ref (ad Z ca r12)), .val (.int (vi i13)), .val (.int (vi i14)), x15]) b22_140_144 rfl ?_
        obtain ⟨hb1, hM⟩ := own_plt hM
        refine o_ic (pc' := 190) (pc'' := 147) d22_144 (by decide) (by decide) rfl (fun (hc144_2 : ¬ (vi i14) < (vi i13)) => ?_) (fun (hc144_2 : (vi i14) < (vi i13)) => ?_)
        ·
          replace hM := own_condF ((vi_lt hb1).2 hc144_2) hM
          obtain ⟨q3, hq3, hM⟩ := own_kdi hM
          refine o_blk (pc' := 193) (st' := []) (ls' := #[.val (.ref (ad Z ca r0)), .val (.int (vi i1)), .val (.ref (ad Z ca r2)), .val (.ref (ad Z ca r3)), .val (.ref (ad Z ca r4)), .val (.ref (ad Z ca r5)), .val (.ref (ad Z ca r6)), .val (.int (vi i7)), .val (.ref (ad Z ca r8)), .val (.int (vi i9)), .val (.int ((vi i10) + (vi 0))), .val (.int (vi i11)), .val (.ref (ad Z ca r12)), .val (.int (vi i13)), .val (.int (vi i14)), x15]) b22_190_193 rfl ?_
          rw [hq3]
          refine o_goto (pc' := 106) d22_193 (by decide) (by decide) ?_
          exact ih_106 _ _ t (by omega) ((7 + 1 * t)) ((60 + 8 * t)) (by omega) (by omega) _ _ _ _ _ _ _ _ _ _ (Pl.i _) _ (Pl.r _) _ (Pl.i _) _ (Pl.i _) _ p15 R hM
        ·
          replace hM := own_condT ((vi_lt hb1).1 hc144_2) hM
          refine o_blk (pc' := 151) (st' := [(.int (vi i14)), (.ref (ad Z ca r12))]) (ls' := #[.val (.ref (ad Z ca r0)), .val (.int (vi i1)), .val (.ref (ad Z ca r2)), .val (.ref (ad Z ca r3)), .val (.ref (ad Z ca r4)), .val (.ref (ad Z ca r5)), .val (.ref (ad Z ca r6)), .val (.int (vi i7)), .val (.ref (ad Z ca r8)), .val (.int (vi i9)), .val (.int (vi i10)), .val (.int (vi i11)), .val (.ref (ad Z ca r12)), .val (.int (vi i13)), .val (.int (vi i14)), x15]) b22_147_151 rfl ?_
          obtain ⟨q4, hq4, hM⟩ := own_kilo hM
          refine p_iald (pc' := 152) R hq4 d22_151 rfl ?_
          refine o_stP (pc' := 154) (st' := []) (ls' := #[.val (.ref (ad Z ca r0)), .val (.int (vi i1)), .val (.ref (ad Z ca r2)), .val (.ref (ad Z ca r3)), .val (.ref (ad Z ca r4)), .val (.ref (ad Z ca r5)), .val (.ref (ad Z ca r6)), .val (.int (vi i7)), .val (.ref (ad Z ca r8)), .val (.int (vi i9)), .val (.int (vi i10)), .val (.int (vi i11)), .val (.ref (ad Z ca r12)), .val (.int (vi i13)), .val (.int (vi i14)), .val (.int (vi q4))]) d22_152 rfl rfl (own_stI (x := x15) rfl p15) ?_
          refine o_blk (pc' := 157) (st' := [(.int (vi q4)), (.ref (ad Z ca r2))]) (ls' := #[.val (.ref (ad Z ca r0)), .val (.int (vi i1)), .val (.ref (ad Z ca r2)), .val (.ref (ad Z ca r3)), .val (.ref (ad Z ca r4)), .val (.ref (ad Z ca r5)), .val (.ref (ad Z ca r6)), .val (.int (vi i7)), .val (.ref (ad Z ca r8)), .val (.int (vi i9)), .val (.int (vi i10)), .val (.int (vi i11)), .val (.ref (ad Z ca r12)), .val (.int (vi i13)), .val (.int (vi i14)), .val (.int (vi q4))]) b22_154_157 rfl ?_
          obtain ⟨q5, hq5, hM⟩ := own_kilo hM
          refine p_zald (pc' := 158) R hq5 d22_157 rfl ?_
          obtain ⟨hb6, hM⟩ := own_peq hM
          refine o_if (pc' := 184) (pc'' := 161) d22_158 (by decide) (by decide) rfl (fun (hc158_7 : ¬ (vi q5) = (vi 1)) => ?_) (fun (hc158_7 : (vi q5) = (vi 1)) => ?_)
          ·
            replace hM := own_condF ((vi_eq hb6).2 hc158_7) hM
            refine o_blk (pc' := 187) (st' := []) (ls' := #[.val (.ref (ad Z ca r0)), .val (.int (vi i1)), .val (.ref (ad Z ca r2)), .val (.ref (ad Z ca r3)), .val (.ref (ad Z ca r4)), .val (.ref (ad Z ca r5)), .val (.ref (ad Z ca r6)), .val (.int (vi i7)), .val (.ref (ad Z ca r8)), .val (.int (vi i9)), .val (.int (vi i10)), .val (.int (vi i11)), .val (.ref (ad Z ca r12)), .val (.int (vi i13)), .val (.int ((vi i14) + (vi 2))), .val (.int (vi q4))]) b22_184_187 rfl ?_
            rw [vi_inc i14]
            refine o_goto (pc' := 140) d22_187 (by decide) (by decide) ?_
            exact ih_140 _ _ t (by omega) ((7 + 1 * t)) ((60 + 8 * t)) (by omega) (by omega) _ _ _ _ _ _ _ _ _ _ _ _ _ _ (Pl.i _) R hM
          ·
            replace hM := own_condT ((vi_eq hb6).1 hc158_7) hM
            refine o_blk (pc' := 165) (st' := [(.int (vi q4)), (.ref (ad Z ca r4))]) (ls' := #[.val (.ref (ad Z ca r0)), .val (.int (vi i1)), .val (.ref (ad Z ca r2)), .val (.ref (ad Z ca r3)), .val (.ref (ad Z ca r4)), .val (.ref (ad Z ca r5)), .val (.ref (ad Z ca r6)), .val (.int (vi i7)), .val (.ref (ad Z ca r8)), .val (.int (vi i9)), .val (.int (vi i10)), .val (.int (vi i11)), .val (.ref (ad Z ca r12)), .val (.int (vi i13)), .val (.int (vi i14)), .val (.int (vi q4))]) b22_161_165 rfl ?_
            obtain ⟨q8, hq8, hM⟩ := own_kilo hM
            refine p_iald (pc' := 166) R hq8 d22_165 rfl ?_
            refine o_blk (pc' := 168) (st' := [(.int (vi i11)), (.int (vi q8))]) (ls' := #[.val (.ref (ad Z ca r0)), .val (.int (vi i1)), .val (.ref (ad Z ca r2)), .val (.ref (ad Z ca r3)), .val (.ref (ad Z ca r4)), .val (.ref (ad Z ca r5)), .val (.ref (ad Z ca r6)), .val (.int (vi i7)), .val (.ref (ad Z ca r8)), .val (.int (vi i9)), .val (.int (vi i10)), .val (.int (vi i11)), .val (.ref (ad Z ca r12)), .val (.int (vi i13)), .val (.int (vi i14)), .val (.int (vi q4))]) b22_166_168 rfl ?_
            obtain ⟨hb9, hM⟩ := own_peq hM
            refine o_ic (pc' := 184) (pc'' := 171) d22_168 (by decide) (by decide) rfl (fun (hc168_10 : ¬ (vi q8) = (vi i11)) => ?_) (fun (hc168_10 : (vi q8) = (vi i11)) => ?_)
            ·
              replace hM := own_condF ((vi_eq hb9).2 hc168_10) hM
              refine o_blk (pc' := 187) (st' := []) (ls' := #[.val (.ref (ad Z ca r0)), .val (.int (vi i1)), .val (.ref (ad Z ca r2)), .val (.ref (ad Z ca r3)), .val (.ref (ad Z ca r4)), .val (.ref (ad Z ca r5)), .val (.ref (ad Z ca r6)), .val (.int (vi i7)), .val (.ref (ad Z ca r8)), .val (.int (vi i9)), .val (.int (vi i10)), .val (.int (vi i11)), .val (.ref (ad Z ca r12)), .val (.int (vi i13)), .val (.int ((vi i14) + (vi 2))), .val (.int (vi q4))]) b22_184_187 rfl ?_
              rw [vi_inc i14]
              refine o_goto (pc' := 140) d22_187 (by decide) (by decide) ?_
              exact ih_140 _ _ t (by omega) ((7 + 1 * t)) ((60 + 8 * t)) (by omega) (by omega) _ _ _ _ _ _ _ _ _ _ _ _ _ _ (Pl.i _) R hM
            ·
              replace hM := own_condT ((vi_eq hb9).1 hc168_10) hM
              refine o_blk (pc' := 176) (st' := [(.int (vi i11)), (.ref (ad Z ca r5)), (.int (vi i11)), (.ref (ad Z ca r5))]) (ls' := #[.val (.ref (ad Z ca r0)), .val (.int (vi i1)), .val (.ref (ad Z ca r2)), .val (.ref (ad Z ca r3)), .val (.ref (ad Z ca r4)), .val (.ref (ad Z ca r5)), .val (.ref (ad Z ca r6)), .val (.int (vi i7)), .val (.ref (ad Z ca r8)), .val (.int (vi i9)), .val (.int (vi i10)), .val (.int (vi i11)), .val (.ref (ad Z ca r12)), .val (.int (vi i13)), .val (.int (vi i14)), .val (.int (vi q4))]) b22_171_176 rfl ?_
              obtain ⟨q11, hq11, hM⟩ := own_kilo hM
              refine p_iald (pc' := 177) R hq11 d22_176 rfl ?_
              refine o_blk (pc' := 181) (st' := [(.int (vi q4)), (.ref (ad Z ca r5)), (.int (vi q11)), (.int (vi i11)), (.ref (ad Z ca r5))]) (ls' := #[.val (.ref (ad Z ca r0)), .val (.int (vi i1)), .val (.ref (ad Z ca r2)), .val (.ref (ad Z ca r3)), .val (.ref (ad Z ca r4)), .val (.ref (ad Z ca r5)), .val (.ref (ad Z ca r6)), .val (.int (vi i7)), .val (.ref (ad Z ca r8)), .val (.int (vi i9)), .val (.int (vi i10)), .val (.int (vi i11)), .val (.ref (ad Z ca r12)), .val (.int (vi i13)), .val (.int (vi i14)), .val (.int (vi q4))]) b22_177_181 rfl ?_
              obtain ⟨q12, hq12, hM⟩ := own_kilo hM
              refine p_iald (pc' := 182) R hq12 d22_181 rfl ?_
              obtain ⟨q13, hq13, hM⟩ := own_kad hM
              refine o_blk (pc' := 183) (st' := [(.int ((vi q11) + (vi q12))), (.int (vi i11)), (.ref (ad Z ca r5))]) (ls' := #[.val (.ref (ad Z ca r0)), .val (.int (vi i1)), .val (.ref (ad Z ca r2)), .val (.ref (ad Z ca r3)), .val (.ref (ad Z ca r4)), .val (.ref (ad Z ca r5)), .val (.ref (ad Z ca r6)), .val (.int (vi i7)), .val (.ref (ad Z ca r8)), .val (.int (vi i9)), .val (.int (vi i10)), .val (.int (vi i11)), .val (.ref (ad Z ca r12)), .val (.int (vi i13)), .val (.int (vi i14)), .val (.int (vi q4))]) b22_182_183 rfl ?_
              rw [hq13]
              obtain ⟨q14, hq14, hM⟩ := own_kist hM
              refine p_iast (pc' := 184) R hq14 d22_183 rfl ?_
              intro h_q14 R_q14
              refine o_blk (pc' := 187) (st' := []) (ls' := #[.val (.ref (ad Z ca r0)), .val (.int (vi i1)), .val (.ref (ad Z ca r2)), .val (.ref (ad Z ca r3)), .val (.ref (ad Z ca r4)), .val (.ref (ad Z ca r5)), .val (.ref (ad Z ca r6)), .val (.int (vi i7)), .val (.ref (ad Z ca r8)), .val (.int (vi i9)), .val (.int (vi i10)), .val (.int (vi i11)), .val (.ref (ad Z ca r12)), .val (.int (vi i13)), .val (.int ((vi i14) + (vi 2))), .val (.int (vi q4))]) b22_184_187 rfl ?_
              rw [vi_inc i14]
              refine o_goto (pc' := 140) d22_187 (by decide) (by decide) ?_
              exact ih_140 _ _ t (by omega) ((7 + 1 * t)) ((60 + 8 * t)) (by omega) (by omega) _ _ _ _ _ _ _ _ _ _ _ _ _ _ (Pl.i _) R_q14 hM
      · intro h H t ht c s ec es r2 r3 r4 r5 r6 i7 i10 r11 i12 i13 x8 p8 x9 p9 x14 p14 x15 p15 R hM
        subst ec es
        have hM : B_dcp_257 r0 i1 r2 r3 r4 r5 r6 (L_dcp r0 i1 r2 r3 r4 r5 r6 f) H t i7 0 0 i10 0 r11 i12 0 i13 0 = some res := hM
        unfold B_dcp_257 at hM
        refine o_blk (pc' := 261) (st' := [(.int (vi i12)), (.int (vi i13))]) (ls' := #[.val (.ref (ad Z ca r0)), .val (.int (vi i1)), .val (.ref (ad Z ca r2)), .val (.ref (ad Z ca r3)), .val (.ref (ad Z ca r4)), .val (.ref (ad Z ca r5)), .val (.ref (ad Z ca r6)), .val (.int (vi i7)), x8, x9, .val (.int (vi i10)), .val (.ref (ad Z ca r11)), .val (.int (vi i12)), .val (.int (vi i13)), x14, x15]) b22_257_261 rfl ?_
        obtain ⟨hb1, hM⟩ := own_plt hM
        refine o_ic (pc' := 304) (pc'' := 264) d22_261 (by decide) (by decide) rfl (fun (hc261_2 : ¬ (vi i13) < (vi i12)) => ?_) (fun (hc261_2 : (vi i13) < (vi i12)) => ?_)
        ·
          replace hM := own_condF ((vi_lt hb1).2 hc261_2) hM
          refine o_goto (pc' := 64) d22_304 (by decide) (by decide) ?_
          exact ih_64 _ _ t (by omega) ((7 + 1 * t)) ((60 + 8 * t)) (by omega) (by omega) _ _ _ _ _ _ _ p8 _ p9 _ (Pl.i _) _ (Pl.r _) _ (Pl.i _) _ (Pl.i _) _ p14 _ p15 R hM
        ·
          replace hM := own_condT ((vi_lt hb1).1 hc261_2) hM
          refine o_blk (pc' := 268) (st' := [(.int (vi i13)), (.ref (ad Z ca r11))]) (ls' := #[.val (.ref (ad Z ca r0)), .val (.int (vi i1)), .val (.ref (ad Z ca r2)), .val (.ref (ad Z ca r3)), .val (.ref (ad Z ca r4)), .val (.ref (ad Z ca r5)), .val (.ref (ad Z ca r6)), .val (.int (vi i7)), x8, x9, .val (.int (vi i10)), .val (.ref (ad Z ca r11)), .val (.int (vi i12)), .val (.int (vi i13)), x14, x15]) b22_264_268 rfl ?_
          obtain ⟨q3, hq3, hM⟩ := own_kilo hM
          refine p_iald (pc' := 269) R hq3 d22_268 rfl ?_
          refine o_stP (pc' := 271) (st' := []) (ls' := #[.val (.ref (ad Z ca r0)), .val (.int (vi i1)), .val (.ref (ad Z ca r2)), .val (.ref (ad Z ca r3)), .val (.ref (ad Z ca r4)), .val (.ref (ad Z ca r5)), .val (.ref (ad Z ca r6)), .val (.int (vi i7)), x8, x9, .val (.int (vi i10)), .val (.ref (ad Z ca r11)), .val (.int (vi i12)), .val (.int (vi i13)), .val (.int (vi q3)), x15]) d22_269 rfl rfl (own_stI (x := x14) rfl p14) ?_
          refine o_blk (pc' := 274) (st' := [(.int (vi q3)), (.ref (ad Z ca r2))]) (ls' := #[.val (.ref (ad Z ca r0)), .val (.int (vi i1)), .val (.ref (ad Z ca r2)), .val (.ref (ad Z ca r3)), .val (.ref (ad Z ca r4)), .val (.ref (ad Z ca r5)), .val (.ref (ad Z ca r6)), .val (.int (vi i7)), x8, x9, .val (.int (vi i10)), .val (.ref (ad Z ca r11)), .val (.int (vi i12)), .val (.int (vi i13)), .val (.int (vi q3)), x15]) b22_271_274 rfl ?_
          obtain ⟨q4, hq4, hM⟩ := own_kilo hM
          refine p_zald (pc' := 275) R hq4 d22_274 rfl ?_
          obtain ⟨hb5, hM⟩ := own_peq hM
          refine o_if (pc' := 298) (pc'' := 278) d22_275 (by decide) (by decide) rfl (fun (hc275_6 : ¬ (vi q4) = (vi 1)) => ?_) (fun (hc275_6 : (vi q4) = (vi 1)) => ?_)
          ·
            replace hM := own_condF ((vi_eq hb5).2 hc275_6) hM
            refine o_blk (pc' := 301) (st' := []) (ls' := #[.val (.ref (ad Z ca r0)), .val (.int (vi i1)), .val (.ref (ad Z ca r2)), .val (.ref (ad Z ca r3)), .val (.ref (ad Z ca r4)), .val (.ref (ad Z ca r5)), .val (.ref (ad Z ca r6)), .val (.int (vi i7)), x8, x9, .val (.int (vi i10)), .val (.ref (ad Z ca r11)), .val (.int (vi i12)), .val (.int ((vi i13) + (vi 2))), .val (.int (vi q3)), x15]) b22_298_301 rfl ?_
            rw [vi_inc i13]
            refine o_goto (pc' := 257) d22_301 (by decide) (by decide) ?_
            exact ih_257 _ _ t (by omega) ((7 + 1 * t)) ((60 + 8 * t)) (by omega) (by omega) _ _ _ _ _ _ _ _ _ _ _ p8 _ p9 _ (Pl.i _) _ p15 R hM
          ·
            replace hM := own_condT ((vi_eq hb5).1 hc275_6) hM
            refine o_blk (pc' := 281) (st' := [(.int (vi 3)), (.ref (ad Z ca r6))]) (ls' := #[.val (.ref (ad Z ca r0)), .val (.int (vi i1)), .val (.ref (ad Z ca r2)), .val (.ref (ad Z ca r3)), .val (.ref (ad Z ca r4)), .val (.ref (ad Z ca r5)), .val (.ref (ad Z ca r6)), .val (.int (vi i7)), x8, x9, .val (.int (vi i10)), .val (.ref (ad Z ca r11)), .val (.int (vi i12)), .val (.int (vi i13)), .val (.int (vi q3)), x15]) b22_278_281 rfl ?_
            obtain ⟨q7, hq7, hM⟩ := own_bdP hM
            obtain ⟨hb8, hM⟩ := own_gd hM
            have hb8 := Nat.le_of_ble_eq_true hb8
            refine p_newI (pc' := 283) R (own_word hw 0 rfl) hq7 d22_281 (by show (7 + 1 * t) + 1 ≤ 15; omega) (by show (60 + 8 * t) + 8 ≤ 124; omega) rfl ?_
            intro h_q7 R_q7
            refine o_blk (pc' := 287) (st' := [(.int (vi q3)), (.int (vi 1)), (.ref (ad Z ca q7.2)), (.ref (ad Z ca q7.2)), (.ref (ad Z ca r6))]) (ls' := #[.val (.ref (ad Z ca r0)), .val (.int (vi i1)), .val (.ref (ad Z ca r2)), .val (.ref (ad Z ca r3)), .val (.ref (ad Z ca r4)), .val (.ref (ad Z ca r5)), .val (.ref (ad Z ca r6)), .val (.int (vi i7)), x8, x9, .val (.int (vi i10)), .val (.ref (ad Z ca r11)), .val (.int (vi i12)), .val (.int (vi i13)), .val (.int (vi q3)), x15]) b22_283_287 rfl ?_
            obtain ⟨q9, hq9, hM⟩ := own_kist hM
            refine p_iast (pc' := 288) R_q7 hq9 d22_287 rfl ?_
            intro h_q9 R_q9
            refine o_blk (pc' := 292) (st' := [(.int (vi i10)), (.int (vi 2)), (.ref (ad Z ca q7.2)), (.ref (ad Z ca q7.2)), (.ref (ad Z ca r6))]) (ls' := #[.val (.ref (ad Z ca r0)), .val (.int (vi i1)), .val (.ref (ad Z ca r2)), .val (.ref (ad Z ca r3)), .val (.ref (ad Z ca r4)), .val (.ref (ad Z ca r5)), .val (.ref (ad Z ca r6)), .val (.int (vi i7)), x8, x9, .val (.int (vi i10)), .val (.ref (ad Z ca r11)), .val (.int (vi i12)), .val (.int (vi i13)), .val (.int (vi q3)), x15]) b22_288_292 rfl ?_
            obtain ⟨q10, hq10, hM⟩ := own_kist hM
            refine p_iast (pc' := 293) R_q9 hq10 d22_292 rfl ?_
            intro h_q10 R_q10
            obtain ⟨hb11, hM⟩ := own_kisA hM
            obtain ⟨q12, hq12, hM⟩ := own_bdP hM
            refine o_callF (W := 0) (argsL := [(.ref (ad Z ca q7.2))]) (rest := []) (pc' := 298) (own_word hw 72 rfl) (own_word hw 73 rfl) (own_word hw 74 rfl) rfl (own_word hw 75 rfl) (own_word hw 76 rfl) (own_word hw 77 rfl) (own_word hw 78 rfl) (own_word hw 79 rfl) (own_word hw 80 rfl) (own_word hw 50 rfl) (by decide) (R_q10.exa (t := 1) hb11) (fun hE => rm_push l Z a0 hw ca K q10 r6 q7.2 q12 h_q10 hE R_q10 hq12) d22_293 pd_2 rfl rfl rfl (Nat.le_of_eq rfl) (by decide) (by decide) (by show ((7 + 1 * t) + 1) + 0 ≤ 15; omega) (by show ((60 + 8 * t) + 8) + 0 ≤ 124; omega) rfl ?_
            rintro _ h_q12 ⟨rfl, R_q12⟩ hs_q12
            refine o_blk (pc' := 301) (st' := []) (ls' := #[.val (.ref (ad Z ca r0)), .val (.int (vi i1)), .val (.ref (ad Z ca r2)), .val (.ref (ad Z ca r3)), .val (.ref (ad Z ca r4)), .val (.ref (ad Z ca r5)), .val (.ref (ad Z ca r6)), .val (.int (vi i7)), x8, x9, .val (.int (vi i10)), .val (.ref (ad Z ca r11)), .val (.int (vi i12)), .val (.int ((vi i13) + (vi 2))), .val (.int (vi q3)), x15]) b22_298_301 rfl ?_
            rw [vi_inc i13]
            refine o_goto (pc' := 257) d22_301 (by decide) (by decide) ?_
            exact ih_257 _ _ (t + 1) (by omega) ((((7 + 1 * t) + 1) + 0)) ((((60 + 8 * t) + 8) + 0)) (by omega) (by omega) _ _ _ _ _ _ _ _ _ _ _ p8 _ p9 _ (Pl.i _) _ p15 R_q12 hM
  unfold M_dcp at hM
  refine o_blk (pc' := 1) (st' := [(.ref (ad Z ca r0))]) (ls' := #[.val (.ref (ad Z ca r0)), .val (.int (vi i1)), .unset, .unset, .unset, .unset, .unset, .unset, .unset, .unset, .unset, .unset, .unset, .unset, .unset, .unset]) b22_0_1 rfl ?_
  obtain ⟨q1, hq1, hM⟩ := own_kgfr (i := 0) hM rfl
  refine p_getR (t := 0) (i := 0) (pc' := 4) R0 (by decide) (by decide) hq1 rfl rfl (own_word hw 11 rfl) d22_1 rfl ?_
  obtain ⟨q2, hq2, hM⟩ := own_kaln hM
  refine p_len (pc' := 5) R0 hq2 d22_4 rfl ?_
  obtain ⟨q3, hq3, hM⟩ := own_bdP hM
  refine p_newZ (pc' := 7) R0 (own_word hw 142 rfl) hq3 d22_5 (by decide) (by decide) rfl ?_
  intro h_q3 R_q3
  refine o_blk (pc' := 8) (st' := []) (ls' := #[.val (.ref (ad Z ca r0)), .val (.int (vi i1)), .val (.ref (ad Z ca q3.2)), .unset, .unset, .unset, .unset, .unset, .unset, .unset, .unset, .unset, .unset, .unset, .unset, .unset]) b22_7_8 rfl ?_
  refine o_blk (pc' := 9) (st' := [(.ref (ad Z ca r0))]) (ls' := #[.val (.ref (ad Z ca r0)), .val (.int (vi i1)), .val (.ref (ad Z ca q3.2)), .unset, .unset, .unset, .unset, .unset, .unset, .unset, .unset, .unset, .unset, .unset, .unset, .unset]) b22_8_9 rfl ?_
  obtain ⟨q4, hq4, hM⟩ := own_kgfr (i := 0) hM rfl
  refine p_getR (t := 0) (i := 0) (pc' := 12) R_q3 (by decide) (by decide) hq4 rfl rfl (own_word hw 11 rfl) d22_9 rfl ?_
  obtain ⟨q5, hq5, hM⟩ := own_kaln hM
  refine p_len (pc' := 13) R_q3 hq5 d22_12 rfl ?_
  obtain ⟨q6, hq6, hM⟩ := own_bdP hM
  refine p_newI (pc' := 15) R_q3 (own_word hw 0 rfl) hq6 d22_13 (by decide) (by decide) rfl ?_
  intro h_q6 R_q6
  refine o_blk (pc' := 16) (st' := []) (ls' := #[.val (.ref (ad Z ca r0)), .val (.int (vi i1)), .val (.ref (ad Z ca q3.2)), .val (.ref (ad Z ca q6.2)), .unset, .unset, .unset, .unset, .unset, .unset, .unset, .unset, .unset, .unset, .unset, .unset]) b22_15_16 rfl ?_
  refine o_blk (pc' := 17) (st' := [(.ref (ad Z ca r0))]) (ls' := #[.val (.ref (ad Z ca r0)), .val (.int (vi i1)), .val (.ref (ad Z ca q3.2)), .val (.ref (ad Z ca q6.2)), .unset, .unset, .unset, .unset, .unset, .unset, .unset, .unset, .unset, .unset, .unset, .unset]) b22_16_17 rfl ?_
  obtain ⟨q7, hq7, hM⟩ := own_kgfr (i := 0) hM rfl
  refine p_getR (t := 0) (i := 0) (pc' := 20) R_q6 (by decide) (by decide) hq7 rfl rfl (own_word hw 11 rfl) d22_17 rfl ?_
  obtain ⟨q8, hq8, hM⟩ := own_kaln hM
  refine p_len (pc' := 21) R_q6 hq8 d22_20 rfl ?_
  obtain ⟨q9, hq9, hM⟩ := own_bdP hM
  refine p_newI (pc' := 23) R_q6 (own_word hw 0 rfl) hq9 d22_21 (by decide) (by decide) rfl ?_
  intro h_q9 R_q9
  refine o_blk (pc' := 25) (st' := []) (ls' := #[.val (.ref (ad Z ca r0)), .val (.int (vi i1)), .val (.ref (ad Z ca q3.2)), .val (.ref (ad Z ca q6.2)), .val (.ref (ad Z ca q9.2)), .unset, .unset, .unset, .unset, .unset, .unset, .unset, .unset, .unset, .unset, .unset]) b22_23_25 rfl ?_
  refine o_blk (pc' := 26) (st' := [(.ref (ad Z ca r0))]) (ls' := #[.val (.ref (ad Z ca r0)), .val (.int (vi i1)), .val (.ref (ad Z ca q3.2)), .val (.ref (ad Z ca q6.2)), .val (.ref (ad Z ca q9.2)), .unset, .unset, .unset, .unset, .unset, .unset, .unset, .unset, .unset, .unset, .unset]) b22_25_26 rfl ?_
  obtain ⟨q10, hq10, hM⟩ := own_kgfr (i := 0) hM rfl
  refine p_getR (t := 0) (i := 0) (pc' := 29) R_q9 (by decide) (by decide) hq10 rfl rfl (own_word hw 11 rfl) d22_26 rfl ?_
  obtain ⟨q11, hq11, hM⟩ := own_kaln hM
  refine p_len (pc' := 30) R_q9 hq11 d22_29 rfl ?_
  obtain ⟨q12, hq12, hM⟩ := own_bdP hM
  refine p_newI (pc' := 32) R_q9 (own_word hw 0 rfl) hq12 d22_30 (by decide) (by decide) rfl ?_
  intro h_q12 R_q12
  refine o_blk (pc' := 34) (st' := []) (ls' := #[.val (.ref (ad Z ca r0)), .val (.int (vi i1)), .val (.ref (ad Z ca q3.2)), .val (.ref (ad Z ca q6.2)), .val (.ref (ad Z ca q9.2)), .val (.ref (ad Z ca q12.2)), .unset, .unset, .unset, .unset, .unset, .unset, .unset, .unset, .unset, .unset]) b22_32_34 rfl ?_
  obtain ⟨q13, hq13, hM⟩ := own_bdP hM
  refine p_new5 (pc' := 37) R_q12 (own_lay5 hw) rfl (own_word hw 48 rfl) (own_word hw 49 rfl) (own_word hw 50 rfl) hq13 d22_34 (by decide) (by decide) rfl ?_
  intro h_q13 R_q13
  refine o_blk (pc' := 38) (st' := [(.ref (ad Z ca q13.2)), (.ref (ad Z ca q13.2))]) (ls' := #[.val (.ref (ad Z ca r0)), .val (.int (vi i1)), .val (.ref (ad Z ca q3.2)), .val (.ref (ad Z ca q6.2)), .val (.ref (ad Z ca q9.2)), .val (.ref (ad Z ca q12.2)), .unset, .unset, .unset, .unset, .unset, .unset, .unset, .unset, .unset, .unset]) b22_37_38 rfl ?_
  obtain ⟨q14, hq14, hM⟩ := own_bdP hM
  refine o_callI (W := 1) (argsL := []) (rest := [(.ref (ad Z ca q13.2))]) (pc' := 41) rfl (own_word hw 51 rfl) (own_word hw 52 rfl) (own_word hw 53 rfl) (own_word hw 50 rfl) (by decide) (fun hE => rm_deq l Z a0 hw ca K q13.1 q13.2 q14 h_q13 hE R_q13 hq14) d22_38 pd_0 rfl rfl rfl (Nat.le_of_eq rfl) (by decide) (by decide) (by decide) (by decide) rfl ?_
  rintro _ h_q14 ⟨rfl, R_q14⟩ hs_q14
  refine o_blk (pc' := 43) (st' := []) (ls' := #[.val (.ref (ad Z ca r0)), .val (.int (vi i1)), .val (.ref (ad Z ca q3.2)), .val (.ref (ad Z ca q6.2)), .val (.ref (ad Z ca q9.2)), .val (.ref (ad Z ca q12.2)), .val (.ref (ad Z ca q13.2)), .unset, .unset, .unset, .unset, .unset, .unset, .unset, .unset, .unset]) b22_41_43 rfl ?_
  refine o_blk (pc' := 46) (st' := [(.int (vi 3)), (.ref (ad Z ca q13.2))]) (ls' := #[.val (.ref (ad Z ca r0)), .val (.int (vi i1)), .val (.ref (ad Z ca q3.2)), .val (.ref (ad Z ca q6.2)), .val (.ref (ad Z ca q9.2)), .val (.ref (ad Z ca q12.2)), .val (.ref (ad Z ca q13.2)), .unset, .unset, .unset, .unset, .unset, .unset, .unset, .unset, .unset]) b22_43_46 rfl ?_
  obtain ⟨q15, hq15, hM⟩ := own_bdP hM
  refine p_newI (pc' := 48) R_q14 (own_word hw 0 rfl) hq15 d22_46 (by decide) (by decide) rfl ?_
  intro h_q15 R_q15
  refine o_blk (pc' := 51) (st' := [(.int (vi i1)), (.int (vi 1)), (.ref (ad Z ca q15.2)), (.ref (ad Z ca q15.2)), (.ref (ad Z ca q13.2))]) (ls' := #[.val (.ref (ad Z ca r0)), .val (.int (vi i1)), .val (.ref (ad Z ca q3.2)), .val (.ref (ad Z ca q6.2)), .val (.ref (ad Z ca q9.2)), .val (.ref (ad Z ca q12.2)), .val (.ref (ad Z ca q13.2)), .unset, .unset, .unset, .unset, .unset, .unset, .unset, .unset, .unset]) b22_48_51 rfl ?_
  obtain ⟨q16, hq16, hM⟩ := own_kist hM
  refine p_iast (pc' := 52) R_q15 hq16 d22_51 rfl ?_
  intro h_q16 R_q16
  refine o_blk (pc' := 55) (st' := [(.int (vi 0)), (.int (vi 2)), (.ref (ad Z ca q15.2)), (.ref (ad Z ca q15.2)), (.ref (ad Z ca q13.2))]) (ls' := #[.val (.ref (ad Z ca r0)), .val (.int (vi i1)), .val (.ref (ad Z ca q3.2)), .val (.ref (ad Z ca q6.2)), .val (.ref (ad Z ca q9.2)), .val (.ref (ad Z ca q12.2)), .val (.ref (ad Z ca q13.2)), .unset, .unset, .unset, .unset, .unset, .unset, .unset, .unset, .unset]) b22_52_55 rfl ?_
  obtain ⟨q17, hq17, hM⟩ := own_kist hM
  refine p_iast (pc' := 56) R_q16 hq17 d22_55 rfl ?_
  intro h_q17 R_q17
  obtain ⟨hb18, hM⟩ := own_kisA hM
  obtain ⟨q19, hq19, hM⟩ := own_bdP hM
  refine o_callF (W := 0) (argsL := [(.ref (ad Z ca q15.2))]) (rest := []) (pc' := 61) (own_word hw 72 rfl) (own_word hw 73 rfl) (own_word hw 74 rfl) rfl (own_word hw 75 rfl) (own_word hw 76 rfl) (own_word hw 77 rfl) (own_word hw 78 rfl) (own_word hw 79 rfl) (own_word hw 80 rfl) (own_word hw 50 rfl) (by decide) (R_q17.exa (t := 1) hb18) (fun hE => rm_push l Z a0 hw ca K q17 q13.2 q15.2 q19 h_q17 hE R_q17 hq19) d22_56 pd_2 rfl rfl rfl (Nat.le_of_eq rfl) (by decide) (by decide) (by decide) (by decide) rfl ?_
  rintro _ h_q19 ⟨rfl, R_q19⟩ hs_q19
  refine o_blk (pc' := 64) (st' := []) (ls' := #[.val (.ref (ad Z ca r0)), .val (.int (vi i1)), .val (.ref (ad Z ca q3.2)), .val (.ref (ad Z ca q6.2)), .val (.ref (ad Z ca q9.2)), .val (.ref (ad Z ca q12.2)), .val (.ref (ad Z ca q13.2)), .val (.int (vi 0)), .unset, .unset, .unset, .unset, .unset, .unset, .unset, .unset]) b22_61_64 rfl ?_
  exact (LP 400).1 _ _ 0 (by omega) (7) (60) (by omega) (by omega) _ _ _ _ _ _ _ Pl.u _ Pl.u _ Pl.u _ Pl.u _ Pl.u _ Pl.u _ Pl.u _ Pl.u R_q19 hM
def B_ini_55 (r0 : Nat) (r1 : Nat) (rec : Nat → Nat → Nat → Option (Nat × Nat)) (H : Nat) (i2 : Nat) : Option (Nat × Nat) :=
  kilo 0 H r1 i2 fun q1 => plt q1 1 ( kisA 4 H r0 ( bdP (M_num H r0 i2) fun q5a q5b => kisA 4 q5a r0 ( bdP (M_dcp q5a r0 i2) fun q7a q7b => kpf 4 96 q7a r0 q7b fun q8 => some (q8, 0) ) ) ) ( rec 55 H (Nat.add i2 1) )
def L_ini (r0 : Nat) (r1 : Nat) (n : Nat) : Nat → Nat → Nat → Option (Nat × Nat) := Nat.rec (motive := fun _ => Nat → Nat → Nat → Option (Nat × Nat)) (fun _ _ _ => none) (fun _ ih => fun hd => br (Nat.beq hd 55) (B_ini_55 r0 r1 ih) (fun _ _ => none)) n
def M_ini (H : Nat) (r0 : Nat) (r1 : Nat) : Option (Nat × Nat) :=
  kpfr 4 24 H r0 r1 fun q1 => bdP (M_chi q1 r1) fun q2a q2b => kpfr 4 36 q2a r0 q2b fun q3 => kgfr 4 36 q3 r0 fun q4 => bdP (M_nei q3 r1 q4) fun q5a q5b => kpfr 4 48 q5a r0 q5b fun q6 => kaln q6 r1 fun q7 => bdP (pnewI 0 q6 q7) fun q8a q8b => kpfr 4 60 q8a r0 q8b fun q9 => kaln q9 r1 fun q10 => bdP (pnewI 0 q9 q10) fun q11a q11b => kpfr 4 72 q11a r0 q11b fun q12 => kaln q12 r1 fun q13 => bdP (pnewI 0 q12 q13) fun q14a q14b => kpfr 4 84 q14a r0 q14b fun q15 => L_ini r0 r1 12 55 q15 1
set_option maxRecDepth 65536 in
set_option maxHeartbeats 40000000 in
theorem rm_ini (l : Launch) (Z : State) (a0 : Array Value) (hw : ∀ d ∈ tables_1, d.before a0 Z = true) (ca : Nat → Addr) (K : OKa Z ca) (H : Nat) (r0 : Nat) (r1 : Nat) (res : Nat × Nat) (h0 : Heap) (hE0 : Ext Z.heap h0) (R0 : RepP Z ca h0 H)  (hM : M_ini H r0 r1 = some res) :
    OCtr l Z (⟨"com/example/mild_horn/mildhorn/translation/Centroids", "<init>", "([I)V"⟩ : MethodName) prog_40_method_1_code 3 none ({ frames := 5, cells := 40, slots := 328, locals := 82 } : Room) #[(.ref (ad Z ca r0)), (.ref (ad Z ca r1))] h0 (fun v h => v = none ∧ RepP Z ca h res.1) := by
  refine o_bodyS (ls0 := #[.val (.ref (ad Z ca r0)), .val (.ref (ad Z ca r1)), .unset]) (plainFor_of_name pn_4) hE0 (fun m => by first | (simp [entryFrame, mkF, argsToLocals, Value.category]; done) | rfl) ?_
  intro pG eG sG mG bG meG cG hS0
  have LP : ∀ f : Nat, (∀ (h : Heap) (H : Nat) (i2 : Nat)  (R : RepP Z ca h H) (hM : L_ini r0 r1 f 55 H i2 = some res), OG pG l eG ({ frames := 5, cells := 40, slots := 328, locals := 82 } : Room) sG mG #[(.ref (ad Z ca r0)), (.ref (ad Z ca r1))] bG meG cG Z (⟨"com/example/mild_horn/mildhorn/translation/Centroids", "<init>", "([I)V"⟩ : MethodName).cls (⟨"com/example/mild_horn/mildhorn/translation/Centroids", "<init>", "([I)V"⟩ : MethodName).name prog_40_method_1_code 3 none (fun v h => v = none ∧ RepP Z ca h res.1) ({ frames := 5, cells := 40, slots := 328, locals := 82 } : Room).cells ({ frames := 5, cells := 40, slots := 328, locals := 82 } : Room).slots h 22 176 (mkF mG 55 #[.val (.ref (ad Z ca r0)), .val (.ref (ad Z ca r1)), .val (.int (vi i2))] [])) := by
    intro f
    induction f with
    | zero =>
      skip
      · intro h H i2  R hM
        first | exact nomatch hM | (simp [L_ini] at hM; done)
    | succ f ih =>
      have ih_55 := ih
      skip
      · intro h H i2  R hM
        have hM : B_ini_55 r0 r1 (L_ini r0 r1 f) H i2 = some res := hM
        unfold B_ini_55 at hM
        refine o_blk (pc' := 57) (st' := [(.int (vi i2)), (.ref (ad Z ca r1))]) (ls' := #[.val (.ref (ad Z ca r0)), .val (.ref (ad Z ca r1)), .val (.int (vi i2))]) b1_55_57 rfl ?_
        obtain ⟨q1, hq1, hM⟩ := own_kilo hM
        refine p_iald (pc' := 58) R hq1 d1_57 rfl ?_
        obtain ⟨hb2, hM⟩ := own_plt hM
        refine o_if (pc' := 67) (pc'' := 61) d1_58 (by decide) (by decide) rfl (fun (hc58_3 : (vi q1) < (vi 1)) => ?_) (fun (hc58_3 : ¬ (vi q1) < (vi 1)) => ?_)
        ·
          replace hM := own_condT ((vi_lt hb2).1 hc58_3) hM
          refine o_blk (pc' := 69) (st' := [(.int (vi i2)), (.ref (ad Z ca r0))]) (ls' := #[.val (.ref (ad Z ca r0)), .val (.ref (ad Z ca r1)), .val (.int (vi i2))]) b1_67_69 rfl ?_
          obtain ⟨hb4, hM⟩ := own_kisA hM
          obtain ⟨q5, hq5, hM⟩ := own_bdP hM
          refine o_callP (W := 0) (argsL := [(.int (vi i2))]) (rest := []) (pc' := 72) (own_word hw 44 rfl) (own_word hw 45 rfl) (own_word hw 46 rfl) (own_word hw 3 rfl) (own_word hw 47 rfl) (own_word hw 4 rfl) (by decide) (R.exa (t := 0) hb4) (fun hE => rm_num l Z a0 hw ca K H r0 i2 q5 h hE R hq5) d1_69 pd_13 rfl rfl rfl (Nat.le_of_eq rfl) (by decide) (by decide) (by decide) (by decide) rfl ?_
          rintro _ h_q5 ⟨rfl, R_q5⟩ hs_q5
          refine o_blk (pc' := 75) (st' := [(.int (vi i2)), (.ref (ad Z ca r0)), (.ref (ad Z ca r0))]) (ls' := #[.val (.ref (ad Z ca r0)), .val (.ref (ad Z ca r1)), .val (.int (vi i2))]) b1_72_75 rfl ?_
          obtain ⟨hb6, hM⟩ := own_kisA hM
          obtain ⟨q7, hq7, hM⟩ := own_bdP hM
          refine o_callP (W := 1) (argsL := [(.int (vi i2))]) (rest := [(.ref (ad Z ca r0))]) (pc' := 78) (own_word hw 138 rfl) (own_word hw 139 rfl) (own_word hw 140 rfl) (own_word hw 3 rfl) (own_word hw 141 rfl) (own_word hw 4 rfl) (by decide) (R_q5.exa (t := 0) hb6) (fun hE => rm_dcp l Z a0 hw ca K q5.1 r0 i2 q7 h_q5 hE R_q5 hq7) d1_75 pd_14 rfl rfl rfl (Nat.le_of_eq rfl) (by decide) (by decide) (by decide) (by decide) rfl ?_
          rintro _ h_q7 ⟨rfl, R_q7⟩ hs_q7
          obtain ⟨q8, hq8, hM⟩ := own_kpfi (i := 0) hM rfl
          refine p_putI (t := 0) (i := 0) (pc' := 81) R_q7 (own_lay4 hw) (by decide) (by decide) hq8 rfl rfl (own_word hw 152 rfl) (Or.inr ⟨(own_word hw 153 rfl), rfl, rfl⟩) (own_word hw 3 rfl) d1_78 rfl ?_
          intro h_q8 R_q8
          cases hM
          exact o_retV d1_81 (by decide) (by decide) rfl ⟨rfl, R_q8⟩
        ·
          replace hM := own_condF ((vi_lt hb2).2 hc58_3) hM
          refine o_blk (pc' := 64) (st' := []) (ls' := #[.val (.ref (ad Z ca r0)), .val (.ref (ad Z ca r1)), .val (.int ((vi i2) + (vi 2)))]) b1_61_64 rfl ?_
          rw [vi_inc i2]
          refine o_goto (pc' := 55) d1_64 (by decide) (by decide) ?_
          exact ih_55 _ _ _  R hM
  unfold M_ini at hM
  refine o_blk (pc' := 1) (st' := [(.ref (ad Z ca r0))]) (ls' := #[.val (.ref (ad Z ca r0)), .val (.ref (ad Z ca r1)), .unset]) b1_0_1 rfl ?_
  refine o_initO (W := 0) (pc' := 4) (own_word hw 8 rfl) (own_word hw 9 rfl) (own_word hw 10 rfl) d1_1 rfl (Nat.le_of_eq rfl) (by decide) (by decide) rfl ?_
  refine o_blk (pc' := 6) (st' := [(.ref (ad Z ca r1)), (.ref (ad Z ca r0))]) (ls' := #[.val (.ref (ad Z ca r0)), .val (.ref (ad Z ca r1)), .unset]) b1_4_6 rfl ?_
  obtain ⟨q1, hq1, hM⟩ := own_kpfr (i := 0) hM rfl
  refine p_putR (t := 0) (i := 0) (pc' := 9) R0 (own_lay4 hw) (by decide) (by decide) hq1 rfl rfl (own_word hw 11 rfl) (Or.inr ⟨(own_word hw 12 rfl), rfl, rfl⟩) (own_word hw 3 rfl) d1_6 rfl ?_
  intro h_q1 R_q1
  refine o_blk (pc' := 11) (st' := [(.ref (ad Z ca r1)), (.ref (ad Z ca r0))]) (ls' := #[.val (.ref (ad Z ca r0)), .val (.ref (ad Z ca r1)), .unset]) b1_9_11 rfl ?_
  obtain ⟨q2, hq2, hM⟩ := own_bdP hM
  refine o_callS (W := 1) (argsL := [(.ref (ad Z ca r1))]) (rest := [(.ref (ad Z ca r0))]) (pc' := 14) (own_word hw 13 rfl) (own_word hw 14 rfl) (own_word hw 4 rfl) (own_word hw 15 rfl) (by decide) (fun hE => rm_chi l Z a0 hw ca K q1 r1 q2 h_q1 hE R_q1 hq2) d1_11 pd_11 rfl rfl rfl (Nat.le_of_eq rfl) (by decide) (by decide) (by decide) (by decide) rfl ?_
  rintro _ h_q2 ⟨rfl, R_q2⟩ hs_q2
  obtain ⟨q3, hq3, hM⟩ := own_kpfr (i := 1) hM rfl
  refine p_putR (t := 0) (i := 1) (pc' := 17) R_q2 (own_lay4 hw) (by decide) (by decide) hq3 rfl rfl (own_word hw 19 rfl) (Or.inr ⟨(own_word hw 20 rfl), rfl, rfl⟩) (own_word hw 3 rfl) d1_14 rfl ?_
  intro h_q3 R_q3
  refine o_blk (pc' := 20) (st' := [(.ref (ad Z ca r0)), (.ref (ad Z ca r1)), (.ref (ad Z ca r0))]) (ls' := #[.val (.ref (ad Z ca r0)), .val (.ref (ad Z ca r1)), .unset]) b1_17_20 rfl ?_
  obtain ⟨q4, hq4, hM⟩ := own_kgfr (i := 1) hM rfl
  refine p_getR (t := 0) (i := 1) (pc' := 23) R_q3 (by decide) (by decide) hq4 rfl rfl (own_word hw 19 rfl) d1_20 rfl ?_
  obtain ⟨q5, hq5, hM⟩ := own_bdP hM
  refine o_callS (W := 1) (argsL := [(.ref (ad Z ca r1)), (.ref (ad Z ca q4))]) (rest := [(.ref (ad Z ca r0))]) (pc' := 26) (own_word hw 21 rfl) (own_word hw 22 rfl) (own_word hw 4 rfl) (own_word hw 23 rfl) (by decide) (fun hE => rm_nei l Z a0 hw ca K q3 r1 q4 q5 h_q3 hE R_q3 hq5) d1_23 pd_12 rfl rfl rfl (Nat.le_of_eq rfl) (by decide) (by decide) (by decide) (by decide) rfl ?_
  rintro _ h_q5 ⟨rfl, R_q5⟩ hs_q5
  obtain ⟨q6, hq6, hM⟩ := own_kpfr (i := 2) hM rfl
  refine p_putR (t := 0) (i := 2) (pc' := 29) R_q5 (own_lay4 hw) (by decide) (by decide) hq6 rfl rfl (own_word hw 36 rfl) (Or.inr ⟨(own_word hw 37 rfl), rfl, rfl⟩) (own_word hw 3 rfl) d1_26 rfl ?_
  intro h_q6 R_q6
  refine o_blk (pc' := 31) (st' := [(.ref (ad Z ca r1)), (.ref (ad Z ca r0))]) (ls' := #[.val (.ref (ad Z ca r0)), .val (.ref (ad Z ca r1)), .unset]) b1_29_31 rfl ?_
  obtain ⟨q7, hq7, hM⟩ := own_kaln hM
  refine p_len (pc' := 32) R_q6 hq7 d1_31 rfl ?_
  obtain ⟨q8, hq8, hM⟩ := own_bdP hM
  refine p_newI (pc' := 34) R_q6 (own_word hw 0 rfl) hq8 d1_32 (by decide) (by decide) rfl ?_
  intro h_q8 R_q8
  obtain ⟨q9, hq9, hM⟩ := own_kpfr (i := 3) hM rfl
  refine p_putR (t := 0) (i := 3) (pc' := 37) R_q8 (own_lay4 hw) (by decide) (by decide) hq9 rfl rfl (own_word hw 38 rfl) (Or.inr ⟨(own_word hw 39 rfl), rfl, rfl⟩) (own_word hw 3 rfl) d1_34 rfl ?_
  intro h_q9 R_q9
  refine o_blk (pc' := 39) (st' := [(.ref (ad Z ca r1)), (.ref (ad Z ca r0))]) (ls' := #[.val (.ref (ad Z ca r0)), .val (.ref (ad Z ca r1)), .unset]) b1_37_39 rfl ?_
  obtain ⟨q10, hq10, hM⟩ := own_kaln hM
  refine p_len (pc' := 40) R_q9 hq10 d1_39 rfl ?_
  obtain ⟨q11, hq11, hM⟩ := own_bdP hM
  refine p_newI (pc' := 42) R_q9 (own_word hw 0 rfl) hq11 d1_40 (by decide) (by decide) rfl ?_
  intro h_q11 R_q11
  obtain ⟨q12, hq12, hM⟩ := own_kpfr (i := 4) hM rfl
  refine p_putR (t := 0) (i := 4) (pc' := 45) R_q11 (own_lay4 hw) (by decide) (by decide) hq12 rfl rfl (own_word hw 40 rfl) (Or.inr ⟨(own_word hw 41 rfl), rfl, rfl⟩) (own_word hw 3 rfl) d1_42 rfl ?_
  intro h_q12 R_q12
  refine o_blk (pc' := 47) (st' := [(.ref (ad Z ca r1)), (.ref (ad Z ca r0))]) (ls' := #[.val (.ref (ad Z ca r0)), .val (.ref (ad Z ca r1)), .unset]) b1_45_47 rfl ?_
  obtain ⟨q13, hq13, hM⟩ := own_kaln hM
  refine p_len (pc' := 48) R_q12 hq13 d1_47 rfl ?_
  obtain ⟨q14, hq14, hM⟩ := own_bdP hM
  refine p_newI (pc' := 50) R_q12 (own_word hw 0 rfl) hq14 d1_48 (by decide) (by decide) rfl ?_
  intro h_q14 R_q14
  obtain ⟨q15, hq15, hM⟩ := own_kpfr (i := 5) hM rfl
  refine p_putR (t := 0) (i := 5) (pc' := 53) R_q14 (own_lay4 hw) (by decide) (by decide) hq15 rfl rfl (own_word hw 42 rfl) (Or.inr ⟨(own_word hw 43 rfl), rfl, rfl⟩) (own_word hw 3 rfl) d1_50 rfl ?_
  intro h_q15 R_q15
  refine o_blk (pc' := 55) (st' := []) (ls' := #[.val (.ref (ad Z ca r0)), .val (.ref (ad Z ca r1)), .val (.int (vi 1))]) b1_53_55 rfl ?_
  exact (LP 12) _ _ _  R_q15 hM
def B_tow_48 (r0 : Nat) (i1 : Nat) (i2 : Nat) (r3 : Nat) (rec : Nat → Nat → Nat → Nat → Option (Nat × Nat)) (H : Nat) (i4 : Nat) (i5 : Nat) : Option (Nat × Nat) :=
  plt i4 i5 ( kad i4 i5 fun q4 => khf (Nat.add q4 1) fun q5 => kgfr 4 60 H r0 fun q6 => kilo 0 H r3 q5 fun q7 => kilo 0 H q6 q7 fun q8 => kilo 0 H q6 i2 fun q9 => plt q9 q8 ( kdc q5 fun q12 => rec 48 H i4 q12 ) ( rec 48 H q5 i5 ) ) ( kilo 0 H r3 i4 fun q3 => some (H, q3) )
def L_tow (r0 : Nat) (i1 : Nat) (i2 : Nat) (r3 : Nat) (n : Nat) : Nat → Nat → Nat → Nat → Option (Nat × Nat) := Nat.rec (motive := fun _ => Nat → Nat → Nat → Nat → Option (Nat × Nat)) (fun _ _ _ _ => none) (fun _ ih => fun hd => br (Nat.beq hd 48) (B_tow_48 r0 i1 i2 r3 ih) (fun _ _ _ => none)) n
def M_tow (H : Nat) (r0 : Nat) (i1 : Nat) (i2 : Nat) : Option (Nat × Nat) :=
  kgfr 4 60 H r0 fun q1 => kilo 0 H q1 i2 fun q2 => kilo 0 H q1 i1 fun q3 => plt q3 q2 ( kgfr 4 72 H r0 fun q6 => kilo 0 H q6 i1 fun q7 => plt q7 q2 ( some (H, i1) ) ( kgfr 4 36 H r0 fun q10 => krlo H q10 i1 fun q11 => kaln H q11 fun q12 => kdc q12 fun q13 => L_tow r0 i1 i2 q11 20 48 H 1 q13 ) ) ( some (H, i1) )
set_option maxRecDepth 65536 in
set_option maxHeartbeats 40000000 in
theorem rm_tow (l : Launch) (Z : State) (a0 : Array Value) (hw : ∀ d ∈ tables_1, d.before a0 Z = true) (ca : Nat → Addr) (K : OKa Z ca) (H : Nat) (r0 : Nat) (i1 : Nat) (i2 : Nat) (res : Nat × Nat) (h0 : Heap) (hE0 : Ext Z.heap h0) (R0 : RepP Z ca h0 H)  (hM : M_tow H r0 i1 i2 = some res) :
    OCtr l Z (⟨"com/example/mild_horn/mildhorn/translation/Centroids", "toward", "(II)I"⟩ : MethodName) prog_40_method_4_code 7 (some .int) ({ frames := 0, cells := 0, slots := 0, locals := 0 } : Room) #[(.ref (ad Z ca r0)), (.int (vi i1)), (.int (vi i2))] h0 (fun v h => v = some (.int (vi res.2)) ∧ RepP Z ca h res.1) := by
  refine o_bodyS (ls0 := #[.val (.ref (ad Z ca r0)), .val (.int (vi i1)), .val (.int (vi i2)), .unset, .unset, .unset, .unset]) (plainFor_of_name pn_4) hE0 (fun m => by first | (simp [entryFrame, mkF, argsToLocals, Value.category]; done) | rfl) ?_
  intro pG eG sG mG bG meG cG hS0
  have LP : ∀ f : Nat, (∀ (h : Heap) (H : Nat) (r3 : Nat) (i4 : Nat) (i5 : Nat) (x6 : Slot) (p6 : Pl x6) (R : RepP Z ca h H) (hM : L_tow r0 i1 i2 r3 f 48 H i4 i5 = some res), OG pG l eG ({ frames := 0, cells := 0, slots := 0, locals := 0 } : Room) sG mG #[(.ref (ad Z ca r0)), (.int (vi i1)), (.int (vi i2))] bG meG cG Z (⟨"com/example/mild_horn/mildhorn/translation/Centroids", "toward", "(II)I"⟩ : MethodName).cls (⟨"com/example/mild_horn/mildhorn/translation/Centroids", "toward", "(II)I"⟩ : MethodName).name prog_40_method_4_code 7 (some .int) (fun v h => v = some (.int (vi res.2)) ∧ RepP Z ca h res.1) ({ frames := 0, cells := 0, slots := 0, locals := 0 } : Room).cells ({ frames := 0, cells := 0, slots := 0, locals := 0 } : Room).slots h 0 0 (mkF mG 48 #[.val (.ref (ad Z ca r0)), .val (.int (vi i1)), .val (.int (vi i2)), .val (.ref (ad Z ca r3)), .val (.int (vi i4)), .val (.int (vi i5)), x6] [])) := by
    intro f
    induction f with
    | zero =>
      skip
      · intro h H r3 i4 i5 x6 p6 R hM
        first | exact nomatch hM | (simp [L_tow] at hM; done)
    | succ f ih =>
      have ih_48 := ih
      skip
      · intro h H r3 i4 i5 x6 p6 R hM
        have hM : B_tow_48 r0 i1 i2 r3 (L_tow r0 i1 i2 r3 f) H i4 i5 = some res := hM
        unfold B_tow_48 at hM
        refine o_blk (pc' := 52) (st' := [(.int (vi i5)), (.int (vi i4))]) (ls' := #[.val (.ref (ad Z ca r0)), .val (.int (vi i1)), .val (.int (vi i2)), .val (.ref (ad Z ca r3)), .val (.int (vi i4)), .val (.int (vi i5)), x6]) b26_48_52 rfl ?_
        obtain ⟨hb1, hM⟩ := own_plt hM
        refine o_ic (pc' := 100) (pc'' := 55) d26_52 (by decide) (by decide) rfl (fun (hc52_2 : ¬ (vi i4) < (vi i5)) => ?_) (fun (hc52_2 : (vi i4) < (vi i5)) => ?_)
        ·
          replace hM := own_condF ((vi_lt hb1).2 hc52_2) hM
          refine o_blk (pc' := 103) (st' := [(.int (vi i4)), (.ref (ad Z ca r3))]) (ls' := #[.val (.ref (ad Z ca r0)), .val (.int (vi i1)), .val (.int (vi i2)), .val (.ref (ad Z ca r3)), .val (.int (vi i4)), .val (.int (vi i5)), x6]) b26_100_103 rfl ?_
          obtain ⟨q3, hq3, hM⟩ := own_kilo hM
          refine p_iald (pc' := 104) R hq3 d26_103 rfl ?_
          cases hM
          exact o_retI d26_104 (by decide) (by decide) rfl ⟨rfl, R⟩
        ·
          replace hM := own_condT ((vi_lt hb1).1 hc52_2) hM
          refine o_blk (pc' := 59) (st' := [(.int (vi i5)), (.int (vi i4))]) (ls' := #[.val (.ref (ad Z ca r0)), .val (.int (vi i1)), .val (.int (vi i2)), .val (.ref (ad Z ca r3)), .val (.int (vi i4)), .val (.int (vi i5)), x6]) b26_55_59 rfl ?_
          obtain ⟨q4, hq4, hM⟩ := own_kad hM
          refine o_blk (pc' := 60) (st' := [(.int ((vi i4) + (vi i5)))]) (ls' := #[.val (.ref (ad Z ca r0)), .val (.int (vi i1)), .val (.int (vi i2)), .val (.ref (ad Z ca r3)), .val (.int (vi i4)), .val (.int (vi i5)), x6]) b26_59_60 rfl ?_
          rw [hq4]
          refine o_blk (pc' := 61) (st' := [(.int (vi 2)), (.int (vi q4))]) (ls' := #[.val (.ref (ad Z ca r0)), .val (.int (vi i1)), .val (.int (vi i2)), .val (.ref (ad Z ca r3)), .val (.int (vi i4)), .val (.int (vi i5)), x6]) b26_60_61 rfl ?_
          refine o_blk (pc' := 62) (st' := [(.int ((vi q4) + (vi 2)))]) (ls' := #[.val (.ref (ad Z ca r0)), .val (.int (vi i1)), .val (.int (vi i2)), .val (.ref (ad Z ca r3)), .val (.int (vi i4)), .val (.int (vi i5)), x6]) b26_61_62 rfl ?_
          rw [vi_inc q4]
          refine o_blk (pc' := 63) (st' := [(.int (vi 2)), (.int (vi (Nat.add q4 1)))]) (ls' := #[.val (.ref (ad Z ca r0)), .val (.int (vi i1)), .val (.int (vi i2)), .val (.ref (ad Z ca r3)), .val (.int (vi i4)), .val (.int (vi i5)), x6]) b26_62_63 rfl ?_
          obtain ⟨q5, hq5, hM⟩ := own_kus hM
          refine o_blk (pc' := 64) (st' := [(.int (XT.ushr (vi (Nat.add q4 1)) (vi 2)))]) (ls' := #[.val (.ref (ad Z ca r0)), .val (.int (vi i1)), .val (.int (vi i2)), .val (.ref (ad Z ca r3)), .val (.int (vi i4)), .val (.int (vi i5)), x6]) b26_63_64 rfl ?_
          rw [hq5]
          refine o_stP (pc' := 66) (st' := []) (ls' := #[.val (.ref (ad Z ca r0)), .val (.int (vi i1)), .val (.int (vi i2)), .val (.ref (ad Z ca r3)), .val (.int (vi i4)), .val (.int (vi i5)), .val (.int (vi q5))]) d26_64 rfl rfl (own_stI (x := x6) rfl p6) ?_
          refine o_blk (pc' := 67) (st' := [(.ref (ad Z ca r0))]) (ls' := #[.val (.ref (ad Z ca r0)), .val (.int (vi i1)), .val (.int (vi i2)), .val (.ref (ad Z ca r3)), .val (.int (vi i4)), .val (.int (vi i5)), .val (.int (vi q5))]) b26_66_67 rfl ?_
          obtain ⟨q6, hq6, hM⟩ := own_kgfr (i := 3) hM rfl
          refine p_getR (t := 0) (i := 3) (pc' := 70) R (by decide) (by decide) hq6 rfl rfl (own_word hw 38 rfl) d26_67 rfl ?_
          refine o_blk (pc' := 73) (st' := [(.int (vi q5)), (.ref (ad Z ca r3)), (.ref (ad Z ca q6))]) (ls' := #[.val (.ref (ad Z ca r0)), .val (.int (vi i1)), .val (.int (vi i2)), .val (.ref (ad Z ca r3)), .val (.int (vi i4)), .val (.int (vi i5)), .val (.int (vi q5))]) b26_70_73 rfl ?_
          obtain ⟨q7, hq7, hM⟩ := own_kilo hM
          refine p_iald (pc' := 74) R hq7 d26_73 rfl ?_
          obtain ⟨q8, hq8, hM⟩ := own_kilo hM
          refine p_iald (pc' := 75) R hq8 d26_74 rfl ?_
          refine o_blk (pc' := 76) (st' := [(.ref (ad Z ca r0)), (.int (vi q8))]) (ls' := #[.val (.ref (ad Z ca r0)), .val (.int (vi i1)), .val (.int (vi i2)), .val (.ref (ad Z ca r3)), .val (.int (vi i4)), .val (.int (vi i5)), .val (.int (vi q5))]) b26_75_76 rfl ?_
          refine p_getR (t := 0) (i := 3) (pc' := 79) R (by decide) (by decide) hq6 rfl rfl (own_word hw 38 rfl) d26_76 rfl ?_
          refine o_blk (pc' := 80) (st' := [(.int (vi i2)), (.ref (ad Z ca q6)), (.int (vi q8))]) (ls' := #[.val (.ref (ad Z ca r0)), .val (.int (vi i1)), .val (.int (vi i2)), .val (.ref (ad Z ca r3)), .val (.int (vi i4)), .val (.int (vi i5)), .val (.int (vi q5))]) b26_79_80 rfl ?_
          obtain ⟨q9, hq9, hM⟩ := own_kilo hM
          refine p_iald (pc' := 81) R hq9 d26_80 rfl ?_
          obtain ⟨hb10, hM⟩ := own_plt hM
          refine o_ic (pc' := 91) (pc'' := 84) d26_81 (by decide) (by decide) rfl (fun (hc81_11 : (vi q9) < (vi q8)) => ?_) (fun (hc81_11 : ¬ (vi q9) < (vi q8)) => ?_)
          ·
            replace hM := own_condT ((vi_lt hb10).1 hc81_11) hM
            refine o_blk (pc' := 94) (st' := [(.int (vi 2)), (.int (vi q5))]) (ls' := #[.val (.ref (ad Z ca r0)), .val (.int (vi i1)), .val (.int (vi i2)), .val (.ref (ad Z ca r3)), .val (.int (vi i4)), .val (.int (vi i5)), .val (.int (vi q5))]) b26_91_94 rfl ?_
            obtain ⟨q12, hq12, hM⟩ := own_kdc hM
            refine o_blk (pc' := 95) (st' := [(.int ((vi q5) - (vi 2)))]) (ls' := #[.val (.ref (ad Z ca r0)), .val (.int (vi i1)), .val (.int (vi i2)), .val (.ref (ad Z ca r3)), .val (.int (vi i4)), .val (.int (vi i5)), .val (.int (vi q5))]) b26_94_95 rfl ?_
            rw [hq12]
            refine o_blk (pc' := 97) (st' := []) (ls' := #[.val (.ref (ad Z ca r0)), .val (.int (vi i1)), .val (.int (vi i2)), .val (.ref (ad Z ca r3)), .val (.int (vi i4)), .val (.int (vi q12)), .val (.int (vi q5))]) b26_95_97 rfl ?_
            refine o_goto (pc' := 48) d26_97 (by decide) (by decide) ?_
            exact ih_48 _ _ _ _ _ _ (Pl.i _) R hM
          ·
            replace hM := own_condF ((vi_lt hb10).2 hc81_11) hM
            refine o_blk (pc' := 88) (st' := []) (ls' := #[.val (.ref (ad Z ca r0)), .val (.int (vi i1)), .val (.int (vi i2)), .val (.ref (ad Z ca r3)), .val (.int (vi q5)), .val (.int (vi i5)), .val (.int (vi q5))]) b26_84_88 rfl ?_
            refine o_goto (pc' := 97) d26_88 (by decide) (by decide) ?_
            refine o_goto (pc' := 48) d26_97 (by decide) (by decide) ?_
            exact ih_48 _ _ _ _ _ _ (Pl.i _) R hM
  unfold M_tow at hM
  refine o_blk (pc' := 1) (st' := [(.ref (ad Z ca r0))]) (ls' := #[.val (.ref (ad Z ca r0)), .val (.int (vi i1)), .val (.int (vi i2)), .unset, .unset, .unset, .unset]) b26_0_1 rfl ?_
  obtain ⟨q1, hq1, hM⟩ := own_kgfr (i := 3) hM rfl
  refine p_getR (t := 0) (i := 3) (pc' := 4) R0 (by decide) (by decide) hq1 rfl rfl (own_word hw 38 rfl) d26_1 rfl ?_
  refine o_blk (pc' := 5) (st' := [(.int (vi i2)), (.ref (ad Z ca q1))]) (ls' := #[.val (.ref (ad Z ca r0)), .val (.int (vi i1)), .val (.int (vi i2)), .unset, .unset, .unset, .unset]) b26_4_5 rfl ?_
  obtain ⟨q2, hq2, hM⟩ := own_kilo hM
  refine p_iald (pc' := 6) R0 hq2 d26_5 rfl ?_
  refine o_blk (pc' := 7) (st' := [(.ref (ad Z ca r0)), (.int (vi q2))]) (ls' := #[.val (.ref (ad Z ca r0)), .val (.int (vi i1)), .val (.int (vi i2)), .unset, .unset, .unset, .unset]) b26_6_7 rfl ?_
  refine p_getR (t := 0) (i := 3) (pc' := 10) R0 (by decide) (by decide) hq1 rfl rfl (own_word hw 38 rfl) d26_7 rfl ?_
  refine o_blk (pc' := 11) (st' := [(.int (vi i1)), (.ref (ad Z ca q1)), (.int (vi q2))]) (ls' := #[.val (.ref (ad Z ca r0)), .val (.int (vi i1)), .val (.int (vi i2)), .unset, .unset, .unset, .unset]) b26_10_11 rfl ?_
  obtain ⟨q3, hq3, hM⟩ := own_kilo hM
  refine p_iald (pc' := 12) R0 hq3 d26_11 rfl ?_
  obtain ⟨hb4, hM⟩ := own_plt hM
  refine o_ic (pc' := 30) (pc'' := 15) d26_12 (by decide) (by decide) rfl (fun (hc12_5 : ¬ (vi q3) < (vi q2)) => ?_) (fun (hc12_5 : (vi q3) < (vi q2)) => ?_)
  ·
    replace hM := own_condF ((vi_lt hb4).2 hc12_5) hM
    refine o_blk (pc' := 31) (st' := [(.int (vi i1))]) (ls' := #[.val (.ref (ad Z ca r0)), .val (.int (vi i1)), .val (.int (vi i2)), .unset, .unset, .unset, .unset]) b26_30_31 rfl ?_
    cases hM
    exact o_retI d26_31 (by decide) (by decide) rfl ⟨rfl, R0⟩
  ·
    replace hM := own_condT ((vi_lt hb4).1 hc12_5) hM
    refine o_blk (pc' := 16) (st' := [(.ref (ad Z ca r0))]) (ls' := #[.val (.ref (ad Z ca r0)), .val (.int (vi i1)), .val (.int (vi i2)), .unset, .unset, .unset, .unset]) b26_15_16 rfl ?_
    refine p_getR (t := 0) (i := 3) (pc' := 19) R0 (by decide) (by decide) hq1 rfl rfl (own_word hw 38 rfl) d26_16 rfl ?_
    refine o_blk (pc' := 20) (st' := [(.int (vi i2)), (.ref (ad Z ca q1))]) (ls' := #[.val (.ref (ad Z ca r0)), .val (.int (vi i1)), .val (.int (vi i2)), .unset, .unset, .unset, .unset]) b26_19_20 rfl ?_
    refine p_iald (pc' := 21) R0 hq2 d26_20 rfl ?_
    refine o_blk (pc' := 22) (st' := [(.ref (ad Z ca r0)), (.int (vi q2))]) (ls' := #[.val (.ref (ad Z ca r0)), .val (.int (vi i1)), .val (.int (vi i2)), .unset, .unset, .unset, .unset]) b26_21_22 rfl ?_
    obtain ⟨q6, hq6, hM⟩ := own_kgfr (i := 4) hM rfl
    refine p_getR (t := 0) (i := 4) (pc' := 25) R0 (by decide) (by decide) hq6 rfl rfl (own_word hw 40 rfl) d26_22 rfl ?_
    refine o_blk (pc' := 26) (st' := [(.int (vi i1)), (.ref (ad Z ca q6)), (.int (vi q2))]) (ls' := #[.val (.ref (ad Z ca r0)), .val (.int (vi i1)), .val (.int (vi i2)), .unset, .unset, .unset, .unset]) b26_25_26 rfl ?_
    obtain ⟨q7, hq7, hM⟩ := own_kilo hM
    refine p_iald (pc' := 27) R0 hq7 d26_26 rfl ?_
    obtain ⟨hb8, hM⟩ := own_plt hM
    refine o_ic (pc' := 32) (pc'' := 30) d26_27 (by decide) (by decide) rfl (fun (hc27_9 : ¬ (vi q7) < (vi q2)) => ?_) (fun (hc27_9 : (vi q7) < (vi q2)) => ?_)
    ·
      replace hM := own_condF ((vi_lt hb8).2 hc27_9) hM
      refine o_blk (pc' := 33) (st' := [(.ref (ad Z ca r0))]) (ls' := #[.val (.ref (ad Z ca r0)), .val (.int (vi i1)), .val (.int (vi i2)), .unset, .unset, .unset, .unset]) b26_32_33 rfl ?_
      obtain ⟨q10, hq10, hM⟩ := own_kgfr (i := 1) hM rfl
      refine p_getR (t := 0) (i := 1) (pc' := 36) R0 (by decide) (by decide) hq10 rfl rfl (own_word hw 19 rfl) d26_33 rfl ?_
      refine o_blk (pc' := 37) (st' := [(.int (vi i1)), (.ref (ad Z ca q10))]) (ls' := #[.val (.ref (ad Z ca r0)), .val (.int (vi i1)), .val (.int (vi i2)), .unset, .unset, .unset, .unset]) b26_36_37 rfl ?_
      obtain ⟨q11, hq11, hM⟩ := own_krlo hM
      refine p_aald (pc' := 38) R0 hq11 d26_37 rfl ?_
      refine o_blk (pc' := 39) (st' := []) (ls' := #[.val (.ref (ad Z ca r0)), .val (.int (vi i1)), .val (.int (vi i2)), .val (.ref (ad Z ca q11)), .unset, .unset, .unset]) b26_38_39 rfl ?_
      refine o_blk (pc' := 42) (st' := []) (ls' := #[.val (.ref (ad Z ca r0)), .val (.int (vi i1)), .val (.int (vi i2)), .val (.ref (ad Z ca q11)), .val (.int (vi 1)), .unset, .unset]) b26_39_42 rfl ?_
      refine o_blk (pc' := 43) (st' := [(.ref (ad Z ca q11))]) (ls' := #[.val (.ref (ad Z ca r0)), .val (.int (vi i1)), .val (.int (vi i2)), .val (.ref (ad Z ca q11)), .val (.int (vi 1)), .unset, .unset]) b26_42_43 rfl ?_
      obtain ⟨q12, hq12, hM⟩ := own_kaln hM
      refine p_len (pc' := 44) R0 hq12 d26_43 rfl ?_
      refine o_blk (pc' := 45) (st' := [(.int (vi 2)), (.int (vi q12))]) (ls' := #[.val (.ref (ad Z ca r0)), .val (.int (vi i1)), .val (.int (vi i2)), .val (.ref (ad Z ca q11)), .val (.int (vi 1)), .unset, .unset]) b26_44_45 rfl ?_
      obtain ⟨q13, hq13, hM⟩ := own_kdc hM
      refine o_blk (pc' := 46) (st' := [(.int ((vi q12) - (vi 2)))]) (ls' := #[.val (.ref (ad Z ca r0)), .val (.int (vi i1)), .val (.int (vi i2)), .val (.ref (ad Z ca q11)), .val (.int (vi 1)), .unset, .unset]) b26_45_46 rfl ?_
      rw [hq13]
      refine o_blk (pc' := 48) (st' := []) (ls' := #[.val (.ref (ad Z ca r0)), .val (.int (vi i1)), .val (.int (vi i2)), .val (.ref (ad Z ca q11)), .val (.int (vi 1)), .val (.int (vi q13)), .unset]) b26_46_48 rfl ?_
      exact (LP 20) _ _ _ _ _ _ Pl.u R0 hM
    ·
      replace hM := own_condT ((vi_lt hb8).1 hc27_9) hM
      refine o_blk (pc' := 31) (st' := [(.int (vi i1))]) (ls' := #[.val (.ref (ad Z ca r0)), .val (.int (vi i1)), .val (.int (vi i2)), .unset, .unset, .unset, .unset]) b26_30_31 rfl ?_
      cases hM
      exact o_retI d26_31 (by decide) (by decide) rfl ⟨rfl, R0⟩
def M_cht (H : Nat) (r0 : Nat) (i1 : Nat) (i2 : Nat) : Option (Nat × Nat) :=
  peq i2 1 ( some (H, 0) ) ( kilo 0 H r0 i2 fun q3 => peq q3 i1 ( some (H, i2) ) ( peq q3 1 ( some (H, 0) ) ( kilo 0 H r0 q3 fun q8 => peq q8 i1 ( some (H, q3) ) ( peq q8 1 ( some (H, 0) ) ( kilo 0 H r0 q8 fun q13 => peq q13 i1 ( some (H, q8) ) ( peq q13 1 ( some (H, 0) ) ( kilo 0 H r0 q13 fun q18 => peq q18 i1 ( some (H, q13) ) ( peq q18 1 ( some (H, 0) ) ( kilo 0 H r0 q18 fun q23 => peq q23 i1 ( some (H, q18) ) ( peq q23 1 ( some (H, 0) ) ( kilo 0 H r0 q23 fun q28 => peq q28 i1 ( some (H, q23) ) ( some (H, 0) ) ) ) ) ) ) ) ) ) ) ) )
set_option maxRecDepth 65536 in
set_option maxHeartbeats 40000000 in
theorem rm_cht (l : Launch) (Z : State) (a0 : Array Value) (hw : ∀ d ∈ tables_1, d.before a0 Z = true) (ca : Nat → Addr) (K : OKa Z ca) (H : Nat) (r0 : Nat) (i1 : Nat) (i2 : Nat) (res : Nat × Nat) (h0 : Heap) (hE0 : Ext Z.heap h0) (R0 : RepP Z ca h0 H)  (hM : M_cht H r0 i1 i2 = some res) :
    OCtr l Z (⟨"com/example/mild_horn/mildhorn/translation/CentroidsTowardPinLaw", "childToward", "([III)I"⟩ : MethodName) method_2_code 4 (some .int) ({ frames := 0, cells := 0, slots := 0, locals := 0 } : Room) #[(.ref (ad Z ca r0)), (.int (vi i1)), (.int (vi i2))] h0 (fun v h => v = some (.int (vi res.2)) ∧ RepP Z ca h res.1) := by
  refine o_bodyS (ls0 := #[.val (.ref (ad Z ca r0)), .val (.int (vi i1)), .val (.int (vi i2)), .unset]) (plainFor_of_name pn_5) hE0 (fun m => by first | (simp [entryFrame, mkF, argsToLocals, Value.category]; done) | rfl) ?_
  intro pG eG sG mG bG meG cG hS0
  unfold M_cht at hM
  refine o_blk (pc' := 2) (st' := []) (ls' := #[.val (.ref (ad Z ca r0)), .val (.int (vi i1)), .val (.int (vi i2)), .val (.int (vi i2))]) b25_0_2 rfl ?_
  refine o_blk (pc' := 3) (st' := [(.int (vi i2))]) (ls' := #[.val (.ref (ad Z ca r0)), .val (.int (vi i1)), .val (.int (vi i2)), .val (.int (vi i2))]) b25_2_3 rfl ?_
  obtain ⟨hb1, hM⟩ := own_peq hM
  refine o_if (pc' := 8) (pc'' := 6) d25_3 (by decide) (by decide) rfl (fun (hc3_2 : ¬ (vi i2) = (vi 1)) => ?_) (fun (hc3_2 : (vi i2) = (vi 1)) => ?_)
  ·
    replace hM := own_condF ((vi_eq hb1).2 hc3_2) hM
    refine o_blk (pc' := 10) (st' := [(.int (vi i2)), (.ref (ad Z ca r0))]) (ls' := #[.val (.ref (ad Z ca r0)), .val (.int (vi i1)), .val (.int (vi i2)), .val (.int (vi i2))]) b25_8_10 rfl ?_
    obtain ⟨q3, hq3, hM⟩ := own_kilo hM
    refine p_iald (pc' := 11) R0 hq3 d25_10 rfl ?_
    refine o_blk (pc' := 12) (st' := [(.int (vi i1)), (.int (vi q3))]) (ls' := #[.val (.ref (ad Z ca r0)), .val (.int (vi i1)), .val (.int (vi i2)), .val (.int (vi i2))]) b25_11_12 rfl ?_
    obtain ⟨hb4, hM⟩ := own_peq hM
    refine o_ic (pc' := 17) (pc'' := 15) d25_12 (by decide) (by decide) rfl (fun (hc12_5 : ¬ (vi q3) = (vi i1)) => ?_) (fun (hc12_5 : (vi q3) = (vi i1)) => ?_)
    ·
      replace hM := own_condF ((vi_eq hb4).2 hc12_5) hM
      refine o_blk (pc' := 19) (st' := [(.int (vi i2)), (.ref (ad Z ca r0))]) (ls' := #[.val (.ref (ad Z ca r0)), .val (.int (vi i1)), .val (.int (vi i2)), .val (.int (vi i2))]) b25_17_19 rfl ?_
      refine p_iald (pc' := 20) R0 hq3 d25_19 rfl ?_
      refine o_blk (pc' := 21) (st' := []) (ls' := #[.val (.ref (ad Z ca r0)), .val (.int (vi i1)), .val (.int (vi i2)), .val (.int (vi q3))]) b25_20_21 rfl ?_
      refine o_blk (pc' := 22) (st' := [(.int (vi q3))]) (ls' := #[.val (.ref (ad Z ca r0)), .val (.int (vi i1)), .val (.int (vi i2)), .val (.int (vi q3))]) b25_21_22 rfl ?_
      obtain ⟨hb6, hM⟩ := own_peq hM
      refine o_if (pc' := 27) (pc'' := 25) d25_22 (by decide) (by decide) rfl (fun (hc22_7 : ¬ (vi q3) = (vi 1)) => ?_) (fun (hc22_7 : (vi q3) = (vi 1)) => ?_)
      ·
        replace hM := own_condF ((vi_eq hb6).2 hc22_7) hM
        refine o_blk (pc' := 29) (st' := [(.int (vi q3)), (.ref (ad Z ca r0))]) (ls' := #[.val (.ref (ad Z ca r0)), .val (.int (vi i1)), .val (.int (vi i2)), .val (.int (vi q3))]) b25_27_29 rfl ?_
        obtain ⟨q8, hq8, hM⟩ := own_kilo hM
        refine p_iald (pc' := 30) R0 hq8 d25_29 rfl ?_
        refine o_blk (pc' := 31) (st' := [(.int (vi i1)), (.int (vi q8))]) (ls' := #[.val (.ref (ad Z ca r0)), .val (.int (vi i1)), .val (.int (vi i2)), .val (.int (vi q3))]) b25_30_31 rfl ?_
        obtain ⟨hb9, hM⟩ := own_peq hM
        refine o_ic (pc' := 36) (pc'' := 34) d25_31 (by decide) (by decide) rfl (fun (hc31_10 : ¬ (vi q8) = (vi i1)) => ?_) (fun (hc31_10 : (vi q8) = (vi i1)) => ?_)
        ·
          replace hM := own_condF ((vi_eq hb9).2 hc31_10) hM
          refine o_blk (pc' := 38) (st' := [(.int (vi q3)), (.ref (ad Z ca r0))]) (ls' := #[.val (.ref (ad Z ca r0)), .val (.int (vi i1)), .val (.int (vi i2)), .val (.int (vi q3))]) b25_36_38 rfl ?_
          refine p_iald (pc' := 39) R0 hq8 d25_38 rfl ?_
          refine o_blk (pc' := 40) (st' := []) (ls' := #[.val (.ref (ad Z ca r0)), .val (.int (vi i1)), .val (.int (vi i2)), .val (.int (vi q8))]) b25_39_40 rfl ?_
          refine o_blk (pc' := 41) (st' := [(.int (vi q8))]) (ls' := #[.val (.ref (ad Z ca r0)), .val (.int (vi i1)), .val (.int (vi i2)), .val (.int (vi q8))]) b25_40_41 rfl ?_
          obtain ⟨hb11, hM⟩ := own_peq hM
          refine o_if (pc' := 46) (pc'' := 44) d25_41 (by decide) (by decide) rfl (fun (hc41_12 : ¬ (vi q8) = (vi 1)) => ?_) (fun (hc41_12 : (vi q8) = (vi 1)) => ?_)
          ·
            replace hM := own_condF ((vi_eq hb11).2 hc41_12) hM
            refine o_blk (pc' := 48) (st' := [(.int (vi q8)), (.ref (ad Z ca r0))]) (ls' := #[.val (.ref (ad Z ca r0)), .val (.int (vi i1)), .val (.int (vi i2)), .val (.int (vi q8))]) b25_46_48 rfl ?_
            obtain ⟨q13, hq13, hM⟩ := own_kilo hM
            refine p_iald (pc' := 49) R0 hq13 d25_48 rfl ?_
            refine o_blk (pc' := 50) (st' := [(.int (vi i1)), (.int (vi q13))]) (ls' := #[.val (.ref (ad Z ca r0)), .val (.int (vi i1)), .val (.int (vi i2)), .val (.int (vi q8))]) b25_49_50 rfl ?_
            obtain ⟨hb14, hM⟩ := own_peq hM
            refine o_ic (pc' := 55) (pc'' := 53) d25_50 (by decide) (by decide) rfl (fun (hc50_15 : ¬ (vi q13) = (vi i1)) => ?_) (fun (hc50_15 : (vi q13) = (vi i1)) => ?_)
            ·
              replace hM := own_condF ((vi_eq hb14).2 hc50_15) hM
              refine o_blk (pc' := 57) (st' := [(.int (vi q8)), (.ref (ad Z ca r0))]) (ls' := #[.val (.ref (ad Z ca r0)), .val (.int (vi i1)), .val (.int (vi i2)), .val (.int (vi q8))]) b25_55_57 rfl ?_
              refine p_iald (pc' := 58) R0 hq13 d25_57 rfl ?_
              refine o_blk (pc' := 59) (st' := []) (ls' := #[.val (.ref (ad Z ca r0)), .val (.int (vi i1)), .val (.int (vi i2)), .val (.int (vi q13))]) b25_58_59 rfl ?_
              refine o_blk (pc' := 60) (st' := [(.int (vi q13))]) (ls' := #[.val (.ref (ad Z ca r0)), .val (.int (vi i1)), .val (.int (vi i2)), .val (.int (vi q13))]) b25_59_60 rfl ?_
              obtain ⟨hb16, hM⟩ := own_peq hM
              refine o_if (pc' := 65) (pc'' := 63) d25_60 (by decide) (by decide) rfl (fun (hc60_17 : ¬ (vi q13) = (vi 1)) => ?_) (fun (hc60_17 : (vi q13) = (vi 1)) => ?_)
              ·
                replace hM := own_condF ((vi_eq hb16).2 hc60_17) hM
                refine o_blk (pc' := 67) (st' := [(.int (vi q13)), (.ref (ad Z ca r0))]) (ls' := #[.val (.ref (ad Z ca r0)), .val (.int (vi i1)), .val (.int (vi i2)), .val (.int (vi q13))]) b25_65_67 rfl ?_
                obtain ⟨q18, hq18, hM⟩ := own_kilo hM
                refine p_iald (pc' := 68) R0 hq18 d25_67 rfl ?_
                refine o_blk (pc' := 69) (st' := [(.int (vi i1)), (.int (vi q18))]) (ls' := #[.val (.ref (ad Z ca r0)), .val (.int (vi i1)), .val (.int (vi i2)), .val (.int (vi q13))]) b25_68_69 rfl ?_
                obtain ⟨hb19, hM⟩ := own_peq hM
                refine o_ic (pc' := 74) (pc'' := 72) d25_69 (by decide) (by decide) rfl (fun (hc69_20 : ¬ (vi q18) = (vi i1)) => ?_) (fun (hc69_20 : (vi q18) = (vi i1)) => ?_)
                ·
                  replace hM := own_condF ((vi_eq hb19).2 hc69_20) hM
                  refine o_blk (pc' := 76) (st' := [(.int (vi q13)), (.ref (ad Z ca r0))]) (ls' := #[.val (.ref (ad Z ca r0)), .val (.int (vi i1)), .val (.int (vi i2)), .val (.int (vi q13))]) b25_74_76 rfl ?_
                  refine p_iald (pc' := 77) R0 hq18 d25_76 rfl ?_
                  refine o_blk (pc' := 78) (st' := []) (ls' := #[.val (.ref (ad Z ca r0)), .val (.int (vi i1)), .val (.int (vi i2)), .val (.int (vi q18))]) b25_77_78 rfl ?_
                  refine o_blk (pc' := 79) (st' := [(.int (vi q18))]) (ls' := #[.val (.ref (ad Z ca r0)), .val (.int (vi i1)), .val (.int (vi i2)), .val (.int (vi q18))]) b25_78_79 rfl ?_
                  obtain ⟨hb21, hM⟩ := own_peq hM
                  refine o_if (pc' := 84) (pc'' := 82) d25_79 (by decide) (by decide) rfl (fun (hc79_22 : ¬ (vi q18) = (vi 1)) => ?_) (fun (hc79_22 : (vi q18) = (vi 1)) => ?_)
                  ·
                    replace hM := own_condF ((vi_eq hb21).2 hc79_22) hM
                    refine o_blk (pc' := 86) (st' := [(.int (vi q18)), (.ref (ad Z ca r0))]) (ls' := #[.val (.ref (ad Z ca r0)), .val (.int (vi i1)), .val (.int (vi i2)), .val (.int (vi q18))]) b25_84_86 rfl ?_
                    obtain ⟨q23, hq23, hM⟩ := own_kilo hM
                    refine p_iald (pc' := 87) R0 hq23 d25_86 rfl ?_
                    refine o_blk (pc' := 88) (st' := [(.int (vi i1)), (.int (vi q23))]) (ls' := #[.val (.ref (ad Z ca r0)), .val (.int (vi i1)), .val (.int (vi i2)), .val (.int (vi q18))]) b25_87_88 rfl ?_
                    obtain ⟨hb24, hM⟩ := own_peq hM
                    refine o_ic (pc' := 93) (pc'' := 91) d25_88 (by decide) (by decide) rfl (fun (hc88_25 : ¬ (vi q23) = (vi i1)) => ?_) (fun (hc88_25 : (vi q23) = (vi i1)) => ?_)
                    ·
                      replace hM := own_condF ((vi_eq hb24).2 hc88_25) hM
                      refine o_blk (pc' := 95) (st' := [(.int (vi q18)), (.ref (ad Z ca r0))]) (ls' := #[.val (.ref (ad Z ca r0)), .val (.int (vi i1)), .val (.int (vi i2)), .val (.int (vi q18))]) b25_93_95 rfl ?_
                      refine p_iald (pc' := 96) R0 hq23 d25_95 rfl ?_
                      refine o_blk (pc' := 97) (st' := []) (ls' := #[.val (.ref (ad Z ca r0)), .val (.int (vi i1)), .val (.int (vi i2)), .val (.int (vi q23))]) b25_96_97 rfl ?_
                      refine o_blk (pc' := 98) (st' := [(.int (vi q23))]) (ls' := #[.val (.ref (ad Z ca r0)), .val (.int (vi i1)), .val (.int (vi i2)), .val (.int (vi q23))]) b25_97_98 rfl ?_
                      obtain ⟨hb26, hM⟩ := own_peq hM
                      refine o_if (pc' := 103) (pc'' := 101) d25_98 (by decide) (by decide) rfl (fun (hc98_27 : ¬ (vi q23) = (vi 1)) => ?_) (fun (hc98_27 : (vi q23) = (vi 1)) => ?_)
                      ·
                        replace hM := own_condF ((vi_eq hb26).2 hc98_27) hM
                        refine o_blk (pc' := 105) (st' := [(.int (vi q23)), (.ref (ad Z ca r0))]) (ls' := #[.val (.ref (ad Z ca r0)), .val (.int (vi i1)), .val (.int (vi i2)), .val (.int (vi q23))]) b25_103_105 rfl ?_
                        obtain ⟨q28, hq28, hM⟩ := own_kilo hM
                        refine p_iald (pc' := 106) R0 hq28 d25_105 rfl ?_
                        refine o_blk (pc' := 107) (st' := [(.int (vi i1)), (.int (vi q28))]) (ls' := #[.val (.ref (ad Z ca r0)), .val (.int (vi i1)), .val (.int (vi i2)), .val (.int (vi q23))]) b25_106_107 rfl ?_
                        obtain ⟨hb29, hM⟩ := own_peq hM
                        refine o_ic (pc' := 112) (pc'' := 110) d25_107 (by decide) (by decide) rfl (fun (hc107_30 : ¬ (vi q28) = (vi i1)) => ?_) (fun (hc107_30 : (vi q28) = (vi i1)) => ?_)
                        ·
                          replace hM := own_condF ((vi_eq hb29).2 hc107_30) hM
                          refine o_blk (pc' := 113) (st' := [(.int (vi 0))]) (ls' := #[.val (.ref (ad Z ca r0)), .val (.int (vi i1)), .val (.int (vi i2)), .val (.int (vi q23))]) b25_112_113 rfl ?_
                          cases hM
                          exact o_retI d25_113 (by decide) (by decide) rfl ⟨rfl, R0⟩
                        ·
                          replace hM := own_condT ((vi_eq hb29).1 hc107_30) hM
                          refine o_blk (pc' := 111) (st' := [(.int (vi q23))]) (ls' := #[.val (.ref (ad Z ca r0)), .val (.int (vi i1)), .val (.int (vi i2)), .val (.int (vi q23))]) b25_110_111 rfl ?_
                          cases hM
                          exact o_retI d25_111 (by decide) (by decide) rfl ⟨rfl, R0⟩
                      ·
                        replace hM := own_condT ((vi_eq hb26).1 hc98_27) hM
                        refine o_blk (pc' := 102) (st' := [(.int (vi 0))]) (ls' := #[.val (.ref (ad Z ca r0)), .val (.int (vi i1)), .val (.int (vi i2)), .val (.int (vi q23))]) b25_101_102 rfl ?_
                        cases hM
                        exact o_retI d25_102 (by decide) (by decide) rfl ⟨rfl, R0⟩
                    ·
                      replace hM := own_condT ((vi_eq hb24).1 hc88_25) hM
                      refine o_blk (pc' := 92) (st' := [(.int (vi q18))]) (ls' := #[.val (.ref (ad Z ca r0)), .val (.int (vi i1)), .val (.int (vi i2)), .val (.int (vi q18))]) b25_91_92 rfl ?_
                      cases hM
                      exact o_retI d25_92 (by decide) (by decide) rfl ⟨rfl, R0⟩
                  ·
                    replace hM := own_condT ((vi_eq hb21).1 hc79_22) hM
                    refine o_blk (pc' := 83) (st' := [(.int (vi 0))]) (ls' := #[.val (.ref (ad Z ca r0)), .val (.int (vi i1)), .val (.int (vi i2)), .val (.int (vi q18))]) b25_82_83 rfl ?_
                    cases hM
                    exact o_retI d25_83 (by decide) (by decide) rfl ⟨rfl, R0⟩
                ·
                  replace hM := own_condT ((vi_eq hb19).1 hc69_20) hM
                  refine o_blk (pc' := 73) (st' := [(.int (vi q13))]) (ls' := #[.val (.ref (ad Z ca r0)), .val (.int (vi i1)), .val (.int (vi i2)), .val (.int (vi q13))]) b25_72_73 rfl ?_
                  cases hM
                  exact o_retI d25_73 (by decide) (by decide) rfl ⟨rfl, R0⟩
              ·
                replace hM := own_condT ((vi_eq hb16).1 hc60_17) hM
                refine o_blk (pc' := 64) (st' := [(.int (vi 0))]) (ls' := #[.val (.ref (ad Z ca r0)), .val (.int (vi i1)), .val (.int (vi i2)), .val (.int (vi q13))]) b25_63_64 rfl ?_
                cases hM
                exact o_retI d25_64 (by decide) (by decide) rfl ⟨rfl, R0⟩
            ·
              replace hM := own_condT ((vi_eq hb14).1 hc50_15) hM
              refine o_blk (pc' := 54) (st' := [(.int (vi q8))]) (ls' := #[.val (.ref (ad Z ca r0)), .val (.int (vi i1)), .val (.int (vi i2)), .val (.int (vi q8))]) b25_53_54 rfl ?_
              cases hM
              exact o_retI d25_54 (by decide) (by decide) rfl ⟨rfl, R0⟩
          ·
            replace hM := own_condT ((vi_eq hb11).1 hc41_12) hM
            refine o_blk (pc' := 45) (st' := [(.int (vi 0))]) (ls' := #[.val (.ref (ad Z ca r0)), .val (.int (vi i1)), .val (.int (vi i2)), .val (.int (vi q8))]) b25_44_45 rfl ?_
            cases hM
            exact o_retI d25_45 (by decide) (by decide) rfl ⟨rfl, R0⟩
        ·
          replace hM := own_condT ((vi_eq hb9).1 hc31_10) hM
          refine o_blk (pc' := 35) (st' := [(.int (vi q3))]) (ls' := #[.val (.ref (ad Z ca r0)), .val (.int (vi i1)), .val (.int (vi i2)), .val (.int (vi q3))]) b25_34_35 rfl ?_
          cases hM
          exact o_retI d25_35 (by decide) (by decide) rfl ⟨rfl, R0⟩
      ·
        replace hM := own_condT ((vi_eq hb6).1 hc22_7) hM
        refine o_blk (pc' := 26) (st' := [(.int (vi 0))]) (ls' := #[.val (.ref (ad Z ca r0)), .val (.int (vi i1)), .val (.int (vi i2)), .val (.int (vi q3))]) b25_25_26 rfl ?_
        cases hM
        exact o_retI d25_26 (by decide) (by decide) rfl ⟨rfl, R0⟩
    ·
      replace hM := own_condT ((vi_eq hb4).1 hc12_5) hM
      refine o_blk (pc' := 16) (st' := [(.int (vi i2))]) (ls' := #[.val (.ref (ad Z ca r0)), .val (.int (vi i1)), .val (.int (vi i2)), .val (.int (vi i2))]) b25_15_16 rfl ?_
      cases hM
      exact o_retI d25_16 (by decide) (by decide) rfl ⟨rfl, R0⟩
  ·
    replace hM := own_condT ((vi_eq hb1).1 hc3_2) hM
    refine o_blk (pc' := 7) (st' := [(.int (vi 0))]) (ls' := #[.val (.ref (ad Z ca r0)), .val (.int (vi i1)), .val (.int (vi i2)), .val (.int (vi i2))]) b25_6_7 rfl ?_
    cases hM
    exact o_retI d25_7 (by decide) (by decide) rfl ⟨rfl, R0⟩
def B_law_267  (rec : Nat → Nat → Nat → Nat → Nat → Nat → Nat → Option (Nat × Nat)) (H : Nat) (r4 : Nat) (i5 : Nat) (i7 : Nat) (i8 : Nat) (r9 : Nat) : Option (Nat × Nat) :=
  bdP (M_cht H r4 i7 i8) fun q1a q1b => plt q1b 1 ( kad i7 i5 fun q14 => krm 7 q14 fun q15 => kad i7 i5 fun q16 => krm 7 q16 fun q17 => kad i8 i5 fun q18 => krm 7 q18 fun q19 => kisA 4 q1a r9 ( bdP (M_tow q1a r9 q17 q19) fun q21a q21b => peq q21b q15 ( some (q21a, 2) ) ( some (q21a, 1) ) ) ) ( kad q1b i5 fun q4 => krm 7 q4 fun q5 => kad i7 i5 fun q6 => krm 7 q6 fun q7 => kad i8 i5 fun q8 => krm 7 q8 fun q9 => kisA 4 q1a r9 ( bdP (M_tow q1a r9 q7 q9) fun q11a q11b => peq q11b q5 ( some (q11a, 2) ) ( some (q11a, 1) ) ) )
def L_law  (n : Nat) : Nat → Nat → Nat → Nat → Nat → Nat → Nat → Option (Nat × Nat) := Nat.rec (motive := fun _ => Nat → Nat → Nat → Nat → Nat → Nat → Nat → Option (Nat × Nat)) (fun _ _ _ _ _ _ _ => none) (fun _ ih => fun hd => br (Nat.beq hd 267) (B_law_267  ih) (fun _ _ _ _ _ _ => none)) n
def M_pre (H : Nat) (x1 : Nat) (x2 : Nat) (x3 : Nat) (x4 : Nat) (x5 : Nat) (x6 : Nat) (r : Nat) : Option (Nat × Nat) :=
  bdP (pnewI 0 H 8) fun q1a q1b => kist 0 q1a q1b 1 1 fun q2 => kist 0 q2 q1b 2 x1 fun q3 => kist 0 q3 q1b 3 x2 fun q4 => kist 0 q4 q1b 4 x3 fun q5 => kist 0 q5 q1b 5 x4 fun q6 => kist 0 q6 q1b 6 x5 fun q7 => kist 0 q7 q1b 7 x6 fun q8 => bdP (pnewI 0 q8 8) fun q9a q9b => kist 0 q9a q9b r 0 fun q10 => krm 7 (Nat.add r 1) fun q11 => kilo 0 q10 q1b 2 fun q12 => kad q12 r fun q13 => krm 7 q13 fun q14 => kist 0 q10 q9b q11 q14 fun q15 => krm 7 (Nat.add r 2) fun q16 => kilo 0 q15 q1b 3 fun q17 => kad q17 r fun q18 => krm 7 q18 fun q19 => kist 0 q15 q9b q16 q19 fun q20 => krm 7 (Nat.add r 3) fun q21 => kilo 0 q20 q1b 4 fun q22 => kad q22 r fun q23 => krm 7 q23 fun q24 => kist 0 q20 q9b q21 q24 fun q25 => krm 7 (Nat.add r 4) fun q26 => kilo 0 q25 q1b 5 fun q27 => kad q27 r fun q28 => krm 7 q28 fun q29 => kist 0 q25 q9b q26 q29 fun q30 => krm 7 (Nat.add r 5) fun q31 => kilo 0 q30 q1b 6 fun q32 => kad q32 r fun q33 => krm 7 q33 fun q34 => kist 0 q30 q9b q31 q34 fun q35 => krm 7 (Nat.add r 6) fun q36 => kilo 0 q35 q1b 7 fun q37 => kad q37 r fun q38 => krm 7 q38 fun q39 => kist 0 q35 q9b q36 q39 fun q40 => bdP (padd q40 pb4) fun q41a q41b => bdP (M_ini q41a q41b q9b) fun q42a q42b => gd (Nat.blt q41b 1000) ( some (q42a, Nat.add (Nat.mul 1000 q1b) q41b) )
set_option maxRecDepth 65536 in
set_option maxHeartbeats 40000000 in
theorem rm_law (l : Launch) (Z : State) (a0 : Array Value) (hw : ∀ d ∈ tables_1, d.before a0 Z = true) (ca : Nat → Addr) (K : OKa Z ca) (H : Nat) (i0 : Int32) (i1 : Int32) (i2 : Int32) (i3 : Int32) (x1 : Nat) (x2 : Nat) (x3 : Nat) (x4 : Nat) (x5 : Nat) (x6 : Nat) (r : Nat) (u : Nat) (v : Nat) (res : Nat × Nat) (h0 : Heap) (hE0 : Ext Z.heap h0) (R0 : RepP Z ca h0 H) (hx_x1 : ((i0 &&& (vi 8)) % (vi 2)) = vi x1) (hx_x2 : (((XT.ushr i0 (vi 4)) &&& (vi 8)) % (vi 3)) = vi x2) (hx_x3 : (((XT.ushr i0 (vi 7)) &&& (vi 8)) % (vi 4)) = vi x3) (hx_x4 : (((XT.ushr i0 (vi 10)) &&& (vi 8)) % (vi 5)) = vi x4) (hx_x5 : (((XT.ushr i0 (vi 13)) &&& (vi 8)) % (vi 6)) = vi x5) (hx_x6 : (((XT.ushr i0 (vi 16)) &&& (vi 8)) % (vi 7)) = vi x6) (hx_r : ((i1 &&& (2147483647 : Int32)) % (vi 8)) = vi r) (hx_u : ((i2 &&& (2147483647 : Int32)) % (vi 8)) = vi u) (hx_v : (((vi (Nat.add u 1)) + ((i3 &&& (2147483647 : Int32)) % (vi 7))) % (vi 8)) = vi v) (hres : res.2 = 2) (p : Nat × Nat) (hL : L_law  1 267 p.1 (Nat.div p.2 1000) r u v (Nat.mod p.2 1000) = some res) (hM : M_pre H x1 x2 x3 x4 x5 x6 r = some p) :
    OCtr l Z x code maxLocals ret room_1 #[(.int i0), (.int i1), (.int i2), (.int i3)] h0 (fun v h => v = some (.int 1)) := by
  refine o_bodyS (ls0 := #[.val (.int i0), .val (.int i1), .val (.int i2), .val (.int i3), .unset, .unset, .unset, .unset, .unset, .unset, .unset, .unset]) (plainFor_of_name pn_5) hE0 (fun m => by first | (simp [entryFrame, mkF, argsToLocals, Value.category, maxLocals]; done) | rfl) ?_
  intro pG eG sG mG bG meG cG hS0
  have LP : ∀ f : Nat, (∀ (h : Heap) (H : Nat) (r4 : Nat) (i5 : Nat) (i7 : Nat) (i8 : Nat) (r9 : Nat) (x6 : Slot) (p6 : Pl x6) (x10 : Slot) (p10 : Pl x10) (x11 : Slot) (p11 : Pl x11) (R : RepP Z ca h H) (hM : L_law  f 267 H r4 i5 i7 i8 r9 = some res), OG pG l eG room_1 sG mG #[(.int i0), (.int i1), (.int i2), (.int i3)] bG meG cG Z x.cls x.name code maxLocals ret (fun v h => v = some (.int 1)) room_1.cells room_1.slots h 43 351 (mkF mG 267 #[.val (.int i0), .val (.int i1), .val (.int i2), .val (.int i3), .val (.ref (ad Z ca r4)), .val (.int (vi i5)), x6, .val (.int (vi i7)), .val (.int (vi i8)), .val (.ref (ad Z ca r9)), x10, x11] [])) := by
    intro f
    induction f with
    | zero =>
      skip
      · intro h H r4 i5 i7 i8 r9 x6 p6 x10 p10 x11 p11 R hM
        first | exact nomatch hM | (simp [L_law] at hM; done)
    | succ f ih =>
      have ih_267 := ih
      skip
      · intro h H r4 i5 i7 i8 r9 x6 p6 x10 p10 x11 p11 R hM
        have hM : B_law_267  (L_law  f) H r4 i5 i7 i8 r9 = some res := hM
        unfold B_law_267 at hM
        refine o_blk (pc' := 273) (st' := [(.int (vi i8)), (.int (vi i7)), (.ref (ad Z ca r4))]) (ls' := #[.val (.int i0), .val (.int i1), .val (.int i2), .val (.int i3), .val (.ref (ad Z ca r4)), .val (.int (vi i5)), x6, .val (.int (vi i7)), .val (.int (vi i8)), .val (.ref (ad Z ca r9)), x10, x11]) b0_267_273 rfl ?_
        obtain ⟨q1, hq1, hM⟩ := own_bdP hM
        refine o_callS (W := 0) (argsL := [(.ref (ad Z ca r4)), (.int (vi i7)), (.int (vi i8))]) (rest := []) (pc' := 276) (own_word hw 154 rfl) (own_word hw 155 rfl) (own_word hw 156 rfl) (own_word hw 157 rfl) (by decide) (fun hE => rm_cht l Z a0 hw ca K H r4 i7 i8 q1 h hE R hq1) d0_273 pd_16 rfl rfl rfl (Nat.le_of_eq rfl) (by decide) (by decide) (by decide) (by decide) rfl ?_
        rintro _ h_q1 ⟨rfl, R_q1⟩ hs_q1
        refine o_stP (pc' := 278) (st' := []) (ls' := #[.val (.int i0), .val (.int i1), .val (.int i2), .val (.int i3), .val (.ref (ad Z ca r4)), .val (.int (vi i5)), x6, .val (.int (vi i7)), .val (.int (vi i8)), .val (.ref (ad Z ca r9)), .val (.int (vi q1.2)), x11]) d0_276 rfl rfl (own_stI (x := x10) rfl p10) ?_
        refine o_blk (pc' := 280) (st' := [(.int (vi q1.2))]) (ls' := #[.val (.int i0), .val (.int i1), .val (.int i2), .val (.int i3), .val (.ref (ad Z ca r4)), .val (.int (vi i5)), x6, .val (.int (vi i7)), .val (.int (vi i8)), .val (.ref (ad Z ca r9)), .val (.int (vi q1.2)), x11]) b0_278_280 rfl ?_
        obtain ⟨hb2, hM⟩ := own_plt hM
        refine o_if (pc' := 294) (pc'' := 283) d0_280 (by decide) (by decide) rfl (fun (hc280_3 : ¬ (vi q1.2) < (vi 1)) => ?_) (fun (hc280_3 : (vi q1.2) < (vi 1)) => ?_)
        ·
          replace hM := own_condF ((vi_lt hb2).2 hc280_3) hM
          refine o_blk (pc' := 298) (st' := [(.int (vi i5)), (.int (vi q1.2))]) (ls' := #[.val (.int i0), .val (.int i1), .val (.int i2), .val (.int i3), .val (.ref (ad Z ca r4)), .val (.int (vi i5)), x6, .val (.int (vi i7)), .val (.int (vi i8)), .val (.ref (ad Z ca r9)), .val (.int (vi q1.2)), x11]) b0_294_298 rfl ?_
          obtain ⟨q4, hq4, hM⟩ := own_kad hM
          refine o_blk (pc' := 299) (st' := [(.int ((vi q1.2) + (vi i5)))]) (ls' := #[.val (.int i0), .val (.int i1), .val (.int i2), .val (.int i3), .val (.ref (ad Z ca r4)), .val (.int (vi i5)), x6, .val (.int (vi i7)), .val (.int (vi i8)), .val (.ref (ad Z ca r9)), .val (.int (vi q1.2)), x11]) b0_298_299 rfl ?_
          rw [hq4]
          refine o_blk (pc' := 301) (st' := [(.int (vi 8)), (.int (vi q4))]) (ls' := #[.val (.int i0), .val (.int i1), .val (.int i2), .val (.int i3), .val (.ref (ad Z ca r4)), .val (.int (vi i5)), x6, .val (.int (vi i7)), .val (.int (vi i8)), .val (.ref (ad Z ca r9)), .val (.int (vi q1.2)), x11]) b0_299_301 rfl ?_
          obtain ⟨q5, hq5, hM⟩ := own_krm hM (by decide) (by decide) rfl
          refine o_irem (pc' := 302) d0_301 (by decide) rfl ?_
          rw [hq5]
          refine o_stP (pc' := 304) (st' := []) (ls' := #[.val (.int i0), .val (.int i1), .val (.int i2), .val (.int i3), .val (.ref (ad Z ca r4)), .val (.int (vi i5)), x6, .val (.int (vi i7)), .val (.int (vi i8)), .val (.ref (ad Z ca r9)), .val (.int (vi q1.2)), .val (.int (vi q5))]) d0_302 rfl rfl (own_stI (x := x11) rfl p11) ?_
          refine o_blk (pc' := 310) (st' := [(.int (vi i5)), (.int (vi i7)), (.ref (ad Z ca r9))]) (ls' := #[.val (.int i0), .val (.int i1), .val (.int i2), .val (.int i3), .val (.ref (ad Z ca r4)), .val (.int (vi i5)), x6, .val (.int (vi i7)), .val (.int (vi i8)), .val (.ref (ad Z ca r9)), .val (.int (vi q1.2)), .val (.int (vi q5))]) b0_304_310 rfl ?_
          obtain ⟨q6, hq6, hM⟩ := own_kad hM
          refine o_blk (pc' := 311) (st' := [(.int ((vi i7) + (vi i5))), (.ref (ad Z ca r9))]) (ls' := #[.val (.int i0), .val (.int i1), .val (.int i2), .val (.int i3), .val (.ref (ad Z ca r4)), .val (.int (vi i5)), x6, .val (.int (vi i7)), .val (.int (vi i8)), .val (.ref (ad Z ca r9)), .val (.int (vi q1.2)), .val (.int (vi q5))]) b0_310_311 rfl ?_
          rw [hq6]
          refine o_blk (pc' := 313) (st' := [(.int (vi 8)), (.int (vi q6)), (.ref (ad Z ca r9))]) (ls' := #[.val (.int i0), .val (.int i1), .val (.int i2), .val (.int i3), .val (.ref (ad Z ca r4)), .val (.int (vi i5)), x6, .val (.int (vi i7)), .val (.int (vi i8)), .val (.ref (ad Z ca r9)), .val (.int (vi q1.2)), .val (.int (vi q5))]) b0_311_313 rfl ?_
          obtain ⟨q7, hq7, hM⟩ := own_krm hM (by decide) (by decide) rfl
          refine o_irem (pc' := 314) d0_313 (by decide) rfl ?_
          rw [hq7]
          refine o_blk (pc' := 318) (st' := [(.int (vi i5)), (.int (vi i8)), (.int (vi q7)), (.ref (ad Z ca r9))]) (ls' := #[.val (.int i0), .val (.int i1), .val (.int i2), .val (.int i3), .val (.ref (ad Z ca r4)), .val (.int (vi i5)), x6, .val (.int (vi i7)), .val (.int (vi i8)), .val (.ref (ad Z ca r9)), .val (.int (vi q1.2)), .val (.int (vi q5))]) b0_314_318 rfl ?_
          obtain ⟨q8, hq8, hM⟩ := own_kad hM
          refine o_blk (pc' := 319) (st' := [(.int ((vi i8) + (vi i5))), (.int (vi q7)), (.ref (ad Z ca r9))]) (ls' := #[.val (.int i0), .val (.int i1), .val (.int i2), .val (.int i3), .val (.ref (ad Z ca r4)), .val (.int (vi i5)), x6, .val (.int (vi i7)), .val (.int (vi i8)), .val (.ref (ad Z ca r9)), .val (.int (vi q1.2)), .val (.int (vi q5))]) b0_318_319 rfl ?_
          rw [hq8]
          refine o_blk (pc' := 321) (st' := [(.int (vi 8)), (.int (vi q8)), (.int (vi q7)), (.ref (ad Z ca r9))]) (ls' := #[.val (.int i0), .val (.int i1), .val (.int i2), .val (.int i3), .val (.ref (ad Z ca r4)), .val (.int (vi i5)), x6, .val (.int (vi i7)), .val (.int (vi i8)), .val (.ref (ad Z ca r9)), .val (.int (vi q1.2)), .val (.int (vi q5))]) b0_319_321 rfl ?_
          obtain ⟨q9, hq9, hM⟩ := own_krm hM (by decide) (by decide) rfl
          refine o_irem (pc' := 322) d0_321 (by decide) rfl ?_
          rw [hq9]
          obtain ⟨hb10, hM⟩ := own_kisA hM
          obtain ⟨q11, hq11, hM⟩ := own_bdP hM
          refine o_callV (W := 0) (argsL := [(.int (vi q7)), (.int (vi q9))]) (rest := []) (pc' := 325) (own_word hw 158 rfl) (own_word hw 159 rfl) (own_word hw 161 rfl) (own_word hw 161 rfl) (own_word hw 160 rfl) (own_word hw 162 rfl) (own_word hw 4 rfl) (by decide) (R_q1.exa (t := 0) hb10) (fun hE => rm_tow l Z a0 hw ca K q1.1 r9 q7 q9 q11 h_q1 hE R_q1 hq11) d0_322 pd_1 rfl rfl rfl (Nat.le_of_eq rfl) (by decide) (by decide) (by decide) (by decide) rfl ?_
          rintro _ h_q11 ⟨rfl, R_q11⟩ hs_q11
          refine o_blk (pc' := 327) (st' := [(.int (vi q5)), (.int (vi q11.2))]) (ls' := #[.val (.int i0), .val (.int i1), .val (.int i2), .val (.int i3), .val (.ref (ad Z ca r4)), .val (.int (vi i5)), x6, .val (.int (vi i7)), .val (.int (vi i8)), .val (.ref (ad Z ca r9)), .val (.int (vi q1.2)), .val (.int (vi q5))]) b0_325_327 rfl ?_
          obtain ⟨hb12, hM⟩ := own_peq hM
          refine o_ic (pc' := 334) (pc'' := 330) d0_327 (by decide) (by decide) rfl (fun (hc327_13 : ¬ (vi q11.2) = (vi q5)) => ?_) (fun (hc327_13 : (vi q11.2) = (vi q5)) => ?_)
          ·
            replace hM := own_condF ((vi_eq hb12).2 hc327_13) hM
            refine o_blk (pc' := 335) (st' := [(.int (vi 1))]) (ls' := #[.val (.int i0), .val (.int i1), .val (.int i2), .val (.int i3), .val (.ref (ad Z ca r4)), .val (.int (vi i5)), x6, .val (.int (vi i7)), .val (.int (vi i8)), .val (.ref (ad Z ca r9)), .val (.int (vi q1.2)), .val (.int (vi q5))]) b0_334_335 rfl ?_
            cases hM
            exact o_retZ (w := 0) d0_335 (by decide) (by decide) rfl (by decide) (congrArg (fun z => some (Value.int (vi z))) hres)
          ·
            replace hM := own_condT ((vi_eq hb12).1 hc327_13) hM
            refine o_blk (pc' := 331) (st' := [(.int (vi 2))]) (ls' := #[.val (.int i0), .val (.int i1), .val (.int i2), .val (.int i3), .val (.ref (ad Z ca r4)), .val (.int (vi i5)), x6, .val (.int (vi i7)), .val (.int (vi i8)), .val (.ref (ad Z ca r9)), .val (.int (vi q1.2)), .val (.int (vi q5))]) b0_330_331 rfl ?_
            refine o_goto (pc' := 335) d0_331 (by decide) (by decide) ?_
            cases hM
            exact o_retZ (w := 0) d0_335 (by decide) (by decide) rfl (by decide) (congrArg (fun z => some (Value.int (vi z))) hres)
        ·
          replace hM := own_condT ((vi_lt hb2).1 hc280_3) hM
          refine o_blk (pc' := 287) (st' := [(.int (vi i5)), (.int (vi i7))]) (ls' := #[.val (.int i0), .val (.int i1), .val (.int i2), .val (.int i3), .val (.ref (ad Z ca r4)), .val (.int (vi i5)), x6, .val (.int (vi i7)), .val (.int (vi i8)), .val (.ref (ad Z ca r9)), .val (.int (vi q1.2)), x11]) b0_283_287 rfl ?_
          obtain ⟨q14, hq14, hM⟩ := own_kad hM
          refine o_blk (pc' := 288) (st' := [(.int ((vi i7) + (vi i5)))]) (ls' := #[.val (.int i0), .val (.int i1), .val (.int i2), .val (.int i3), .val (.ref (ad Z ca r4)), .val (.int (vi i5)), x6, .val (.int (vi i7)), .val (.int (vi i8)), .val (.ref (ad Z ca r9)), .val (.int (vi q1.2)), x11]) b0_287_288 rfl ?_
          rw [hq14]
          refine o_blk (pc' := 290) (st' := [(.int (vi 8)), (.int (vi q14))]) (ls' := #[.val (.int i0), .val (.int i1), .val (.int i2), .val (.int i3), .val (.ref (ad Z ca r4)), .val (.int (vi i5)), x6, .val (.int (vi i7)), .val (.int (vi i8)), .val (.ref (ad Z ca r9)), .val (.int (vi q1.2)), x11]) b0_288_290 rfl ?_
          obtain ⟨q15, hq15, hM⟩ := own_krm hM (by decide) (by decide) rfl
          refine o_irem (pc' := 291) d0_290 (by decide) rfl ?_
          rw [hq15]
          refine o_goto (pc' := 302) d0_291 (by decide) (by decide) ?_
          refine o_stP (pc' := 304) (st' := []) (ls' := #[.val (.int i0), .val (.int i1), .val (.int i2), .val (.int i3), .val (.ref (ad Z ca r4)), .val (.int (vi i5)), x6, .val (.int (vi i7)), .val (.int (vi i8)), .val (.ref (ad Z ca r9)), .val (.int (vi q1.2)), .val (.int (vi q15))]) d0_302 rfl rfl (own_stI (x := x11) rfl p11) ?_
          refine o_blk (pc' := 310) (st' := [(.int (vi i5)), (.int (vi i7)), (.ref (ad Z ca r9))]) (ls' := #[.val (.int i0), .val (.int i1), .val (.int i2), .val (.int i3), .val (.ref (ad Z ca r4)), .val (.int (vi i5)), x6, .val (.int (vi i7)), .val (.int (vi i8)), .val (.ref (ad Z ca r9)), .val (.int (vi q1.2)), .val (.int (vi q15))]) b0_304_310 rfl ?_
          obtain ⟨q16, hq16, hM⟩ := own_kad hM
          refine o_blk (pc' := 311) (st' := [(.int ((vi i7) + (vi i5))), (.ref (ad Z ca r9))]) (ls' := #[.val (.int i0), .val (.int i1), .val (.int i2), .val (.int i3), .val (.ref (ad Z ca r4)), .val (.int (vi i5)), x6, .val (.int (vi i7)), .val (.int (vi i8)), .val (.ref (ad Z ca r9)), .val (.int (vi q1.2)), .val (.int (vi q15))]) b0_310_311 rfl ?_
          rw [hq16]
          refine o_blk (pc' := 313) (st' := [(.int (vi 8)), (.int (vi q16)), (.ref (ad Z ca r9))]) (ls' := #[.val (.int i0), .val (.int i1), .val (.int i2), .val (.int i3), .val (.ref (ad Z ca r4)), .val (.int (vi i5)), x6, .val (.int (vi i7)), .val (.int (vi i8)), .val (.ref (ad Z ca r9)), .val (.int (vi q1.2)), .val (.int (vi q15))]) b0_311_313 rfl ?_
          obtain ⟨q17, hq17, hM⟩ := own_krm hM (by decide) (by decide) rfl
          refine o_irem (pc' := 314) d0_313 (by decide) rfl ?_
          rw [hq17]
          refine o_blk (pc' := 318) (st' := [(.int (vi i5)), (.int (vi i8)), (.int (vi q17)), (.ref (ad Z ca r9))]) (ls' := #[.val (.int i0), .val (.int i1), .val (.int i2), .val (.int i3), .val (.ref (ad Z ca r4)), .val (.int (vi i5)), x6, .val (.int (vi i7)), .val (.int (vi i8)), .val (.ref (ad Z ca r9)), .val (.int (vi q1.2)), .val (.int (vi q15))]) b0_314_318 rfl ?_
          obtain ⟨q18, hq18, hM⟩ := own_kad hM
          refine o_blk (pc' := 319) (st' := [(.int ((vi i8) + (vi i5))), (.int (vi q17)), (.ref (ad Z ca r9))]) (ls' := #[.val (.int i0), .val (.int i1), .val (.int i2), .val (.int i3), .val (.ref (ad Z ca r4)), .val (.int (vi i5)), x6, .val (.int (vi i7)), .val (.int (vi i8)), .val (.ref (ad Z ca r9)), .val (.int (vi q1.2)), .val (.int (vi q15))]) b0_318_319 rfl ?_
          rw [hq18]
          refine o_blk (pc' := 321) (st' := [(.int (vi 8)), (.int (vi q18)), (.int (vi q17)), (.ref (ad Z ca r9))]) (ls' := #[.val (.int i0), .val (.int i1), .val (.int i2), .val (.int i3), .val (.ref (ad Z ca r4)), .val (.int (vi i5)), x6, .val (.int (vi i7)), .val (.int (vi i8)), .val (.ref (ad Z ca r9)), .val (.int (vi q1.2)), .val (.int (vi q15))]) b0_319_321 rfl ?_
          obtain ⟨q19, hq19, hM⟩ := own_krm hM (by decide) (by decide) rfl
          refine o_irem (pc' := 322) d0_321 (by decide) rfl ?_
          rw [hq19]
          obtain ⟨hb20, hM⟩ := own_kisA hM
          obtain ⟨q21, hq21, hM⟩ := own_bdP hM
          refine o_callV (W := 0) (argsL := [(.int (vi q17)), (.int (vi q19))]) (rest := []) (pc' := 325) (own_word hw 158 rfl) (own_word hw 159 rfl) (own_word hw 161 rfl) (own_word hw 161 rfl) (own_word hw 160 rfl) (own_word hw 162 rfl) (own_word hw 4 rfl) (by decide) (R_q1.exa (t := 0) hb20) (fun hE => rm_tow l Z a0 hw ca K q1.1 r9 q17 q19 q21 h_q1 hE R_q1 hq21) d0_322 pd_1 rfl rfl rfl (Nat.le_of_eq rfl) (by decide) (by decide) (by decide) (by decide) rfl ?_
          rintro _ h_q21 ⟨rfl, R_q21⟩ hs_q21
          refine o_blk (pc' := 327) (st' := [(.int (vi q15)), (.int (vi q21.2))]) (ls' := #[.val (.int i0), .val (.int i1), .val (.int i2), .val (.int i3), .val (.ref (ad Z ca r4)), .val (.int (vi i5)), x6, .val (.int (vi i7)), .val (.int (vi i8)), .val (.ref (ad Z ca r9)), .val (.int (vi q1.2)), .val (.int (vi q15))]) b0_325_327 rfl ?_
          obtain ⟨hb22, hM⟩ := own_peq hM
          refine o_ic (pc' := 334) (pc'' := 330) d0_327 (by decide) (by decide) rfl (fun (hc327_23 : ¬ (vi q21.2) = (vi q15)) => ?_) (fun (hc327_23 : (vi q21.2) = (vi q15)) => ?_)
          ·
            replace hM := own_condF ((vi_eq hb22).2 hc327_23) hM
            refine o_blk (pc' := 335) (st' := [(.int (vi 1))]) (ls' := #[.val (.int i0), .val (.int i1), .val (.int i2), .val (.int i3), .val (.ref (ad Z ca r4)), .val (.int (vi i5)), x6, .val (.int (vi i7)), .val (.int (vi i8)), .val (.ref (ad Z ca r9)), .val (.int (vi q1.2)), .val (.int (vi q15))]) b0_334_335 rfl ?_
            cases hM
            exact o_retZ (w := 0) d0_335 (by decide) (by decide) rfl (by decide) (congrArg (fun z => some (Value.int (vi z))) hres)
          ·
            replace hM := own_condT ((vi_eq hb22).1 hc327_23) hM
            refine o_blk (pc' := 331) (st' := [(.int (vi 2))]) (ls' := #[.val (.int i0), .val (.int i1), .val (.int i2), .val (.int i3), .val (.ref (ad Z ca r4)), .val (.int (vi i5)), x6, .val (.int (vi i7)), .val (.int (vi i8)), .val (.ref (ad Z ca r9)), .val (.int (vi q1.2)), .val (.int (vi q15))]) b0_330_331 rfl ?_
            refine o_goto (pc' := 335) d0_331 (by decide) (by decide) ?_
            cases hM
            exact o_retZ (w := 0) d0_335 (by decide) (by decide) rfl (by decide) (congrArg (fun z => some (Value.int (vi z))) hres)
  unfold M_pre at hM
  refine o_blk (pc' := 2) (st' := [(.int (vi 8))]) (ls' := #[.val (.int i0), .val (.int i1), .val (.int i2), .val (.int i3), .unset, .unset, .unset, .unset, .unset, .unset, .unset, .unset]) b0_0_2 rfl ?_
  obtain ⟨q1, hq1, hM⟩ := own_bdP hM
  refine p_newI (pc' := 4) R0 (own_word hw 0 rfl) hq1 d0_2 (by decide) (by decide) rfl ?_
  intro h_q1 R_q1
  refine o_blk (pc' := 6) (st' := []) (ls' := #[.val (.int i0), .val (.int i1), .val (.int i2), .val (.int i3), .val (.ref (ad Z ca q1.2)), .unset, .unset, .unset, .unset, .unset, .unset, .unset]) b0_4_6 rfl ?_
  refine o_blk (pc' := 10) (st' := [(.int (vi 1)), (.int (vi 1)), (.ref (ad Z ca q1.2))]) (ls' := #[.val (.int i0), .val (.int i1), .val (.int i2), .val (.int i3), .val (.ref (ad Z ca q1.2)), .unset, .unset, .unset, .unset, .unset, .unset, .unset]) b0_6_10 rfl ?_
  obtain ⟨q2, hq2, hM⟩ := own_kist hM
  refine p_iast (pc' := 11) R_q1 hq2 d0_10 rfl ?_
  intro h_q2 R_q2
  refine o_blk (pc' := 19) (st' := [(.int (vi 2)), (.int (i0 &&& (vi 8))), (.int (vi 2)), (.ref (ad Z ca q1.2))]) (ls' := #[.val (.int i0), .val (.int i1), .val (.int i2), .val (.int i3), .val (.ref (ad Z ca q1.2)), .unset, .unset, .unset, .unset, .unset, .unset, .unset]) b0_11_19 rfl ?_
  refine o_irem (pc' := 20) d0_19 (by decide) rfl ?_
  rw [hx_x1]
  obtain ⟨q3, hq3, hM⟩ := own_kist hM
  refine p_iast (pc' := 21) R_q2 hq3 d0_20 rfl ?_
  intro h_q3 R_q3
  refine o_blk (pc' := 26) (st' := [(.int (vi 4)), (.int i0), (.int (vi 3)), (.ref (ad Z ca q1.2))]) (ls' := #[.val (.int i0), .val (.int i1), .val (.int i2), .val (.int i3), .val (.ref (ad Z ca q1.2)), .unset, .unset, .unset, .unset, .unset, .unset, .unset]) b0_21_26 rfl ?_
  refine o_blk (pc' := 27) (st' := [(.int (XT.ushr i0 (vi 4))), (.int (vi 3)), (.ref (ad Z ca q1.2))]) (ls' := #[.val (.int i0), .val (.int i1), .val (.int i2), .val (.int i3), .val (.ref (ad Z ca q1.2)), .unset, .unset, .unset, .unset, .unset, .unset, .unset]) b0_26_27 rfl ?_
  refine o_blk (pc' := 31) (st' := [(.int (vi 3)), (.int ((XT.ushr i0 (vi 4)) &&& (vi 8))), (.int (vi 3)), (.ref (ad Z ca q1.2))]) (ls' := #[.val (.int i0), .val (.int i1), .val (.int i2), .val (.int i3), .val (.ref (ad Z ca q1.2)), .unset, .unset, .unset, .unset, .unset, .unset, .unset]) b0_27_31 rfl ?_
  refine o_irem (pc' := 32) d0_31 (by decide) rfl ?_
  rw [hx_x2]
  obtain ⟨q4, hq4, hM⟩ := own_kist hM
  refine p_iast (pc' := 33) R_q3 hq4 d0_32 rfl ?_
  intro h_q4 R_q4
  refine o_blk (pc' := 39) (st' := [(.int (vi 7)), (.int i0), (.int (vi 4)), (.ref (ad Z ca q1.2))]) (ls' := #[.val (.int i0), .val (.int i1), .val (.int i2), .val (.int i3), .val (.ref (ad Z ca q1.2)), .unset, .unset, .unset, .unset, .unset, .unset, .unset]) b0_33_39 rfl ?_
  refine o_blk (pc' := 40) (st' := [(.int (XT.ushr i0 (vi 7))), (.int (vi 4)), (.ref (ad Z ca q1.2))]) (ls' := #[.val (.int i0), .val (.int i1), .val (.int i2), .val (.int i3), .val (.ref (ad Z ca q1.2)), .unset, .unset, .unset, .unset, .unset, .unset, .unset]) b0_39_40 rfl ?_
  refine o_blk (pc' := 44) (st' := [(.int (vi 4)), (.int ((XT.ushr i0 (vi 7)) &&& (vi 8))), (.int (vi 4)), (.ref (ad Z ca q1.2))]) (ls' := #[.val (.int i0), .val (.int i1), .val (.int i2), .val (.int i3), .val (.ref (ad Z ca q1.2)), .unset, .unset, .unset, .unset, .unset, .unset, .unset]) b0_40_44 rfl ?_
  refine o_irem (pc' := 45) d0_44 (by decide) rfl ?_
  rw [hx_x3]
  obtain ⟨q5, hq5, hM⟩ := own_kist hM
  refine p_iast (pc' := 46) R_q4 hq5 d0_45 rfl ?_
  intro h_q5 R_q5
  refine o_blk (pc' := 52) (st' := [(.int (vi 10)), (.int i0), (.int (vi 5)), (.ref (ad Z ca q1.2))]) (ls' := #[.val (.int i0), .val (.int i1), .val (.int i2), .val (.int i3), .val (.ref (ad Z ca q1.2)), .unset, .unset, .unset, .unset, .unset, .unset, .unset]) b0_46_52 rfl ?_
  refine o_blk (pc' := 53) (st' := [(.int (XT.ushr i0 (vi 10))), (.int (vi 5)), (.ref (ad Z ca q1.2))]) (ls' := #[.val (.int i0), .val (.int i1), .val (.int i2), .val (.int i3), .val (.ref (ad Z ca q1.2)), .unset, .unset, .unset, .unset, .unset, .unset, .unset]) b0_52_53 rfl ?_
  refine o_blk (pc' := 57) (st' := [(.int (vi 5)), (.int ((XT.ushr i0 (vi 10)) &&& (vi 8))), (.int (vi 5)), (.ref (ad Z ca q1.2))]) (ls' := #[.val (.int i0), .val (.int i1), .val (.int i2), .val (.int i3), .val (.ref (ad Z ca q1.2)), .unset, .unset, .unset, .unset, .unset, .unset, .unset]) b0_53_57 rfl ?_
  refine o_irem (pc' := 58) d0_57 (by decide) rfl ?_
  rw [hx_x4]
  obtain ⟨q6, hq6, hM⟩ := own_kist hM
  refine p_iast (pc' := 59) R_q5 hq6 d0_58 rfl ?_
  intro h_q6 R_q6
  refine o_blk (pc' := 65) (st' := [(.int (vi 13)), (.int i0), (.int (vi 6)), (.ref (ad Z ca q1.2))]) (ls' := #[.val (.int i0), .val (.int i1), .val (.int i2), .val (.int i3), .val (.ref (ad Z ca q1.2)), .unset, .unset, .unset, .unset, .unset, .unset, .unset]) b0_59_65 rfl ?_
  refine o_blk (pc' := 66) (st' := [(.int (XT.ushr i0 (vi 13))), (.int (vi 6)), (.ref (ad Z ca q1.2))]) (ls' := #[.val (.int i0), .val (.int i1), .val (.int i2), .val (.int i3), .val (.ref (ad Z ca q1.2)), .unset, .unset, .unset, .unset, .unset, .unset, .unset]) b0_65_66 rfl ?_
  refine o_blk (pc' := 70) (st' := [(.int (vi 6)), (.int ((XT.ushr i0 (vi 13)) &&& (vi 8))), (.int (vi 6)), (.ref (ad Z ca q1.2))]) (ls' := #[.val (.int i0), .val (.int i1), .val (.int i2), .val (.int i3), .val (.ref (ad Z ca q1.2)), .unset, .unset, .unset, .unset, .unset, .unset, .unset]) b0_66_70 rfl ?_
  refine o_irem (pc' := 71) d0_70 (by decide) rfl ?_
  rw [hx_x5]
  obtain ⟨q7, hq7, hM⟩ := own_kist hM
  refine p_iast (pc' := 72) R_q6 hq7 d0_71 rfl ?_
  intro h_q7 R_q7
  refine o_blk (pc' := 79) (st' := [(.int (vi 16)), (.int i0), (.int (vi 7)), (.ref (ad Z ca q1.2))]) (ls' := #[.val (.int i0), .val (.int i1), .val (.int i2), .val (.int i3), .val (.ref (ad Z ca q1.2)), .unset, .unset, .unset, .unset, .unset, .unset, .unset]) b0_72_79 rfl ?_
  refine o_blk (pc' := 80) (st' := [(.int (XT.ushr i0 (vi 16))), (.int (vi 7)), (.ref (ad Z ca q1.2))]) (ls' := #[.val (.int i0), .val (.int i1), .val (.int i2), .val (.int i3), .val (.ref (ad Z ca q1.2)), .unset, .unset, .unset, .unset, .unset, .unset, .unset]) b0_79_80 rfl ?_
  refine o_blk (pc' := 85) (st' := [(.int (vi 7)), (.int ((XT.ushr i0 (vi 16)) &&& (vi 8))), (.int (vi 7)), (.ref (ad Z ca q1.2))]) (ls' := #[.val (.int i0), .val (.int i1), .val (.int i2), .val (.int i3), .val (.ref (ad Z ca q1.2)), .unset, .unset, .unset, .unset, .unset, .unset, .unset]) b0_80_85 rfl ?_
  refine o_irem (pc' := 86) d0_85 (by decide) rfl ?_
  rw [hx_x6]
  obtain ⟨q8, hq8, hM⟩ := own_kist hM
  refine p_iast (pc' := 87) R_q7 hq8 d0_86 rfl ?_
  intro h_q8 R_q8
  refine o_blk (pc' := 88) (st' := [(.int i1)]) (ls' := #[.val (.int i0), .val (.int i1), .val (.int i2), .val (.int i3), .val (.ref (ad Z ca q1.2)), .unset, .unset, .unset, .unset, .unset, .unset, .unset]) b0_87_88 rfl ?_
  refine o_ldc (pc' := 90) (v := 2147483647) (own_word hw 1 rfl) d0_88 rfl ?_
  refine o_blk (pc' := 93) (st' := [(.int (vi 8)), (.int (i1 &&& (2147483647 : Int32)))]) (ls' := #[.val (.int i0), .val (.int i1), .val (.int i2), .val (.int i3), .val (.ref (ad Z ca q1.2)), .unset, .unset, .unset, .unset, .unset, .unset, .unset]) b0_90_93 rfl ?_
  refine o_irem (pc' := 94) d0_93 (by decide) rfl ?_
  rw [hx_r]
  refine o_blk (pc' := 96) (st' := []) (ls' := #[.val (.int i0), .val (.int i1), .val (.int i2), .val (.int i3), .val (.ref (ad Z ca q1.2)), .val (.int (vi r)), .unset, .unset, .unset, .unset, .unset, .unset]) b0_94_96 rfl ?_
  refine o_blk (pc' := 98) (st' := [(.int (vi 8))]) (ls' := #[.val (.int i0), .val (.int i1), .val (.int i2), .val (.int i3), .val (.ref (ad Z ca q1.2)), .val (.int (vi r)), .unset, .unset, .unset, .unset, .unset, .unset]) b0_96_98 rfl ?_
  obtain ⟨q9, hq9, hM⟩ := own_bdP hM
  refine p_newI (pc' := 100) R_q8 (own_word hw 0 rfl) hq9 d0_98 (by decide) (by decide) rfl ?_
  intro h_q9 R_q9
  refine o_blk (pc' := 102) (st' := []) (ls' := #[.val (.int i0), .val (.int i1), .val (.int i2), .val (.int i3), .val (.ref (ad Z ca q1.2)), .val (.int (vi r)), .val (.ref (ad Z ca q9.2)), .unset, .unset, .unset, .unset, .unset]) b0_100_102 rfl ?_
  refine o_blk (pc' := 107) (st' := [(.int (vi 0)), (.int (vi r)), (.ref (ad Z ca q9.2))]) (ls' := #[.val (.int i0), .val (.int i1), .val (.int i2), .val (.int i3), .val (.ref (ad Z ca q1.2)), .val (.int (vi r)), .val (.ref (ad Z ca q9.2)), .unset, .unset, .unset, .unset, .unset]) b0_102_107 rfl ?_
  obtain ⟨q10, hq10, hM⟩ := own_kist hM
  refine p_iast (pc' := 108) R_q9 hq10 d0_107 rfl ?_
  intro h_q10 R_q10
  refine o_blk (pc' := 113) (st' := [(.int (vi r)), (.int (vi 2)), (.ref (ad Z ca q9.2))]) (ls' := #[.val (.int i0), .val (.int i1), .val (.int i2), .val (.int i3), .val (.ref (ad Z ca q1.2)), .val (.int (vi r)), .val (.ref (ad Z ca q9.2)), .unset, .unset, .unset, .unset, .unset]) b0_108_113 rfl ?_
  refine o_blk (pc' := 114) (st' := [(.int ((vi 2) + (vi r))), (.ref (ad Z ca q9.2))]) (ls' := #[.val (.int i0), .val (.int i1), .val (.int i2), .val (.int i3), .val (.ref (ad Z ca q1.2)), .val (.int (vi r)), .val (.ref (ad Z ca q9.2)), .unset, .unset, .unset, .unset, .unset]) b0_113_114 rfl ?_
  rw [vi_addc (m := 2) (c := 1) (a := r) rfl]
  refine o_blk (pc' := 116) (st' := [(.int (vi 8)), (.int (vi (Nat.add r 1))), (.ref (ad Z ca q9.2))]) (ls' := #[.val (.int i0), .val (.int i1), .val (.int i2), .val (.int i3), .val (.ref (ad Z ca q1.2)), .val (.int (vi r)), .val (.ref (ad Z ca q9.2)), .unset, .unset, .unset, .unset, .unset]) b0_114_116 rfl ?_
  obtain ⟨q11, hq11, hM⟩ := own_krm hM (by decide) (by decide) rfl
  refine o_irem (pc' := 117) d0_116 (by decide) rfl ?_
  rw [hq11]
  refine o_blk (pc' := 120) (st' := [(.int (vi 2)), (.ref (ad Z ca q1.2)), (.int (vi q11)), (.ref (ad Z ca q9.2))]) (ls' := #[.val (.int i0), .val (.int i1), .val (.int i2), .val (.int i3), .val (.ref (ad Z ca q1.2)), .val (.int (vi r)), .val (.ref (ad Z ca q9.2)), .unset, .unset, .unset, .unset, .unset]) b0_117_120 rfl ?_
  obtain ⟨q12, hq12, hM⟩ := own_kilo hM
  refine p_iald (pc' := 121) R_q10 hq12 d0_120 rfl ?_
  refine o_blk (pc' := 123) (st' := [(.int (vi r)), (.int (vi q12)), (.int (vi q11)), (.ref (ad Z ca q9.2))]) (ls' := #[.val (.int i0), .val (.int i1), .val (.int i2), .val (.int i3), .val (.ref (ad Z ca q1.2)), .val (.int (vi r)), .val (.ref (ad Z ca q9.2)), .unset, .unset, .unset, .unset, .unset]) b0_121_123 rfl ?_
  obtain ⟨q13, hq13, hM⟩ := own_kad hM
  refine o_blk (pc' := 124) (st' := [(.int ((vi q12) + (vi r))), (.int (vi q11)), (.ref (ad Z ca q9.2))]) (ls' := #[.val (.int i0), .val (.int i1), .val (.int i2), .val (.int i3), .val (.ref (ad Z ca q1.2)), .val (.int (vi r)), .val (.ref (ad Z ca q9.2)), .unset, .unset, .unset, .unset, .unset]) b0_123_124 rfl ?_
  rw [hq13]
  refine o_blk (pc' := 126) (st' := [(.int (vi 8)), (.int (vi q13)), (.int (vi q11)), (.ref (ad Z ca q9.2))]) (ls' := #[.val (.int i0), .val (.int i1), .val (.int i2), .val (.int i3), .val (.ref (ad Z ca q1.2)), .val (.int (vi r)), .val (.ref (ad Z ca q9.2)), .unset, .unset, .unset, .unset, .unset]) b0_124_126 rfl ?_
  obtain ⟨q14, hq14, hM⟩ := own_krm hM (by decide) (by decide) rfl
  refine o_irem (pc' := 127) d0_126 (by decide) rfl ?_
  rw [hq14]
  obtain ⟨q15, hq15, hM⟩ := own_kist hM
  refine p_iast (pc' := 128) R_q10 hq15 d0_127 rfl ?_
  intro h_q15 R_q15
  refine o_blk (pc' := 133) (st' := [(.int (vi r)), (.int (vi 3)), (.ref (ad Z ca q9.2))]) (ls' := #[.val (.int i0), .val (.int i1), .val (.int i2), .val (.int i3), .val (.ref (ad Z ca q1.2)), .val (.int (vi r)), .val (.ref (ad Z ca q9.2)), .unset, .unset, .unset, .unset, .unset]) b0_128_133 rfl ?_
  refine o_blk (pc' := 134) (st' := [(.int ((vi 3) + (vi r))), (.ref (ad Z ca q9.2))]) (ls' := #[.val (.int i0), .val (.int i1), .val (.int i2), .val (.int i3), .val (.ref (ad Z ca q1.2)), .val (.int (vi r)), .val (.ref (ad Z ca q9.2)), .unset, .unset, .unset, .unset, .unset]) b0_133_134 rfl ?_
  rw [vi_addc (m := 3) (c := 2) (a := r) rfl]
  refine o_blk (pc' := 136) (st' := [(.int (vi 8)), (.int (vi (Nat.add r 2))), (.ref (ad Z ca q9.2))]) (ls' := #[.val (.int i0), .val (.int i1), .val (.int i2), .val (.int i3), .val (.ref (ad Z ca q1.2)), .val (.int (vi r)), .val (.ref (ad Z ca q9.2)), .unset, .unset, .unset, .unset, .unset]) b0_134_136 rfl ?_
  obtain ⟨q16, hq16, hM⟩ := own_krm hM (by decide) (by decide) rfl
  refine o_irem (pc' := 137) d0_136 (by decide) rfl ?_
  rw [hq16]
  refine o_blk (pc' := 140) (st' := [(.int (vi 3)), (.ref (ad Z ca q1.2)), (.int (vi q16)), (.ref (ad Z ca q9.2))]) (ls' := #[.val (.int i0), .val (.int i1), .val (.int i2), .val (.int i3), .val (.ref (ad Z ca q1.2)), .val (.int (vi r)), .val (.ref (ad Z ca q9.2)), .unset, .unset, .unset, .unset, .unset]) b0_137_140 rfl ?_
  obtain ⟨q17, hq17, hM⟩ := own_kilo hM
  refine p_iald (pc' := 141) R_q15 hq17 d0_140 rfl ?_
  refine o_blk (pc' := 143) (st' := [(.int (vi r)), (.int (vi q17)), (.int (vi q16)), (.ref (ad Z ca q9.2))]) (ls' := #[.val (.int i0), .val (.int i1), .val (.int i2), .val (.int i3), .val (.ref (ad Z ca q1.2)), .val (.int (vi r)), .val (.ref (ad Z ca q9.2)), .unset, .unset, .unset, .unset, .unset]) b0_141_143 rfl ?_
  obtain ⟨q18, hq18, hM⟩ := own_kad hM
  refine o_blk (pc' := 144) (st' := [(.int ((vi q17) + (vi r))), (.int (vi q16)), (.ref (ad Z ca q9.2))]) (ls' := #[.val (.int i0), .val (.int i1), .val (.int i2), .val (.int i3), .val (.ref (ad Z ca q1.2)), .val (.int (vi r)), .val (.ref (ad Z ca q9.2)), .unset, .unset, .unset, .unset, .unset]) b0_143_144 rfl ?_
  rw [hq18]
  refine o_blk (pc' := 146) (st' := [(.int (vi 8)), (.int (vi q18)), (.int (vi q16)), (.ref (ad Z ca q9.2))]) (ls' := #[.val (.int i0), .val (.int i1), .val (.int i2), .val (.int i3), .val (.ref (ad Z ca q1.2)), .val (.int (vi r)), .val (.ref (ad Z ca q9.2)), .unset, .unset, .unset, .unset, .unset]) b0_144_146 rfl ?_
  obtain ⟨q19, hq19, hM⟩ := own_krm hM (by decide) (by decide) rfl
  refine o_irem (pc' := 147) d0_146 (by decide) rfl ?_
  rw [hq19]
  obtain ⟨q20, hq20, hM⟩ := own_kist hM
  refine p_iast (pc' := 148) R_q15 hq20 d0_147 rfl ?_
  intro h_q20 R_q20
  refine o_blk (pc' := 153) (st' := [(.int (vi r)), (.int (vi 4)), (.ref (ad Z ca q9.2))]) (ls' := #[.val (.int i0), .val (.int i1), .val (.int i2), .val (.int i3), .val (.ref (ad Z ca q1.2)), .val (.int (vi r)), .val (.ref (ad Z ca q9.2)), .unset, .unset, .unset, .unset, .unset]) b0_148_153 rfl ?_
  refine o_blk (pc' := 154) (st' := [(.int ((vi 4) + (vi r))), (.ref (ad Z ca q9.2))]) (ls' := #[.val (.int i0), .val (.int i1), .val (.int i2), .val (.int i3), .val (.ref (ad Z ca q1.2)), .val (.int (vi r)), .val (.ref (ad Z ca q9.2)), .unset, .unset, .unset, .unset, .unset]) b0_153_154 rfl ?_
  rw [vi_addc (m := 4) (c := 3) (a := r) rfl]
  refine o_blk (pc' := 156) (st' := [(.int (vi 8)), (.int (vi (Nat.add r 3))), (.ref (ad Z ca q9.2))]) (ls' := #[.val (.int i0), .val (.int i1), .val (.int i2), .val (.int i3), .val (.ref (ad Z ca q1.2)), .val (.int (vi r)), .val (.ref (ad Z ca q9.2)), .unset, .unset, .unset, .unset, .unset]) b0_154_156 rfl ?_
  obtain ⟨q21, hq21, hM⟩ := own_krm hM (by decide) (by decide) rfl
  refine o_irem (pc' := 157) d0_156 (by decide) rfl ?_
  rw [hq21]
  refine o_blk (pc' := 160) (st' := [(.int (vi 4)), (.ref (ad Z ca q1.2)), (.int (vi q21)), (.ref (ad Z ca q9.2))]) (ls' := #[.val (.int i0), .val (.int i1), .val (.int i2), .val (.int i3), .val (.ref (ad Z ca q1.2)), .val (.int (vi r)), .val (.ref (ad Z ca q9.2)), .unset, .unset, .unset, .unset, .unset]) b0_157_160 rfl ?_
  obtain ⟨q22, hq22, hM⟩ := own_kilo hM
  refine p_iald (pc' := 161) R_q20 hq22 d0_160 rfl ?_
  refine o_blk (pc' := 163) (st' := [(.int (vi r)), (.int (vi q22)), (.int (vi q21)), (.ref (ad Z ca q9.2))]) (ls' := #[.val (.int i0), .val (.int i1), .val (.int i2), .val (.int i3), .val (.ref (ad Z ca q1.2)), .val (.int (vi r)), .val (.ref (ad Z ca q9.2)), .unset, .unset, .unset, .unset, .unset]) b0_161_163 rfl ?_
  obtain ⟨q23, hq23, hM⟩ := own_kad hM
  refine o_blk (pc' := 164) (st' := [(.int ((vi q22) + (vi r))), (.int (vi q21)), (.ref (ad Z ca q9.2))]) (ls' := #[.val (.int i0), .val (.int i1), .val (.int i2), .val (.int i3), .val (.ref (ad Z ca q1.2)), .val (.int (vi r)), .val (.ref (ad Z ca q9.2)), .unset, .unset, .unset, .unset, .unset]) b0_163_164 rfl ?_
  rw [hq23]
  refine o_blk (pc' := 166) (st' := [(.int (vi 8)), (.int (vi q23)), (.int (vi q21)), (.ref (ad Z ca q9.2))]) (ls' := #[.val (.int i0), .val (.int i1), .val (.int i2), .val (.int i3), .val (.ref (ad Z ca q1.2)), .val (.int (vi r)), .val (.ref (ad Z ca q9.2)), .unset, .unset, .unset, .unset, .unset]) b0_164_166 rfl ?_
  obtain ⟨q24, hq24, hM⟩ := own_krm hM (by decide) (by decide) rfl
  refine o_irem (pc' := 167) d0_166 (by decide) rfl ?_
  rw [hq24]
  obtain ⟨q25, hq25, hM⟩ := own_kist hM
  refine p_iast (pc' := 168) R_q20 hq25 d0_167 rfl ?_
  intro h_q25 R_q25
  refine o_blk (pc' := 173) (st' := [(.int (vi r)), (.int (vi 5)), (.ref (ad Z ca q9.2))]) (ls' := #[.val (.int i0), .val (.int i1), .val (.int i2), .val (.int i3), .val (.ref (ad Z ca q1.2)), .val (.int (vi r)), .val (.ref (ad Z ca q9.2)), .unset, .unset, .unset, .unset, .unset]) b0_168_173 rfl ?_
  refine o_blk (pc' := 174) (st' := [(.int ((vi 5) + (vi r))), (.ref (ad Z ca q9.2))]) (ls' := #[.val (.int i0), .val (.int i1), .val (.int i2), .val (.int i3), .val (.ref (ad Z ca q1.2)), .val (.int (vi r)), .val (.ref (ad Z ca q9.2)), .unset, .unset, .unset, .unset, .unset]) b0_173_174 rfl ?_
  rw [vi_addc (m := 5) (c := 4) (a := r) rfl]
  refine o_blk (pc' := 176) (st' := [(.int (vi 8)), (.int (vi (Nat.add r 4))), (.ref (ad Z ca q9.2))]) (ls' := #[.val (.int i0), .val (.int i1), .val (.int i2), .val (.int i3), .val (.ref (ad Z ca q1.2)), .val (.int (vi r)), .val (.ref (ad Z ca q9.2)), .unset, .unset, .unset, .unset, .unset]) b0_174_176 rfl ?_
  obtain ⟨q26, hq26, hM⟩ := own_krm hM (by decide) (by decide) rfl
  refine o_irem (pc' := 177) d0_176 (by decide) rfl ?_
  rw [hq26]
  refine o_blk (pc' := 180) (st' := [(.int (vi 5)), (.ref (ad Z ca q1.2)), (.int (vi q26)), (.ref (ad Z ca q9.2))]) (ls' := #[.val (.int i0), .val (.int i1), .val (.int i2), .val (.int i3), .val (.ref (ad Z ca q1.2)), .val (.int (vi r)), .val (.ref (ad Z ca q9.2)), .unset, .unset, .unset, .unset, .unset]) b0_177_180 rfl ?_
  obtain ⟨q27, hq27, hM⟩ := own_kilo hM
  refine p_iald (pc' := 181) R_q25 hq27 d0_180 rfl ?_
  refine o_blk (pc' := 183) (st' := [(.int (vi r)), (.int (vi q27)), (.int (vi q26)), (.ref (ad Z ca q9.2))]) (ls' := #[.val (.int i0), .val (.int i1), .val (.int i2), .val (.int i3), .val (.ref (ad Z ca q1.2)), .val (.int (vi r)), .val (.ref (ad Z ca q9.2)), .unset, .unset, .unset, .unset, .unset]) b0_181_183 rfl ?_
  obtain ⟨q28, hq28, hM⟩ := own_kad hM
  refine o_blk (pc' := 184) (st' := [(.int ((vi q27) + (vi r))), (.int (vi q26)), (.ref (ad Z ca q9.2))]) (ls' := #[.val (.int i0), .val (.int i1), .val (.int i2), .val (.int i3), .val (.ref (ad Z ca q1.2)), .val (.int (vi r)), .val (.ref (ad Z ca q9.2)), .unset, .unset, .unset, .unset, .unset]) b0_183_184 rfl ?_
  rw [hq28]
  refine o_blk (pc' := 186) (st' := [(.int (vi 8)), (.int (vi q28)), (.int (vi q26)), (.ref (ad Z ca q9.2))]) (ls' := #[.val (.int i0), .val (.int i1), .val (.int i2), .val (.int i3), .val (.ref (ad Z ca q1.2)), .val (.int (vi r)), .val (.ref (ad Z ca q9.2)), .unset, .unset, .unset, .unset, .unset]) b0_184_186 rfl ?_
  obtain ⟨q29, hq29, hM⟩ := own_krm hM (by decide) (by decide) rfl
  refine o_irem (pc' := 187) d0_186 (by decide) rfl ?_
  rw [hq29]
  obtain ⟨q30, hq30, hM⟩ := own_kist hM
  refine p_iast (pc' := 188) R_q25 hq30 d0_187 rfl ?_
  intro h_q30 R_q30
  refine o_blk (pc' := 193) (st' := [(.int (vi r)), (.int (vi 6)), (.ref (ad Z ca q9.2))]) (ls' := #[.val (.int i0), .val (.int i1), .val (.int i2), .val (.int i3), .val (.ref (ad Z ca q1.2)), .val (.int (vi r)), .val (.ref (ad Z ca q9.2)), .unset, .unset, .unset, .unset, .unset]) b0_188_193 rfl ?_
  refine o_blk (pc' := 194) (st' := [(.int ((vi 6) + (vi r))), (.ref (ad Z ca q9.2))]) (ls' := #[.val (.int i0), .val (.int i1), .val (.int i2), .val (.int i3), .val (.ref (ad Z ca q1.2)), .val (.int (vi r)), .val (.ref (ad Z ca q9.2)), .unset, .unset, .unset, .unset, .unset]) b0_193_194 rfl ?_
  rw [vi_addc (m := 6) (c := 5) (a := r) rfl]
  refine o_blk (pc' := 196) (st' := [(.int (vi 8)), (.int (vi (Nat.add r 5))), (.ref (ad Z ca q9.2))]) (ls' := #[.val (.int i0), .val (.int i1), .val (.int i2), .val (.int i3), .val (.ref (ad Z ca q1.2)), .val (.int (vi r)), .val (.ref (ad Z ca q9.2)), .unset, .unset, .unset, .unset, .unset]) b0_194_196 rfl ?_
  obtain ⟨q31, hq31, hM⟩ := own_krm hM (by decide) (by decide) rfl
  refine o_irem (pc' := 197) d0_196 (by decide) rfl ?_
  rw [hq31]
  refine o_blk (pc' := 200) (st' := [(.int (vi 6)), (.ref (ad Z ca q1.2)), (.int (vi q31)), (.ref (ad Z ca q9.2))]) (ls' := #[.val (.int i0), .val (.int i1), .val (.int i2), .val (.int i3), .val (.ref (ad Z ca q1.2)), .val (.int (vi r)), .val (.ref (ad Z ca q9.2)), .unset, .unset, .unset, .unset, .unset]) b0_197_200 rfl ?_
  obtain ⟨q32, hq32, hM⟩ := own_kilo hM
  refine p_iald (pc' := 201) R_q30 hq32 d0_200 rfl ?_
  refine o_blk (pc' := 203) (st' := [(.int (vi r)), (.int (vi q32)), (.int (vi q31)), (.ref (ad Z ca q9.2))]) (ls' := #[.val (.int i0), .val (.int i1), .val (.int i2), .val (.int i3), .val (.ref (ad Z ca q1.2)), .val (.int (vi r)), .val (.ref (ad Z ca q9.2)), .unset, .unset, .unset, .unset, .unset]) b0_201_203 rfl ?_
  obtain ⟨q33, hq33, hM⟩ := own_kad hM
  refine o_blk (pc' := 204) (st' := [(.int ((vi q32) + (vi r))), (.int (vi q31)), (.ref (ad Z ca q9.2))]) (ls' := #[.val (.int i0), .val (.int i1), .val (.int i2), .val (.int i3), .val (.ref (ad Z ca q1.2)), .val (.int (vi r)), .val (.ref (ad Z ca q9.2)), .unset, .unset, .unset, .unset, .unset]) b0_203_204 rfl ?_
  rw [hq33]
  refine o_blk (pc' := 206) (st' := [(.int (vi 8)), (.int (vi q33)), (.int (vi q31)), (.ref (ad Z ca q9.2))]) (ls' := #[.val (.int i0), .val (.int i1), .val (.int i2), .val (.int i3), .val (.ref (ad Z ca q1.2)), .val (.int (vi r)), .val (.ref (ad Z ca q9.2)), .unset, .unset, .unset, .unset, .unset]) b0_204_206 rfl ?_
  obtain ⟨q34, hq34, hM⟩ := own_krm hM (by decide) (by decide) rfl
  refine o_irem (pc' := 207) d0_206 (by decide) rfl ?_
  rw [hq34]
  obtain ⟨q35, hq35, hM⟩ := own_kist hM
  refine p_iast (pc' := 208) R_q30 hq35 d0_207 rfl ?_
  intro h_q35 R_q35
  refine o_blk (pc' := 214) (st' := [(.int (vi r)), (.int (vi 7)), (.ref (ad Z ca q9.2))]) (ls' := #[.val (.int i0), .val (.int i1), .val (.int i2), .val (.int i3), .val (.ref (ad Z ca q1.2)), .val (.int (vi r)), .val (.ref (ad Z ca q9.2)), .unset, .unset, .unset, .unset, .unset]) b0_208_214 rfl ?_
  refine o_blk (pc' := 215) (st' := [(.int ((vi 7) + (vi r))), (.ref (ad Z ca q9.2))]) (ls' := #[.val (.int i0), .val (.int i1), .val (.int i2), .val (.int i3), .val (.ref (ad Z ca q1.2)), .val (.int (vi r)), .val (.ref (ad Z ca q9.2)), .unset, .unset, .unset, .unset, .unset]) b0_214_215 rfl ?_
  rw [vi_addc (m := 7) (c := 6) (a := r) rfl]
  refine o_blk (pc' := 217) (st' := [(.int (vi 8)), (.int (vi (Nat.add r 6))), (.ref (ad Z ca q9.2))]) (ls' := #[.val (.int i0), .val (.int i1), .val (.int i2), .val (.int i3), .val (.ref (ad Z ca q1.2)), .val (.int (vi r)), .val (.ref (ad Z ca q9.2)), .unset, .unset, .unset, .unset, .unset]) b0_215_217 rfl ?_
  obtain ⟨q36, hq36, hM⟩ := own_krm hM (by decide) (by decide) rfl
  refine o_irem (pc' := 218) d0_217 (by decide) rfl ?_
  rw [hq36]
  refine o_blk (pc' := 222) (st' := [(.int (vi 7)), (.ref (ad Z ca q1.2)), (.int (vi q36)), (.ref (ad Z ca q9.2))]) (ls' := #[.val (.int i0), .val (.int i1), .val (.int i2), .val (.int i3), .val (.ref (ad Z ca q1.2)), .val (.int (vi r)), .val (.ref (ad Z ca q9.2)), .unset, .unset, .unset, .unset, .unset]) b0_218_222 rfl ?_
  obtain ⟨q37, hq37, hM⟩ := own_kilo hM
  refine p_iald (pc' := 223) R_q35 hq37 d0_222 rfl ?_
  refine o_blk (pc' := 225) (st' := [(.int (vi r)), (.int (vi q37)), (.int (vi q36)), (.ref (ad Z ca q9.2))]) (ls' := #[.val (.int i0), .val (.int i1), .val (.int i2), .val (.int i3), .val (.ref (ad Z ca q1.2)), .val (.int (vi r)), .val (.ref (ad Z ca q9.2)), .unset, .unset, .unset, .unset, .unset]) b0_223_225 rfl ?_
  obtain ⟨q38, hq38, hM⟩ := own_kad hM
  refine o_blk (pc' := 226) (st' := [(.int ((vi q37) + (vi r))), (.int (vi q36)), (.ref (ad Z ca q9.2))]) (ls' := #[.val (.int i0), .val (.int i1), .val (.int i2), .val (.int i3), .val (.ref (ad Z ca q1.2)), .val (.int (vi r)), .val (.ref (ad Z ca q9.2)), .unset, .unset, .unset, .unset, .unset]) b0_225_226 rfl ?_
  rw [hq38]
  refine o_blk (pc' := 228) (st' := [(.int (vi 8)), (.int (vi q38)), (.int (vi q36)), (.ref (ad Z ca q9.2))]) (ls' := #[.val (.int i0), .val (.int i1), .val (.int i2), .val (.int i3), .val (.ref (ad Z ca q1.2)), .val (.int (vi r)), .val (.ref (ad Z ca q9.2)), .unset, .unset, .unset, .unset, .unset]) b0_226_228 rfl ?_
  obtain ⟨q39, hq39, hM⟩ := own_krm hM (by decide) (by decide) rfl
  refine o_irem (pc' := 229) d0_228 (by decide) rfl ?_
  rw [hq39]
  obtain ⟨q40, hq40, hM⟩ := own_kist hM
  refine p_iast (pc' := 230) R_q35 hq40 d0_229 rfl ?_
  intro h_q40 R_q40
  refine o_blk (pc' := 231) (st' := [(.int i2)]) (ls' := #[.val (.int i0), .val (.int i1), .val (.int i2), .val (.int i3), .val (.ref (ad Z ca q1.2)), .val (.int (vi r)), .val (.ref (ad Z ca q9.2)), .unset, .unset, .unset, .unset, .unset]) b0_230_231 rfl ?_
  refine o_ldc (pc' := 233) (v := 2147483647) (own_word hw 1 rfl) d0_231 rfl ?_
  refine o_blk (pc' := 236) (st' := [(.int (vi 8)), (.int (i2 &&& (2147483647 : Int32)))]) (ls' := #[.val (.int i0), .val (.int i1), .val (.int i2), .val (.int i3), .val (.ref (ad Z ca q1.2)), .val (.int (vi r)), .val (.ref (ad Z ca q9.2)), .unset, .unset, .unset, .unset, .unset]) b0_233_236 rfl ?_
  refine o_irem (pc' := 237) d0_236 (by decide) rfl ?_
  rw [hx_u]
  refine o_blk (pc' := 239) (st' := []) (ls' := #[.val (.int i0), .val (.int i1), .val (.int i2), .val (.int i3), .val (.ref (ad Z ca q1.2)), .val (.int (vi r)), .val (.ref (ad Z ca q9.2)), .val (.int (vi u)), .unset, .unset, .unset, .unset]) b0_237_239 rfl ?_
  refine o_blk (pc' := 242) (st' := [(.int (vi 2)), (.int (vi u))]) (ls' := #[.val (.int i0), .val (.int i1), .val (.int i2), .val (.int i3), .val (.ref (ad Z ca q1.2)), .val (.int (vi r)), .val (.ref (ad Z ca q9.2)), .val (.int (vi u)), .unset, .unset, .unset, .unset]) b0_239_242 rfl ?_
  refine o_blk (pc' := 243) (st' := [(.int ((vi u) + (vi 2)))]) (ls' := #[.val (.int i0), .val (.int i1), .val (.int i2), .val (.int i3), .val (.ref (ad Z ca q1.2)), .val (.int (vi r)), .val (.ref (ad Z ca q9.2)), .val (.int (vi u)), .unset, .unset, .unset, .unset]) b0_242_243 rfl ?_
  rw [vi_inc u]
  refine o_blk (pc' := 244) (st' := [(.int i3), (.int (vi (Nat.add u 1)))]) (ls' := #[.val (.int i0), .val (.int i1), .val (.int i2), .val (.int i3), .val (.ref (ad Z ca q1.2)), .val (.int (vi r)), .val (.ref (ad Z ca q9.2)), .val (.int (vi u)), .unset, .unset, .unset, .unset]) b0_243_244 rfl ?_
  refine o_ldc (pc' := 246) (v := 2147483647) (own_word hw 1 rfl) d0_244 rfl ?_
  refine o_blk (pc' := 249) (st' := [(.int (vi 7)), (.int (i3 &&& (2147483647 : Int32))), (.int (vi (Nat.add u 1)))]) (ls' := #[.val (.int i0), .val (.int i1), .val (.int i2), .val (.int i3), .val (.ref (ad Z ca q1.2)), .val (.int (vi r)), .val (.ref (ad Z ca q9.2)), .val (.int (vi u)), .unset, .unset, .unset, .unset]) b0_246_249 rfl ?_
  refine o_irem (pc' := 250) d0_249 (by decide) rfl ?_
  refine o_blk (pc' := 251) (st' := [(.int ((vi (Nat.add u 1)) + ((i3 &&& (2147483647 : Int32)) % (vi 7))))]) (ls' := #[.val (.int i0), .val (.int i1), .val (.int i2), .val (.int i3), .val (.ref (ad Z ca q1.2)), .val (.int (vi r)), .val (.ref (ad Z ca q9.2)), .val (.int (vi u)), .unset, .unset, .unset, .unset]) b0_250_251 rfl ?_
  refine o_blk (pc' := 253) (st' := [(.int (vi 8)), (.int ((vi (Nat.add u 1)) + ((i3 &&& (2147483647 : Int32)) % (vi 7))))]) (ls' := #[.val (.int i0), .val (.int i1), .val (.int i2), .val (.int i3), .val (.ref (ad Z ca q1.2)), .val (.int (vi r)), .val (.ref (ad Z ca q9.2)), .val (.int (vi u)), .unset, .unset, .unset, .unset]) b0_251_253 rfl ?_
  refine o_irem (pc' := 254) d0_253 (by decide) rfl ?_
  rw [hx_v]
  refine o_blk (pc' := 256) (st' := []) (ls' := #[.val (.int i0), .val (.int i1), .val (.int i2), .val (.int i3), .val (.ref (ad Z ca q1.2)), .val (.int (vi r)), .val (.ref (ad Z ca q9.2)), .val (.int (vi u)), .val (.int (vi v)), .unset, .unset, .unset]) b0_254_256 rfl ?_
  obtain ⟨q41, hq41, hM⟩ := own_bdP hM
  refine p_new4 (pc' := 259) R_q40 (own_lay4 hw) rfl (own_word hw 2 rfl) (own_word hw 3 rfl) (own_word hw 4 rfl) hq41 d0_256 (by decide) (by decide) rfl ?_
  intro h_q41 R_q41
  refine o_blk (pc' := 262) (st' := [(.ref (ad Z ca q9.2)), (.ref (ad Z ca q41.2)), (.ref (ad Z ca q41.2))]) (ls' := #[.val (.int i0), .val (.int i1), .val (.int i2), .val (.int i3), .val (.ref (ad Z ca q1.2)), .val (.int (vi r)), .val (.ref (ad Z ca q9.2)), .val (.int (vi u)), .val (.int (vi v)), .unset, .unset, .unset]) b0_259_262 rfl ?_
  obtain ⟨q42, hq42, hM⟩ := own_bdP hM
  refine o_callI (W := 1) (argsL := [(.ref (ad Z ca q9.2))]) (rest := [(.ref (ad Z ca q41.2))]) (pc' := 265) rfl (own_word hw 5 rfl) (own_word hw 6 rfl) (own_word hw 7 rfl) (own_word hw 4 rfl) (by decide) (fun hE => rm_ini l Z a0 hw ca K q41.1 q41.2 q9.2 q42 h_q41 hE R_q41 hq42) d0_262 pd_15 rfl rfl rfl (Nat.le_of_eq rfl) (by decide) (by decide) (by decide) (by decide) rfl ?_
  rintro _ h_q42 ⟨rfl, R_q42⟩ hs_q42
  refine o_blk (pc' := 267) (st' := []) (ls' := #[.val (.int i0), .val (.int i1), .val (.int i2), .val (.int i3), .val (.ref (ad Z ca q1.2)), .val (.int (vi r)), .val (.ref (ad Z ca q9.2)), .val (.int (vi u)), .val (.int (vi v)), .val (.ref (ad Z ca q41.2)), .unset, .unset]) b0_265_267 rfl ?_
  obtain ⟨hb43, hM⟩ := own_gd hM
  cases hM
  have hM : L_law  1 267 q42.1 (Nat.div (Nat.add (Nat.mul 1000 q1.2) q41.2) 1000) r u v (Nat.mod (Nat.add (Nat.mul 1000 q1.2) q41.2) 1000) = some res := hL
  rw [(own_pk hb43).1, (own_pk hb43).2] at hM
  exact (LP 1) _ _ _ _ _ _ _ _ (Pl.r _) _ Pl.u _ Pl.u R_q42 hM
theorem own_len {s : State} {args : Array Value} {t : Term} {a : Addr} {cl : Cell} {z : Int32} (ev : t.eval args s none [] s = some (.ref a)) (ha : s.arrayAt? a = some cl) (e : (Term.length t).eval args s none [] s = some (.int z)) : cl.slots.size < 2 ^ 31 ∧ cl.slots.size.toInt32 = z := by
  simp [Term.eval, ev, ha] at e
  exact e
theorem own_bxs {s : State} {args : Array Value} {C D : String} {ca : Addr} {cc : Cell} (ev : (Term.static C "cache" D).eval args s none [] s = some (.ref ca)) (A : Arr s s.heap ca cc (.object "java/lang/Integer"))
    (hl : (Cond.eq (.length (.static C "cache" D)) (.int 256)).value args s none s [] = some true)
    (ha : (Cond.all (.static C "cache" D) (.and (.exactly (.elem (.static C "cache" D) (.index 0)) "java/lang/Integer") (.eq (.field (.elem (.static C "cache" D) (.index 0)) "java/lang/Integer" "value" "I") (.sub (.index 0) (.int 128))))).value args s none s [] = some true) :
    Bxs s ca cc "java/lang/Integer" "I" 256 (fun j => .int (j - 128)) := by
  have e1 := eqv_i (y := 256) rfl hl
  have q5 : s.arrayAt? ca = some cc := Arr.fin (Vm.Alike.refl _) A
  obtain ⟨q3, q4⟩ := own_len ev q5 e1
  exact Bxs.start (fun _ => ev) A q3 q4 (by decide) ha (fun X j hj h => eqv_i (by simp [Term.eval]; exact (back32 hj).1) h)
theorem own_initd {s : State} {args : Array Value} {C n d : String} (h1 : (Cond.laysStatic C n d).before args s = true) (h2 : (Cond.initializedFor C n d).before args s = true) : (Cond.initialized C).before args s = true := by
  obtain ⟨c, k, i, f, a, cell, q1, q2, -⟩ := Cond.laysStatic_spec h1
  have q3 := Cond.initializedFor_spec q2 h2
  have q4 := State.fieldFound?_class q2
  simp [Cond.before, Cond.holds, Cond.value, q1, q4, q3]
theorem own_oka {Z : State} {cb : Addr} {cc : Cell} (s1 : Sta Z Z.heap "java/lang/Integer$IntegerCache" "high" "I" (.int 127)) (s2 : Sta Z Z.heap "java/lang/Integer$IntegerCache" "cache" "[Ljava/lang/Integer;" (.ref cb)) (B : Bxs Z cb cc "java/lang/Integer" "I" 256 (fun j => .int (j - 128))) : ∃ ca, OKa Z ca := by
  have hsz : cc.slots.size = 256 := B.2.1
  have q : ∀ i : Nat, ∃ b : Addr, i < 256 → cc.slots[i]? = some (.ref b) ∧ Exa Z Z.heap b "java/lang/Integer" ∧ Fld Z Z.heap b "java/lang/Integer" "value" "I" (.int (Int32.ofNat i - 128)) := by
    intro i
    by_cases hi : i < 256
    · obtain ⟨e1, e2⟩ := own_clamp (i := i) (by omega)
      obtain ⟨b, q1, q2, q3⟩ := B.2.2.2 (Int32.ofNat i) (by rw [e2, hsz]; intro z; rcases z with z | z; exact e1 z; omega)
      rw [e2] at q1
      exact ⟨b, fun _ => ⟨q1, q2, q3⟩⟩
    · exact ⟨(0 : Nat), fun z => absurd z hi⟩
  obtain ⟨ca, hca⟩ := Classical.axiomOfChoice q
  exact ⟨ca, fun i hi => (hca i hi).2, cb, cc, s1, s2, B.1, hsz, fun i hi => (hca i hi).1⟩
theorem own_mask (r : Int32) {k : Nat} {q : Int32} (hk : k ≤ 31) (hq : q.toBitVec.toNat = 2 ^ k - 1) : ∃ s, s < 2 ^ k ∧ r &&& q = Int32.ofNat s := by
  refine ⟨r.toBitVec.toNat % 2 ^ k, Nat.mod_lt _ (Nat.two_pow_pos k), Int32.toBitVec_inj.mp (BitVec.eq_of_toNat_eq ?_)⟩
  rw [Int32.toBitVec_and, BitVec.toNat_and, hq, Nat.and_two_pow_sub_one_eq_mod]
  show _ = (BitVec.ofNat 32 _).toNat
  rw [BitVec.toNat_ofNat]
  have h1 : r.toBitVec.toNat % 2 ^ k < 2 ^ k := Nat.mod_lt _ (Nat.two_pow_pos k)
  have h2 : 2 ^ k ≤ 2 ^ 31 := Nat.pow_le_pow_right (by decide) hk
  exact (Nat.mod_eq_of_lt (by omega)).symm
theorem own_modc {s n : Nat} (hs : s < 2 ^ 31) (h3 : 1 ≤ n) (h4 : n ≤ 900) : Int32.ofNat s % vi (n + 1) = vi (s % n + 1) := by
  have h5 : s % n < n := Nat.mod_lt _ h3
  apply Int32.toInt_inj.mp
  rw [vi_toInt (by omega), Int32.toInt_mod, vi_toInt (by omega), Int32.toInt_ofNat_of_lt hs]
  rw [Int.tmod_eq_emod_of_nonneg (by omega), show (((n + 1 : Nat) : Int) - 1) = (n : Int) by omega, ← Int.natCast_emod]
  omega
theorem own_m7 (x : Int32) {n m : Nat} (h3 : 1 ≤ n) (h4 : n ≤ 900) (hm : m = n + 1) : ∃ k, k < n ∧ (x &&& vi 8) % vi m = vi (k + 1) := by
  obtain ⟨s, hs, e⟩ := own_mask x (k := 3) (q := vi 8) (by decide) (by decide)
  subst hm
  exact ⟨s % n, Nat.mod_lt _ h3, by rw [e, own_modc (by omega) h3 h4]⟩
theorem own_mM (x : Int32) {n m : Nat} (h3 : 1 ≤ n) (h4 : n ≤ 900) (hm : m = n + 1) : ∃ k, k < n ∧ (x &&& (2147483647 : Int32)) % vi m = vi (k + 1) := by
  obtain ⟨s, hs, e⟩ := own_mask x (k := 31) (q := 2147483647) (by decide) (by decide)
  subst hm
  exact ⟨s % n, Nat.mod_lt _ h3, by rw [e, own_modc hs h3 h4]⟩
theorem own_vv (x : Int32) {u : Nat} (hu : u < 7) : ∃ v, v < 7 ∧ v ≠ u ∧ (((vi (Nat.add (u + 1) 1)) + ((x &&& (2147483647 : Int32)) % (vi 7))) % (vi 8)) = vi (v + 1) := by
  obtain ⟨k, hk, e⟩ := own_mM x (n := 6) (m := 7) (by decide) (by decide) rfl
  refine ⟨(u + 1 + k) % 7, Nat.mod_lt _ (by decide), by omega, ?_⟩
  rw [e, vi_add (Nat.ble_eq_true_of_le (by show 1 ≤ u + 1 + 1 + (k + 1); omega))]
  rw [show Nat.add (u + 1) 1 + (k + 1) - 1 = (u + 1 + k) + 1 by show u + 1 + 1 + (k + 1) - 1 = _; omega]
  rw [vi_rem (n := 7) (Nat.ble_eq_true_of_le (by omega)) (Nat.ble_eq_true_of_le (by omega)) (by decide) (by decide), Nat.add_sub_cancel]
def own_an (x y : Bool) : Bool := Bool.casesOn (motive := fun _ => Bool) x false y
theorem own_an2 {x y : Bool} (q : own_an x y = true) : x = true ∧ y = true := by
  cases x
  · cases q
  · exact ⟨rfl, q⟩
def own_r7 (f : Nat → Bool) : Bool := own_an (f 1) (own_an (f 2) (own_an (f 3) (own_an (f 4) (own_an (f 5) (own_an (f 6) (f 7))))))
theorem own_r7k {f : Nat → Bool} (q : own_r7 f = true) {k : Nat} (hk : k < 7) : f (k + 1) = true := by
  obtain ⟨h1, q⟩ := own_an2 q
  obtain ⟨h2, q⟩ := own_an2 q
  obtain ⟨h3, q⟩ := own_an2 q
  obtain ⟨h4, q⟩ := own_an2 q
  obtain ⟨h5, q⟩ := own_an2 q
  obtain ⟨h6, h7⟩ := own_an2 q
  have : k = 0 ∨ k = 1 ∨ k = 2 ∨ k = 3 ∨ k = 4 ∨ k = 5 ∨ k = 6 := by omega
  rcases this with rfl | rfl | rfl | rfl | rfl | rfl | rfl <;> assumption
def own_t2 (x : Option (Nat × Nat)) : Bool := Option.casesOn (motive := fun _ => Bool) x false (fun pp => Prod.casesOn (motive := fun _ => Bool) pp (fun _ z => Nat.beq z 2))
def own_uv (H a r b u v : Nat) : Bool := Bool.casesOn (motive := fun _ => Bool) (Nat.beq u v) (own_t2 (L_law 1 267 H a r u v b)) true
def own_pr (r : Nat) (x : Option (Nat × Nat)) : Bool := Option.casesOn (motive := fun _ => Bool) x false (fun pp => Prod.casesOn (motive := fun _ => Bool) pp (fun H z => own_r7 fun u => own_r7 fun v => own_uv H (Nat.div z 1000) r (Nat.mod z 1000) u v))
def own_tree (x2 x3 x4 x5 x6 : Nat) : Bool := own_r7 fun r => own_pr r (M_pre 0 1 x2 x3 x4 x5 x6 r)
theorem own_ok {x2 x3 x4 x5 x6 : Nat} (q : own_tree x2 x3 x4 x5 x6 = true) {r u v : Nat} (hr : r < 7) (hu : u < 7) (hv : v < 7) (huv : v ≠ u) : ∃ p res, M_pre 0 1 x2 x3 x4 x5 x6 (r + 1) = some p ∧ L_law 1 267 p.1 (Nat.div p.2 1000) (r + 1) (u + 1) (v + 1) (Nat.mod p.2 1000) = some res ∧ res.2 = 2 := by
  have q1 := own_r7k q hr
  cases hp : M_pre 0 1 x2 x3 x4 x5 x6 (r + 1) with
  | none => rw [hp] at q1; cases q1
  | some p =>
    rw [hp] at q1
    have q2 := own_r7k (own_r7k (f := fun u => own_r7 fun v => own_uv p.1 (Nat.div p.2 1000) (r + 1) (Nat.mod p.2 1000) u v) q1 hu) hv
    unfold own_uv at q2
    have z : Nat.beq (u + 1) (v + 1) = false := by
      cases h : Nat.beq (u + 1) (v + 1)
      · rfl
      · exact absurd (Nat.eq_of_beq_eq_true h) (by omega)
    rw [z] at q2
    cases hl : L_law 1 267 p.1 (Nat.div p.2 1000) (r + 1) (u + 1) (v + 1) (Nat.mod p.2 1000) with
    | none =>
      have q2 : own_t2 (L_law 1 267 p.1 (Nat.div p.2 1000) (r + 1) (u + 1) (v + 1) (Nat.mod p.2 1000)) = true := q2
      rw [hl] at q2
      cases q2
    | some res =>
      have q2 : own_t2 (L_law 1 267 p.1 (Nat.div p.2 1000) (r + 1) (u + 1) (v + 1) (Nat.mod p.2 1000)) = true := q2
      rw [hl] at q2
      exact ⟨p, res, rfl, hl, Nat.eq_of_beq_eq_true q2⟩
theorem own_c2 {P : Nat → Prop} (h1 : P 1) (h2 : P 2) : ∀ k, k < 2 → P (k + 1) := fun k hk => by
  have : k = 0 ∨ k = 1 := by omega
  rcases this with rfl | rfl <;> assumption
theorem own_c3 {P : Nat → Prop} (h1 : P 1) (h2 : P 2) (h3 : P 3) : ∀ k, k < 3 → P (k + 1) := fun k hk => by
  have : k = 0 ∨ k = 1 ∨ k = 2 := by omega
  rcases this with rfl | rfl | rfl <;> assumption
theorem own_c4 {P : Nat → Prop} (h1 : P 1) (h2 : P 2) (h3 : P 3) (h4 : P 4) : ∀ k, k < 4 → P (k + 1) := fun k hk => by
  have : k = 0 ∨ k = 1 ∨ k = 2 ∨ k = 3 := by omega
  rcases this with rfl | rfl | rfl | rfl <;> assumption
theorem own_c5 {P : Nat → Prop} (h1 : P 1) (h2 : P 2) (h3 : P 3) (h4 : P 4) (h5 : P 5) : ∀ k, k < 5 → P (k + 1) := fun k hk => by
  have : k = 0 ∨ k = 1 ∨ k = 2 ∨ k = 3 ∨ k = 4 := by omega
  rcases this with rfl | rfl | rfl | rfl | rfl <;> assumption
theorem own_c6 {P : Nat → Prop} (h1 : P 1) (h2 : P 2) (h3 : P 3) (h4 : P 4) (h5 : P 5) (h6 : P 6) : ∀ k, k < 6 → P (k + 1) := fun k hk => by
  have : k = 0 ∨ k = 1 ∨ k = 2 ∨ k = 3 ∨ k = 4 ∨ k = 5 := by omega
  rcases this with rfl | rfl | rfl | rfl | rfl | rfl <;> assumption

theorem own_e11111 : own_tree 1 1 1 1 1 = true := by decide +kernel
theorem own_e11112 : own_tree 1 1 1 1 2 = true := by decide +kernel
theorem own_e11113 : own_tree 1 1 1 1 3 = true := by decide +kernel
theorem own_e11114 : own_tree 1 1 1 1 4 = true := by decide +kernel
theorem own_e11115 : own_tree 1 1 1 1 5 = true := by decide +kernel
theorem own_e11116 : own_tree 1 1 1 1 6 = true := by decide +kernel
theorem own_e11121 : own_tree 1 1 1 2 1 = true := by decide +kernel
theorem own_e11122 : own_tree 1 1 1 2 2 = true := by decide +kernel
theorem own_e11123 : own_tree 1 1 1 2 3 = true := by decide +kernel
theorem own_e11124 : own_tree 1 1 1 2 4 = true := by decide +kernel
theorem own_e11125 : own_tree 1 1 1 2 5 = true := by decide +kernel
theorem own_e11126 : own_tree 1 1 1 2 6 = true := by decide +kernel
theorem own_e11131 : own_tree 1 1 1 3 1 = true := by decide +kernel
theorem own_e11132 : own_tree 1 1 1 3 2 = true := by decide +kernel
theorem own_e11133 : own_tree 1 1 1 3 3 = true := by decide +kernel
theorem own_e11134 : own_tree 1 1 1 3 4 = true := by decide +kernel
theorem own_e11135 : own_tree 1 1 1 3 5 = true := by decide +kernel
theorem own_e11136 : own_tree 1 1 1 3 6 = true := by decide +kernel
theorem own_e11141 : own_tree 1 1 1 4 1 = true := by decide +kernel
theorem own_e11142 : own_tree 1 1 1 4 2 = true := by decide +kernel
theorem own_e11143 : own_tree 1 1 1 4 3 = true := by decide +kernel
theorem own_e11144 : own_tree 1 1 1 4 4 = true := by decide +kernel
theorem own_e11145 : own_tree 1 1 1 4 5 = true := by decide +kernel
theorem own_e11146 : own_tree 1 1 1 4 6 = true := by decide +kernel
theorem own_e11151 : own_tree 1 1 1 5 1 = true := by decide +kernel
theorem own_e11152 : own_tree 1 1 1 5 2 = true := by decide +kernel
theorem own_e11153 : own_tree 1 1 1 5 3 = true := by decide +kernel
theorem own_e11154 : own_tree 1 1 1 5 4 = true := by decide +kernel
theorem own_e11155 : own_tree 1 1 1 5 5 = true := by decide +kernel
theorem own_e11156 : own_tree 1 1 1 5 6 = true := by decide +kernel
theorem own_e11211 : own_tree 1 1 2 1 1 = true := by decide +kernel
theorem own_e11212 : own_tree 1 1 2 1 2 = true := by decide +kernel
theorem own_e11213 : own_tree 1 1 2 1 3 = true := by decide +kernel
theorem own_e11214 : own_tree 1 1 2 1 4 = true := by decide +kernel
theorem own_e11215 : own_tree 1 1 2 1 5 = true := by decide +kernel
theorem own_e11216 : own_tree 1 1 2 1 6 = true := by decide +kernel
theorem own_e11221 : own_tree 1 1 2 2 1 = true := by decide +kernel
theorem own_e11222 : own_tree 1 1 2 2 2 = true := by decide +kernel
theorem own_e11223 : own_tree 1 1 2 2 3 = true := by decide +kernel
theorem own_e11224 : own_tree 1 1 2 2 4 = true := by decide +kernel
theorem own_e11225 : own_tree 1 1 2 2 5 = true := by decide +kernel
theorem own_e11226 : own_tree 1 1 2 2 6 = true := by decide +kernel
theorem own_e11231 : own_tree 1 1 2 3 1 = true := by decide +kernel
theorem own_e11232 : own_tree 1 1 2 3 2 = true := by decide +kernel
theorem own_e11233 : own_tree 1 1 2 3 3 = true := by decide +kernel
theorem own_e11234 : own_tree 1 1 2 3 4 = true := by decide +kernel
theorem own_e11235 : own_tree 1 1 2 3 5 = true := by decide +kernel
theorem own_e11236 : own_tree 1 1 2 3 6 = true := by decide +kernel
theorem own_e11241 : own_tree 1 1 2 4 1 = true := by decide +kernel
theorem own_e11242 : own_tree 1 1 2 4 2 = true := by decide +kernel
theorem own_e11243 : own_tree 1 1 2 4 3 = true := by decide +kernel
theorem own_e11244 : own_tree 1 1 2 4 4 = true := by decide +kernel
theorem own_e11245 : own_tree 1 1 2 4 5 = true := by decide +kernel
theorem own_e11246 : own_tree 1 1 2 4 6 = true := by decide +kernel
theorem own_e11251 : own_tree 1 1 2 5 1 = true := by decide +kernel
theorem own_e11252 : own_tree 1 1 2 5 2 = true := by decide +kernel
theorem own_e11253 : own_tree 1 1 2 5 3 = true := by decide +kernel
theorem own_e11254 : own_tree 1 1 2 5 4 = true := by decide +kernel
theorem own_e11255 : own_tree 1 1 2 5 5 = true := by decide +kernel
theorem own_e11256 : own_tree 1 1 2 5 6 = true := by decide +kernel
theorem own_e11311 : own_tree 1 1 3 1 1 = true := by decide +kernel
theorem own_e11312 : own_tree 1 1 3 1 2 = true := by decide +kernel
theorem own_e11313 : own_tree 1 1 3 1 3 = true := by decide +kernel
theorem own_e11314 : own_tree 1 1 3 1 4 = true := by decide +kernel
theorem own_e11315 : own_tree 1 1 3 1 5 = true := by decide +kernel
theorem own_e11316 : own_tree 1 1 3 1 6 = true := by decide +kernel
theorem own_e11321 : own_tree 1 1 3 2 1 = true := by decide +kernel
theorem own_e11322 : own_tree 1 1 3 2 2 = true := by decide +kernel
theorem own_e11323 : own_tree 1 1 3 2 3 = true := by decide +kernel
theorem own_e11324 : own_tree 1 1 3 2 4 = true := by decide +kernel
theorem own_e11325 : own_tree 1 1 3 2 5 = true := by decide +kernel
theorem own_e11326 : own_tree 1 1 3 2 6 = true := by decide +kernel
theorem own_e11331 : own_tree 1 1 3 3 1 = true := by decide +kernel
theorem own_e11332 : own_tree 1 1 3 3 2 = true := by decide +kernel
theorem own_e11333 : own_tree 1 1 3 3 3 = true := by decide +kernel
theorem own_e11334 : own_tree 1 1 3 3 4 = true := by decide +kernel
theorem own_e11335 : own_tree 1 1 3 3 5 = true := by decide +kernel
theorem own_e11336 : own_tree 1 1 3 3 6 = true := by decide +kernel
theorem own_e11341 : own_tree 1 1 3 4 1 = true := by decide +kernel
theorem own_e11342 : own_tree 1 1 3 4 2 = true := by decide +kernel
theorem own_e11343 : own_tree 1 1 3 4 3 = true := by decide +kernel
theorem own_e11344 : own_tree 1 1 3 4 4 = true := by decide +kernel
theorem own_e11345 : own_tree 1 1 3 4 5 = true := by decide +kernel
theorem own_e11346 : own_tree 1 1 3 4 6 = true := by decide +kernel
theorem own_e11351 : own_tree 1 1 3 5 1 = true := by decide +kernel
theorem own_e11352 : own_tree 1 1 3 5 2 = true := by decide +kernel
theorem own_e11353 : own_tree 1 1 3 5 3 = true := by decide +kernel
theorem own_e11354 : own_tree 1 1 3 5 4 = true := by decide +kernel
theorem own_e11355 : own_tree 1 1 3 5 5 = true := by decide +kernel
theorem own_e11356 : own_tree 1 1 3 5 6 = true := by decide +kernel
theorem own_e11411 : own_tree 1 1 4 1 1 = true := by decide +kernel
theorem own_e11412 : own_tree 1 1 4 1 2 = true := by decide +kernel
theorem own_e11413 : own_tree 1 1 4 1 3 = true := by decide +kernel
theorem own_e11414 : own_tree 1 1 4 1 4 = true := by decide +kernel
theorem own_e11415 : own_tree 1 1 4 1 5 = true := by decide +kernel
theorem own_e11416 : own_tree 1 1 4 1 6 = true := by decide +kernel
theorem own_e11421 : own_tree 1 1 4 2 1 = true := by decide +kernel
theorem own_e11422 : own_tree 1 1 4 2 2 = true := by decide +kernel
theorem own_e11423 : own_tree 1 1 4 2 3 = true := by decide +kernel
theorem own_e11424 : own_tree 1 1 4 2 4 = true := by decide +kernel
theorem own_e11425 : own_tree 1 1 4 2 5 = true := by decide +kernel
theorem own_e11426 : own_tree 1 1 4 2 6 = true := by decide +kernel
theorem own_e11431 : own_tree 1 1 4 3 1 = true := by decide +kernel
theorem own_e11432 : own_tree 1 1 4 3 2 = true := by decide +kernel
theorem own_e11433 : own_tree 1 1 4 3 3 = true := by decide +kernel
theorem own_e11434 : own_tree 1 1 4 3 4 = true := by decide +kernel
theorem own_e11435 : own_tree 1 1 4 3 5 = true := by decide +kernel
theorem own_e11436 : own_tree 1 1 4 3 6 = true := by decide +kernel
theorem own_e11441 : own_tree 1 1 4 4 1 = true := by decide +kernel
theorem own_e11442 : own_tree 1 1 4 4 2 = true := by decide +kernel
theorem own_e11443 : own_tree 1 1 4 4 3 = true := by decide +kernel
theorem own_e11444 : own_tree 1 1 4 4 4 = true := by decide +kernel
theorem own_e11445 : own_tree 1 1 4 4 5 = true := by decide +kernel
theorem own_e11446 : own_tree 1 1 4 4 6 = true := by decide +kernel
theorem own_e11451 : own_tree 1 1 4 5 1 = true := by decide +kernel
theorem own_e11452 : own_tree 1 1 4 5 2 = true := by decide +kernel
theorem own_e11453 : own_tree 1 1 4 5 3 = true := by decide +kernel
theorem own_e11454 : own_tree 1 1 4 5 4 = true := by decide +kernel
theorem own_e11455 : own_tree 1 1 4 5 5 = true := by decide +kernel
theorem own_e11456 : own_tree 1 1 4 5 6 = true := by decide +kernel
theorem own_e12111 : own_tree 1 2 1 1 1 = true := by decide +kernel
theorem own_e12112 : own_tree 1 2 1 1 2 = true := by decide +kernel
theorem own_e12113 : own_tree 1 2 1 1 3 = true := by decide +kernel
theorem own_e12114 : own_tree 1 2 1 1 4 = true := by decide +kernel
theorem own_e12115 : own_tree 1 2 1 1 5 = true := by decide +kernel
theorem own_e12116 : own_tree 1 2 1 1 6 = true := by decide +kernel
theorem own_e12121 : own_tree 1 2 1 2 1 = true := by decide +kernel
theorem own_e12122 : own_tree 1 2 1 2 2 = true := by decide +kernel
theorem own_e12123 : own_tree 1 2 1 2 3 = true := by decide +kernel
theorem own_e12124 : own_tree 1 2 1 2 4 = true := by decide +kernel
theorem own_e12125 : own_tree 1 2 1 2 5 = true := by decide +kernel
theorem own_e12126 : own_tree 1 2 1 2 6 = true := by decide +kernel
theorem own_e12131 : own_tree 1 2 1 3 1 = true := by decide +kernel
theorem own_e12132 : own_tree 1 2 1 3 2 = true := by decide +kernel
theorem own_e12133 : own_tree 1 2 1 3 3 = true := by decide +kernel
theorem own_e12134 : own_tree 1 2 1 3 4 = true := by decide +kernel
theorem own_e12135 : own_tree 1 2 1 3 5 = true := by decide +kernel
theorem own_e12136 : own_tree 1 2 1 3 6 = true := by decide +kernel
theorem own_e12141 : own_tree 1 2 1 4 1 = true := by decide +kernel
theorem own_e12142 : own_tree 1 2 1 4 2 = true := by decide +kernel
theorem own_e12143 : own_tree 1 2 1 4 3 = true := by decide +kernel
theorem own_e12144 : own_tree 1 2 1 4 4 = true := by decide +kernel
theorem own_e12145 : own_tree 1 2 1 4 5 = true := by decide +kernel
theorem own_e12146 : own_tree 1 2 1 4 6 = true := by decide +kernel
theorem own_e12151 : own_tree 1 2 1 5 1 = true := by decide +kernel
theorem own_e12152 : own_tree 1 2 1 5 2 = true := by decide +kernel
theorem own_e12153 : own_tree 1 2 1 5 3 = true := by decide +kernel
theorem own_e12154 : own_tree 1 2 1 5 4 = true := by decide +kernel
theorem own_e12155 : own_tree 1 2 1 5 5 = true := by decide +kernel
theorem own_e12156 : own_tree 1 2 1 5 6 = true := by decide +kernel
theorem own_e12211 : own_tree 1 2 2 1 1 = true := by decide +kernel
theorem own_e12212 : own_tree 1 2 2 1 2 = true := by decide +kernel
theorem own_e12213 : own_tree 1 2 2 1 3 = true := by decide +kernel
theorem own_e12214 : own_tree 1 2 2 1 4 = true := by decide +kernel
theorem own_e12215 : own_tree 1 2 2 1 5 = true := by decide +kernel
theorem own_e12216 : own_tree 1 2 2 1 6 = true := by decide +kernel
theorem own_e12221 : own_tree 1 2 2 2 1 = true := by decide +kernel
theorem own_e12222 : own_tree 1 2 2 2 2 = true := by decide +kernel
theorem own_e12223 : own_tree 1 2 2 2 3 = true := by decide +kernel
theorem own_e12224 : own_tree 1 2 2 2 4 = true := by decide +kernel
theorem own_e12225 : own_tree 1 2 2 2 5 = true := by decide +kernel
theorem own_e12226 : own_tree 1 2 2 2 6 = true := by decide +kernel
theorem own_e12231 : own_tree 1 2 2 3 1 = true := by decide +kernel
theorem own_e12232 : own_tree 1 2 2 3 2 = true := by decide +kernel
theorem own_e12233 : own_tree 1 2 2 3 3 = true := by decide +kernel
theorem own_e12234 : own_tree 1 2 2 3 4 = true := by decide +kernel
theorem own_e12235 : own_tree 1 2 2 3 5 = true := by decide +kernel
theorem own_e12236 : own_tree 1 2 2 3 6 = true := by decide +kernel
theorem own_e12241 : own_tree 1 2 2 4 1 = true := by decide +kernel
theorem own_e12242 : own_tree 1 2 2 4 2 = true := by decide +kernel
theorem own_e12243 : own_tree 1 2 2 4 3 = true := by decide +kernel
theorem own_e12244 : own_tree 1 2 2 4 4 = true := by decide +kernel
theorem own_e12245 : own_tree 1 2 2 4 5 = true := by decide +kernel
theorem own_e12246 : own_tree 1 2 2 4 6 = true := by decide +kernel
theorem own_e12251 : own_tree 1 2 2 5 1 = true := by decide +kernel
theorem own_e12252 : own_tree 1 2 2 5 2 = true := by decide +kernel
theorem own_e12253 : own_tree 1 2 2 5 3 = true := by decide +kernel
theorem own_e12254 : own_tree 1 2 2 5 4 = true := by decide +kernel
theorem own_e12255 : own_tree 1 2 2 5 5 = true := by decide +kernel
theorem own_e12256 : own_tree 1 2 2 5 6 = true := by decide +kernel
theorem own_e12311 : own_tree 1 2 3 1 1 = true := by decide +kernel
theorem own_e12312 : own_tree 1 2 3 1 2 = true := by decide +kernel
theorem own_e12313 : own_tree 1 2 3 1 3 = true := by decide +kernel
theorem own_e12314 : own_tree 1 2 3 1 4 = true := by decide +kernel
theorem own_e12315 : own_tree 1 2 3 1 5 = true := by decide +kernel
theorem own_e12316 : own_tree 1 2 3 1 6 = true := by decide +kernel
theorem own_e12321 : own_tree 1 2 3 2 1 = true := by decide +kernel
theorem own_e12322 : own_tree 1 2 3 2 2 = true := by decide +kernel
theorem own_e12323 : own_tree 1 2 3 2 3 = true := by decide +kernel
theorem own_e12324 : own_tree 1 2 3 2 4 = true := by decide +kernel
theorem own_e12325 : own_tree 1 2 3 2 5 = true := by decide +kernel
theorem own_e12326 : own_tree 1 2 3 2 6 = true := by decide +kernel
theorem own_e12331 : own_tree 1 2 3 3 1 = true := by decide +kernel
theorem own_e12332 : own_tree 1 2 3 3 2 = true := by decide +kernel
theorem own_e12333 : own_tree 1 2 3 3 3 = true := by decide +kernel
theorem own_e12334 : own_tree 1 2 3 3 4 = true := by decide +kernel
theorem own_e12335 : own_tree 1 2 3 3 5 = true := by decide +kernel
theorem own_e12336 : own_tree 1 2 3 3 6 = true := by decide +kernel
theorem own_e12341 : own_tree 1 2 3 4 1 = true := by decide +kernel
theorem own_e12342 : own_tree 1 2 3 4 2 = true := by decide +kernel
theorem own_e12343 : own_tree 1 2 3 4 3 = true := by decide +kernel
theorem own_e12344 : own_tree 1 2 3 4 4 = true := by decide +kernel
theorem own_e12345 : own_tree 1 2 3 4 5 = true := by decide +kernel
theorem own_e12346 : own_tree 1 2 3 4 6 = true := by decide +kernel
theorem own_e12351 : own_tree 1 2 3 5 1 = true := by decide +kernel
theorem own_e12352 : own_tree 1 2 3 5 2 = true := by decide +kernel
theorem own_e12353 : own_tree 1 2 3 5 3 = true := by decide +kernel
theorem own_e12354 : own_tree 1 2 3 5 4 = true := by decide +kernel
theorem own_e12355 : own_tree 1 2 3 5 5 = true := by decide +kernel
theorem own_e12356 : own_tree 1 2 3 5 6 = true := by decide +kernel
theorem own_e12411 : own_tree 1 2 4 1 1 = true := by decide +kernel
theorem own_e12412 : own_tree 1 2 4 1 2 = true := by decide +kernel
theorem own_e12413 : own_tree 1 2 4 1 3 = true := by decide +kernel
theorem own_e12414 : own_tree 1 2 4 1 4 = true := by decide +kernel
theorem own_e12415 : own_tree 1 2 4 1 5 = true := by decide +kernel
theorem own_e12416 : own_tree 1 2 4 1 6 = true := by decide +kernel
theorem own_e12421 : own_tree 1 2 4 2 1 = true := by decide +kernel
theorem own_e12422 : own_tree 1 2 4 2 2 = true := by decide +kernel
theorem own_e12423 : own_tree 1 2 4 2 3 = true := by decide +kernel
theorem own_e12424 : own_tree 1 2 4 2 4 = true := by decide +kernel
theorem own_e12425 : own_tree 1 2 4 2 5 = true := by decide +kernel
theorem own_e12426 : own_tree 1 2 4 2 6 = true := by decide +kernel
theorem own_e12431 : own_tree 1 2 4 3 1 = true := by decide +kernel
theorem own_e12432 : own_tree 1 2 4 3 2 = true := by decide +kernel
theorem own_e12433 : own_tree 1 2 4 3 3 = true := by decide +kernel
theorem own_e12434 : own_tree 1 2 4 3 4 = true := by decide +kernel
theorem own_e12435 : own_tree 1 2 4 3 5 = true := by decide +kernel
theorem own_e12436 : own_tree 1 2 4 3 6 = true := by decide +kernel
theorem own_e12441 : own_tree 1 2 4 4 1 = true := by decide +kernel
theorem own_e12442 : own_tree 1 2 4 4 2 = true := by decide +kernel
theorem own_e12443 : own_tree 1 2 4 4 3 = true := by decide +kernel
theorem own_e12444 : own_tree 1 2 4 4 4 = true := by decide +kernel
theorem own_e12445 : own_tree 1 2 4 4 5 = true := by decide +kernel
theorem own_e12446 : own_tree 1 2 4 4 6 = true := by decide +kernel
theorem own_e12451 : own_tree 1 2 4 5 1 = true := by decide +kernel
theorem own_e12452 : own_tree 1 2 4 5 2 = true := by decide +kernel
theorem own_e12453 : own_tree 1 2 4 5 3 = true := by decide +kernel
theorem own_e12454 : own_tree 1 2 4 5 4 = true := by decide +kernel
theorem own_e12455 : own_tree 1 2 4 5 5 = true := by decide +kernel
theorem own_e12456 : own_tree 1 2 4 5 6 = true := by decide +kernel
theorem own_e13111 : own_tree 1 3 1 1 1 = true := by decide +kernel
theorem own_e13112 : own_tree 1 3 1 1 2 = true := by decide +kernel
theorem own_e13113 : own_tree 1 3 1 1 3 = true := by decide +kernel
theorem own_e13114 : own_tree 1 3 1 1 4 = true := by decide +kernel
theorem own_e13115 : own_tree 1 3 1 1 5 = true := by decide +kernel
theorem own_e13116 : own_tree 1 3 1 1 6 = true := by decide +kernel
theorem own_e13121 : own_tree 1 3 1 2 1 = true := by decide +kernel
theorem own_e13122 : own_tree 1 3 1 2 2 = true := by decide +kernel
theorem own_e13123 : own_tree 1 3 1 2 3 = true := by decide +kernel
theorem own_e13124 : own_tree 1 3 1 2 4 = true := by decide +kernel
theorem own_e13125 : own_tree 1 3 1 2 5 = true := by decide +kernel
theorem own_e13126 : own_tree 1 3 1 2 6 = true := by decide +kernel
theorem own_e13131 : own_tree 1 3 1 3 1 = true := by decide +kernel
theorem own_e13132 : own_tree 1 3 1 3 2 = true := by decide +kernel
theorem own_e13133 : own_tree 1 3 1 3 3 = true := by decide +kernel
theorem own_e13134 : own_tree 1 3 1 3 4 = true := by decide +kernel
theorem own_e13135 : own_tree 1 3 1 3 5 = true := by decide +kernel
theorem own_e13136 : own_tree 1 3 1 3 6 = true := by decide +kernel
theorem own_e13141 : own_tree 1 3 1 4 1 = true := by decide +kernel
theorem own_e13142 : own_tree 1 3 1 4 2 = true := by decide +kernel
theorem own_e13143 : own_tree 1 3 1 4 3 = true := by decide +kernel
theorem own_e13144 : own_tree 1 3 1 4 4 = true := by decide +kernel
theorem own_e13145 : own_tree 1 3 1 4 5 = true := by decide +kernel
theorem own_e13146 : own_tree 1 3 1 4 6 = true := by decide +kernel
theorem own_e13151 : own_tree 1 3 1 5 1 = true := by decide +kernel
theorem own_e13152 : own_tree 1 3 1 5 2 = true := by decide +kernel
theorem own_e13153 : own_tree 1 3 1 5 3 = true := by decide +kernel
theorem own_e13154 : own_tree 1 3 1 5 4 = true := by decide +kernel
theorem own_e13155 : own_tree 1 3 1 5 5 = true := by decide +kernel
theorem own_e13156 : own_tree 1 3 1 5 6 = true := by decide +kernel
theorem own_e13211 : own_tree 1 3 2 1 1 = true := by decide +kernel
theorem own_e13212 : own_tree 1 3 2 1 2 = true := by decide +kernel
theorem own_e13213 : own_tree 1 3 2 1 3 = true := by decide +kernel
theorem own_e13214 : own_tree 1 3 2 1 4 = true := by decide +kernel
theorem own_e13215 : own_tree 1 3 2 1 5 = true := by decide +kernel
theorem own_e13216 : own_tree 1 3 2 1 6 = true := by decide +kernel
theorem own_e13221 : own_tree 1 3 2 2 1 = true := by decide +kernel
theorem own_e13222 : own_tree 1 3 2 2 2 = true := by decide +kernel
theorem own_e13223 : own_tree 1 3 2 2 3 = true := by decide +kernel
theorem own_e13224 : own_tree 1 3 2 2 4 = true := by decide +kernel
theorem own_e13225 : own_tree 1 3 2 2 5 = true := by decide +kernel
theorem own_e13226 : own_tree 1 3 2 2 6 = true := by decide +kernel
theorem own_e13231 : own_tree 1 3 2 3 1 = true := by decide +kernel
theorem own_e13232 : own_tree 1 3 2 3 2 = true := by decide +kernel
theorem own_e13233 : own_tree 1 3 2 3 3 = true := by decide +kernel
theorem own_e13234 : own_tree 1 3 2 3 4 = true := by decide +kernel
theorem own_e13235 : own_tree 1 3 2 3 5 = true := by decide +kernel
theorem own_e13236 : own_tree 1 3 2 3 6 = true := by decide +kernel
theorem own_e13241 : own_tree 1 3 2 4 1 = true := by decide +kernel
theorem own_e13242 : own_tree 1 3 2 4 2 = true := by decide +kernel
theorem own_e13243 : own_tree 1 3 2 4 3 = true := by decide +kernel
theorem own_e13244 : own_tree 1 3 2 4 4 = true := by decide +kernel
theorem own_e13245 : own_tree 1 3 2 4 5 = true := by decide +kernel
theorem own_e13246 : own_tree 1 3 2 4 6 = true := by decide +kernel
theorem own_e13251 : own_tree 1 3 2 5 1 = true := by decide +kernel
theorem own_e13252 : own_tree 1 3 2 5 2 = true := by decide +kernel
theorem own_e13253 : own_tree 1 3 2 5 3 = true := by decide +kernel
theorem own_e13254 : own_tree 1 3 2 5 4 = true := by decide +kernel
theorem own_e13255 : own_tree 1 3 2 5 5 = true := by decide +kernel
theorem own_e13256 : own_tree 1 3 2 5 6 = true := by decide +kernel
theorem own_e13311 : own_tree 1 3 3 1 1 = true := by decide +kernel
theorem own_e13312 : own_tree 1 3 3 1 2 = true := by decide +kernel
theorem own_e13313 : own_tree 1 3 3 1 3 = true := by decide +kernel
theorem own_e13314 : own_tree 1 3 3 1 4 = true := by decide +kernel
theorem own_e13315 : own_tree 1 3 3 1 5 = true := by decide +kernel
theorem own_e13316 : own_tree 1 3 3 1 6 = true := by decide +kernel
theorem own_e13321 : own_tree 1 3 3 2 1 = true := by decide +kernel
theorem own_e13322 : own_tree 1 3 3 2 2 = true := by decide +kernel
theorem own_e13323 : own_tree 1 3 3 2 3 = true := by decide +kernel
theorem own_e13324 : own_tree 1 3 3 2 4 = true := by decide +kernel
theorem own_e13325 : own_tree 1 3 3 2 5 = true := by decide +kernel
theorem own_e13326 : own_tree 1 3 3 2 6 = true := by decide +kernel
theorem own_e13331 : own_tree 1 3 3 3 1 = true := by decide +kernel
theorem own_e13332 : own_tree 1 3 3 3 2 = true := by decide +kernel
theorem own_e13333 : own_tree 1 3 3 3 3 = true := by decide +kernel
theorem own_e13334 : own_tree 1 3 3 3 4 = true := by decide +kernel
theorem own_e13335 : own_tree 1 3 3 3 5 = true := by decide +kernel
theorem own_e13336 : own_tree 1 3 3 3 6 = true := by decide +kernel
theorem own_e13341 : own_tree 1 3 3 4 1 = true := by decide +kernel
theorem own_e13342 : own_tree 1 3 3 4 2 = true := by decide +kernel
theorem own_e13343 : own_tree 1 3 3 4 3 = true := by decide +kernel
theorem own_e13344 : own_tree 1 3 3 4 4 = true := by decide +kernel
theorem own_e13345 : own_tree 1 3 3 4 5 = true := by decide +kernel
theorem own_e13346 : own_tree 1 3 3 4 6 = true := by decide +kernel
theorem own_e13351 : own_tree 1 3 3 5 1 = true := by decide +kernel
theorem own_e13352 : own_tree 1 3 3 5 2 = true := by decide +kernel
theorem own_e13353 : own_tree 1 3 3 5 3 = true := by decide +kernel
theorem own_e13354 : own_tree 1 3 3 5 4 = true := by decide +kernel
theorem own_e13355 : own_tree 1 3 3 5 5 = true := by decide +kernel
theorem own_e13356 : own_tree 1 3 3 5 6 = true := by decide +kernel
theorem own_e13411 : own_tree 1 3 4 1 1 = true := by decide +kernel
theorem own_e13412 : own_tree 1 3 4 1 2 = true := by decide +kernel
theorem own_e13413 : own_tree 1 3 4 1 3 = true := by decide +kernel
theorem own_e13414 : own_tree 1 3 4 1 4 = true := by decide +kernel
theorem own_e13415 : own_tree 1 3 4 1 5 = true := by decide +kernel
theorem own_e13416 : own_tree 1 3 4 1 6 = true := by decide +kernel
theorem own_e13421 : own_tree 1 3 4 2 1 = true := by decide +kernel
theorem own_e13422 : own_tree 1 3 4 2 2 = true := by decide +kernel
theorem own_e13423 : own_tree 1 3 4 2 3 = true := by decide +kernel
theorem own_e13424 : own_tree 1 3 4 2 4 = true := by decide +kernel
theorem own_e13425 : own_tree 1 3 4 2 5 = true := by decide +kernel
theorem own_e13426 : own_tree 1 3 4 2 6 = true := by decide +kernel
theorem own_e13431 : own_tree 1 3 4 3 1 = true := by decide +kernel
theorem own_e13432 : own_tree 1 3 4 3 2 = true := by decide +kernel
theorem own_e13433 : own_tree 1 3 4 3 3 = true := by decide +kernel
theorem own_e13434 : own_tree 1 3 4 3 4 = true := by decide +kernel
theorem own_e13435 : own_tree 1 3 4 3 5 = true := by decide +kernel
theorem own_e13436 : own_tree 1 3 4 3 6 = true := by decide +kernel
theorem own_e13441 : own_tree 1 3 4 4 1 = true := by decide +kernel
theorem own_e13442 : own_tree 1 3 4 4 2 = true := by decide +kernel
theorem own_e13443 : own_tree 1 3 4 4 3 = true := by decide +kernel
theorem own_e13444 : own_tree 1 3 4 4 4 = true := by decide +kernel
theorem own_e13445 : own_tree 1 3 4 4 5 = true := by decide +kernel
theorem own_e13446 : own_tree 1 3 4 4 6 = true := by decide +kernel
theorem own_e13451 : own_tree 1 3 4 5 1 = true := by decide +kernel
theorem own_e13452 : own_tree 1 3 4 5 2 = true := by decide +kernel
theorem own_e13453 : own_tree 1 3 4 5 3 = true := by decide +kernel
theorem own_e13454 : own_tree 1 3 4 5 4 = true := by decide +kernel
theorem own_e13455 : own_tree 1 3 4 5 5 = true := by decide +kernel
theorem own_e13456 : own_tree 1 3 4 5 6 = true := by decide +kernel
theorem own_e21111 : own_tree 2 1 1 1 1 = true := by decide +kernel
theorem own_e21112 : own_tree 2 1 1 1 2 = true := by decide +kernel
theorem own_e21113 : own_tree 2 1 1 1 3 = true := by decide +kernel
theorem own_e21114 : own_tree 2 1 1 1 4 = true := by decide +kernel
theorem own_e21115 : own_tree 2 1 1 1 5 = true := by decide +kernel
theorem own_e21116 : own_tree 2 1 1 1 6 = true := by decide +kernel
theorem own_e21121 : own_tree 2 1 1 2 1 = true := by decide +kernel
theorem own_e21122 : own_tree 2 1 1 2 2 = true := by decide +kernel
theorem own_e21123 : own_tree 2 1 1 2 3 = true := by decide +kernel
theorem own_e21124 : own_tree 2 1 1 2 4 = true := by decide +kernel
theorem own_e21125 : own_tree 2 1 1 2 5 = true := by decide +kernel
theorem own_e21126 : own_tree 2 1 1 2 6 = true := by decide +kernel
theorem own_e21131 : own_tree 2 1 1 3 1 = true := by decide +kernel
theorem own_e21132 : own_tree 2 1 1 3 2 = true := by decide +kernel
theorem own_e21133 : own_tree 2 1 1 3 3 = true := by decide +kernel
theorem own_e21134 : own_tree 2 1 1 3 4 = true := by decide +kernel
theorem own_e21135 : own_tree 2 1 1 3 5 = true := by decide +kernel
theorem own_e21136 : own_tree 2 1 1 3 6 = true := by decide +kernel
theorem own_e21141 : own_tree 2 1 1 4 1 = true := by decide +kernel
theorem own_e21142 : own_tree 2 1 1 4 2 = true := by decide +kernel
theorem own_e21143 : own_tree 2 1 1 4 3 = true := by decide +kernel
theorem own_e21144 : own_tree 2 1 1 4 4 = true := by decide +kernel
theorem own_e21145 : own_tree 2 1 1 4 5 = true := by decide +kernel
theorem own_e21146 : own_tree 2 1 1 4 6 = true := by decide +kernel
theorem own_e21151 : own_tree 2 1 1 5 1 = true := by decide +kernel
theorem own_e21152 : own_tree 2 1 1 5 2 = true := by decide +kernel
theorem own_e21153 : own_tree 2 1 1 5 3 = true := by decide +kernel
theorem own_e21154 : own_tree 2 1 1 5 4 = true := by decide +kernel
theorem own_e21155 : own_tree 2 1 1 5 5 = true := by decide +kernel
theorem own_e21156 : own_tree 2 1 1 5 6 = true := by decide +kernel
theorem own_e21211 : own_tree 2 1 2 1 1 = true := by decide +kernel
theorem own_e21212 : own_tree 2 1 2 1 2 = true := by decide +kernel
theorem own_e21213 : own_tree 2 1 2 1 3 = true := by decide +kernel
theorem own_e21214 : own_tree 2 1 2 1 4 = true := by decide +kernel
theorem own_e21215 : own_tree 2 1 2 1 5 = true := by decide +kernel
theorem own_e21216 : own_tree 2 1 2 1 6 = true := by decide +kernel
theorem own_e21221 : own_tree 2 1 2 2 1 = true := by decide +kernel
theorem own_e21222 : own_tree 2 1 2 2 2 = true := by decide +kernel
theorem own_e21223 : own_tree 2 1 2 2 3 = true := by decide +kernel
theorem own_e21224 : own_tree 2 1 2 2 4 = true := by decide +kernel
theorem own_e21225 : own_tree 2 1 2 2 5 = true := by decide +kernel
theorem own_e21226 : own_tree 2 1 2 2 6 = true := by decide +kernel
theorem own_e21231 : own_tree 2 1 2 3 1 = true := by decide +kernel
theorem own_e21232 : own_tree 2 1 2 3 2 = true := by decide +kernel
theorem own_e21233 : own_tree 2 1 2 3 3 = true := by decide +kernel
theorem own_e21234 : own_tree 2 1 2 3 4 = true := by decide +kernel
theorem own_e21235 : own_tree 2 1 2 3 5 = true := by decide +kernel
theorem own_e21236 : own_tree 2 1 2 3 6 = true := by decide +kernel
theorem own_e21241 : own_tree 2 1 2 4 1 = true := by decide +kernel
theorem own_e21242 : own_tree 2 1 2 4 2 = true := by decide +kernel
theorem own_e21243 : own_tree 2 1 2 4 3 = true := by decide +kernel
theorem own_e21244 : own_tree 2 1 2 4 4 = true := by decide +kernel
theorem own_e21245 : own_tree 2 1 2 4 5 = true := by decide +kernel
theorem own_e21246 : own_tree 2 1 2 4 6 = true := by decide +kernel
theorem own_e21251 : own_tree 2 1 2 5 1 = true := by decide +kernel
theorem own_e21252 : own_tree 2 1 2 5 2 = true := by decide +kernel
theorem own_e21253 : own_tree 2 1 2 5 3 = true := by decide +kernel
theorem own_e21254 : own_tree 2 1 2 5 4 = true := by decide +kernel
theorem own_e21255 : own_tree 2 1 2 5 5 = true := by decide +kernel
theorem own_e21256 : own_tree 2 1 2 5 6 = true := by decide +kernel
theorem own_e21311 : own_tree 2 1 3 1 1 = true := by decide +kernel
theorem own_e21312 : own_tree 2 1 3 1 2 = true := by decide +kernel
theorem own_e21313 : own_tree 2 1 3 1 3 = true := by decide +kernel
theorem own_e21314 : own_tree 2 1 3 1 4 = true := by decide +kernel
theorem own_e21315 : own_tree 2 1 3 1 5 = true := by decide +kernel
theorem own_e21316 : own_tree 2 1 3 1 6 = true := by decide +kernel
theorem own_e21321 : own_tree 2 1 3 2 1 = true := by decide +kernel
theorem own_e21322 : own_tree 2 1 3 2 2 = true := by decide +kernel
theorem own_e21323 : own_tree 2 1 3 2 3 = true := by decide +kernel
theorem own_e21324 : own_tree 2 1 3 2 4 = true := by decide +kernel
theorem own_e21325 : own_tree 2 1 3 2 5 = true := by decide +kernel
theorem own_e21326 : own_tree 2 1 3 2 6 = true := by decide +kernel
theorem own_e21331 : own_tree 2 1 3 3 1 = true := by decide +kernel
theorem own_e21332 : own_tree 2 1 3 3 2 = true := by decide +kernel
theorem own_e21333 : own_tree 2 1 3 3 3 = true := by decide +kernel
theorem own_e21334 : own_tree 2 1 3 3 4 = true := by decide +kernel
theorem own_e21335 : own_tree 2 1 3 3 5 = true := by decide +kernel
theorem own_e21336 : own_tree 2 1 3 3 6 = true := by decide +kernel
theorem own_e21341 : own_tree 2 1 3 4 1 = true := by decide +kernel
theorem own_e21342 : own_tree 2 1 3 4 2 = true := by decide +kernel
theorem own_e21343 : own_tree 2 1 3 4 3 = true := by decide +kernel
theorem own_e21344 : own_tree 2 1 3 4 4 = true := by decide +kernel
theorem own_e21345 : own_tree 2 1 3 4 5 = true := by decide +kernel
theorem own_e21346 : own_tree 2 1 3 4 6 = true := by decide +kernel
theorem own_e21351 : own_tree 2 1 3 5 1 = true := by decide +kernel
theorem own_e21352 : own_tree 2 1 3 5 2 = true := by decide +kernel
theorem own_e21353 : own_tree 2 1 3 5 3 = true := by decide +kernel
theorem own_e21354 : own_tree 2 1 3 5 4 = true := by decide +kernel
theorem own_e21355 : own_tree 2 1 3 5 5 = true := by decide +kernel
theorem own_e21356 : own_tree 2 1 3 5 6 = true := by decide +kernel
theorem own_e21411 : own_tree 2 1 4 1 1 = true := by decide +kernel
theorem own_e21412 : own_tree 2 1 4 1 2 = true := by decide +kernel
theorem own_e21413 : own_tree 2 1 4 1 3 = true := by decide +kernel
theorem own_e21414 : own_tree 2 1 4 1 4 = true := by decide +kernel
theorem own_e21415 : own_tree 2 1 4 1 5 = true := by decide +kernel
theorem own_e21416 : own_tree 2 1 4 1 6 = true := by decide +kernel
theorem own_e21421 : own_tree 2 1 4 2 1 = true := by decide +kernel
theorem own_e21422 : own_tree 2 1 4 2 2 = true := by decide +kernel
theorem own_e21423 : own_tree 2 1 4 2 3 = true := by decide +kernel
theorem own_e21424 : own_tree 2 1 4 2 4 = true := by decide +kernel
theorem own_e21425 : own_tree 2 1 4 2 5 = true := by decide +kernel
theorem own_e21426 : own_tree 2 1 4 2 6 = true := by decide +kernel
theorem own_e21431 : own_tree 2 1 4 3 1 = true := by decide +kernel
theorem own_e21432 : own_tree 2 1 4 3 2 = true := by decide +kernel
theorem own_e21433 : own_tree 2 1 4 3 3 = true := by decide +kernel
theorem own_e21434 : own_tree 2 1 4 3 4 = true := by decide +kernel
theorem own_e21435 : own_tree 2 1 4 3 5 = true := by decide +kernel
theorem own_e21436 : own_tree 2 1 4 3 6 = true := by decide +kernel
theorem own_e21441 : own_tree 2 1 4 4 1 = true := by decide +kernel
theorem own_e21442 : own_tree 2 1 4 4 2 = true := by decide +kernel
theorem own_e21443 : own_tree 2 1 4 4 3 = true := by decide +kernel
theorem own_e21444 : own_tree 2 1 4 4 4 = true := by decide +kernel
theorem own_e21445 : own_tree 2 1 4 4 5 = true := by decide +kernel
theorem own_e21446 : own_tree 2 1 4 4 6 = true := by decide +kernel
theorem own_e21451 : own_tree 2 1 4 5 1 = true := by decide +kernel
theorem own_e21452 : own_tree 2 1 4 5 2 = true := by decide +kernel
theorem own_e21453 : own_tree 2 1 4 5 3 = true := by decide +kernel
theorem own_e21454 : own_tree 2 1 4 5 4 = true := by decide +kernel
theorem own_e21455 : own_tree 2 1 4 5 5 = true := by decide +kernel
theorem own_e21456 : own_tree 2 1 4 5 6 = true := by decide +kernel
theorem own_e22111 : own_tree 2 2 1 1 1 = true := by decide +kernel
theorem own_e22112 : own_tree 2 2 1 1 2 = true := by decide +kernel
theorem own_e22113 : own_tree 2 2 1 1 3 = true := by decide +kernel
theorem own_e22114 : own_tree 2 2 1 1 4 = true := by decide +kernel
theorem own_e22115 : own_tree 2 2 1 1 5 = true := by decide +kernel
theorem own_e22116 : own_tree 2 2 1 1 6 = true := by decide +kernel
theorem own_e22121 : own_tree 2 2 1 2 1 = true := by decide +kernel
theorem own_e22122 : own_tree 2 2 1 2 2 = true := by decide +kernel
theorem own_e22123 : own_tree 2 2 1 2 3 = true := by decide +kernel
theorem own_e22124 : own_tree 2 2 1 2 4 = true := by decide +kernel
theorem own_e22125 : own_tree 2 2 1 2 5 = true := by decide +kernel
theorem own_e22126 : own_tree 2 2 1 2 6 = true := by decide +kernel
theorem own_e22131 : own_tree 2 2 1 3 1 = true := by decide +kernel
theorem own_e22132 : own_tree 2 2 1 3 2 = true := by decide +kernel
theorem own_e22133 : own_tree 2 2 1 3 3 = true := by decide +kernel
theorem own_e22134 : own_tree 2 2 1 3 4 = true := by decide +kernel
theorem own_e22135 : own_tree 2 2 1 3 5 = true := by decide +kernel
theorem own_e22136 : own_tree 2 2 1 3 6 = true := by decide +kernel
theorem own_e22141 : own_tree 2 2 1 4 1 = true := by decide +kernel
theorem own_e22142 : own_tree 2 2 1 4 2 = true := by decide +kernel
theorem own_e22143 : own_tree 2 2 1 4 3 = true := by decide +kernel
theorem own_e22144 : own_tree 2 2 1 4 4 = true := by decide +kernel
theorem own_e22145 : own_tree 2 2 1 4 5 = true := by decide +kernel
theorem own_e22146 : own_tree 2 2 1 4 6 = true := by decide +kernel
theorem own_e22151 : own_tree 2 2 1 5 1 = true := by decide +kernel
theorem own_e22152 : own_tree 2 2 1 5 2 = true := by decide +kernel
theorem own_e22153 : own_tree 2 2 1 5 3 = true := by decide +kernel
theorem own_e22154 : own_tree 2 2 1 5 4 = true := by decide +kernel
theorem own_e22155 : own_tree 2 2 1 5 5 = true := by decide +kernel
theorem own_e22156 : own_tree 2 2 1 5 6 = true := by decide +kernel
theorem own_e22211 : own_tree 2 2 2 1 1 = true := by decide +kernel
theorem own_e22212 : own_tree 2 2 2 1 2 = true := by decide +kernel
theorem own_e22213 : own_tree 2 2 2 1 3 = true := by decide +kernel
theorem own_e22214 : own_tree 2 2 2 1 4 = true := by decide +kernel
theorem own_e22215 : own_tree 2 2 2 1 5 = true := by decide +kernel
theorem own_e22216 : own_tree 2 2 2 1 6 = true := by decide +kernel
theorem own_e22221 : own_tree 2 2 2 2 1 = true := by decide +kernel
theorem own_e22222 : own_tree 2 2 2 2 2 = true := by decide +kernel
theorem own_e22223 : own_tree 2 2 2 2 3 = true := by decide +kernel
theorem own_e22224 : own_tree 2 2 2 2 4 = true := by decide +kernel
theorem own_e22225 : own_tree 2 2 2 2 5 = true := by decide +kernel
theorem own_e22226 : own_tree 2 2 2 2 6 = true := by decide +kernel
theorem own_e22231 : own_tree 2 2 2 3 1 = true := by decide +kernel
theorem own_e22232 : own_tree 2 2 2 3 2 = true := by decide +kernel
theorem own_e22233 : own_tree 2 2 2 3 3 = true := by decide +kernel
theorem own_e22234 : own_tree 2 2 2 3 4 = true := by decide +kernel
theorem own_e22235 : own_tree 2 2 2 3 5 = true := by decide +kernel
theorem own_e22236 : own_tree 2 2 2 3 6 = true := by decide +kernel
theorem own_e22241 : own_tree 2 2 2 4 1 = true := by decide +kernel
theorem own_e22242 : own_tree 2 2 2 4 2 = true := by decide +kernel
theorem own_e22243 : own_tree 2 2 2 4 3 = true := by decide +kernel
theorem own_e22244 : own_tree 2 2 2 4 4 = true := by decide +kernel
theorem own_e22245 : own_tree 2 2 2 4 5 = true := by decide +kernel
theorem own_e22246 : own_tree 2 2 2 4 6 = true := by decide +kernel
theorem own_e22251 : own_tree 2 2 2 5 1 = true := by decide +kernel
theorem own_e22252 : own_tree 2 2 2 5 2 = true := by decide +kernel
theorem own_e22253 : own_tree 2 2 2 5 3 = true := by decide +kernel
theorem own_e22254 : own_tree 2 2 2 5 4 = true := by decide +kernel
theorem own_e22255 : own_tree 2 2 2 5 5 = true := by decide +kernel
theorem own_e22256 : own_tree 2 2 2 5 6 = true := by decide +kernel
theorem own_e22311 : own_tree 2 2 3 1 1 = true := by decide +kernel
theorem own_e22312 : own_tree 2 2 3 1 2 = true := by decide +kernel
theorem own_e22313 : own_tree 2 2 3 1 3 = true := by decide +kernel
theorem own_e22314 : own_tree 2 2 3 1 4 = true := by decide +kernel
theorem own_e22315 : own_tree 2 2 3 1 5 = true := by decide +kernel
theorem own_e22316 : own_tree 2 2 3 1 6 = true := by decide +kernel
theorem own_e22321 : own_tree 2 2 3 2 1 = true := by decide +kernel
theorem own_e22322 : own_tree 2 2 3 2 2 = true := by decide +kernel
theorem own_e22323 : own_tree 2 2 3 2 3 = true := by decide +kernel
theorem own_e22324 : own_tree 2 2 3 2 4 = true := by decide +kernel
theorem own_e22325 : own_tree 2 2 3 2 5 = true := by decide +kernel
theorem own_e22326 : own_tree 2 2 3 2 6 = true := by decide +kernel
theorem own_e22331 : own_tree 2 2 3 3 1 = true := by decide +kernel
theorem own_e22332 : own_tree 2 2 3 3 2 = true := by decide +kernel
theorem own_e22333 : own_tree 2 2 3 3 3 = true := by decide +kernel
theorem own_e22334 : own_tree 2 2 3 3 4 = true := by decide +kernel
theorem own_e22335 : own_tree 2 2 3 3 5 = true := by decide +kernel
theorem own_e22336 : own_tree 2 2 3 3 6 = true := by decide +kernel
theorem own_e22341 : own_tree 2 2 3 4 1 = true := by decide +kernel
theorem own_e22342 : own_tree 2 2 3 4 2 = true := by decide +kernel
theorem own_e22343 : own_tree 2 2 3 4 3 = true := by decide +kernel
theorem own_e22344 : own_tree 2 2 3 4 4 = true := by decide +kernel
theorem own_e22345 : own_tree 2 2 3 4 5 = true := by decide +kernel
theorem own_e22346 : own_tree 2 2 3 4 6 = true := by decide +kernel
theorem own_e22351 : own_tree 2 2 3 5 1 = true := by decide +kernel
theorem own_e22352 : own_tree 2 2 3 5 2 = true := by decide +kernel
theorem own_e22353 : own_tree 2 2 3 5 3 = true := by decide +kernel
theorem own_e22354 : own_tree 2 2 3 5 4 = true := by decide +kernel
theorem own_e22355 : own_tree 2 2 3 5 5 = true := by decide +kernel
theorem own_e22356 : own_tree 2 2 3 5 6 = true := by decide +kernel
theorem own_e22411 : own_tree 2 2 4 1 1 = true := by decide +kernel
theorem own_e22412 : own_tree 2 2 4 1 2 = true := by decide +kernel
theorem own_e22413 : own_tree 2 2 4 1 3 = true := by decide +kernel
theorem own_e22414 : own_tree 2 2 4 1 4 = true := by decide +kernel
theorem own_e22415 : own_tree 2 2 4 1 5 = true := by decide +kernel
theorem own_e22416 : own_tree 2 2 4 1 6 = true := by decide +kernel
theorem own_e22421 : own_tree 2 2 4 2 1 = true := by decide +kernel
theorem own_e22422 : own_tree 2 2 4 2 2 = true := by decide +kernel
theorem own_e22423 : own_tree 2 2 4 2 3 = true := by decide +kernel
theorem own_e22424 : own_tree 2 2 4 2 4 = true := by decide +kernel
theorem own_e22425 : own_tree 2 2 4 2 5 = true := by decide +kernel
theorem own_e22426 : own_tree 2 2 4 2 6 = true := by decide +kernel
theorem own_e22431 : own_tree 2 2 4 3 1 = true := by decide +kernel
theorem own_e22432 : own_tree 2 2 4 3 2 = true := by decide +kernel
theorem own_e22433 : own_tree 2 2 4 3 3 = true := by decide +kernel
theorem own_e22434 : own_tree 2 2 4 3 4 = true := by decide +kernel
theorem own_e22435 : own_tree 2 2 4 3 5 = true := by decide +kernel
theorem own_e22436 : own_tree 2 2 4 3 6 = true := by decide +kernel
theorem own_e22441 : own_tree 2 2 4 4 1 = true := by decide +kernel
theorem own_e22442 : own_tree 2 2 4 4 2 = true := by decide +kernel
theorem own_e22443 : own_tree 2 2 4 4 3 = true := by decide +kernel
theorem own_e22444 : own_tree 2 2 4 4 4 = true := by decide +kernel
theorem own_e22445 : own_tree 2 2 4 4 5 = true := by decide +kernel
theorem own_e22446 : own_tree 2 2 4 4 6 = true := by decide +kernel
theorem own_e22451 : own_tree 2 2 4 5 1 = true := by decide +kernel
theorem own_e22452 : own_tree 2 2 4 5 2 = true := by decide +kernel
theorem own_e22453 : own_tree 2 2 4 5 3 = true := by decide +kernel
theorem own_e22454 : own_tree 2 2 4 5 4 = true := by decide +kernel
theorem own_e22455 : own_tree 2 2 4 5 5 = true := by decide +kernel
theorem own_e22456 : own_tree 2 2 4 5 6 = true := by decide +kernel
theorem own_e23111 : own_tree 2 3 1 1 1 = true := by decide +kernel
theorem own_e23112 : own_tree 2 3 1 1 2 = true := by decide +kernel
theorem own_e23113 : own_tree 2 3 1 1 3 = true := by decide +kernel
theorem own_e23114 : own_tree 2 3 1 1 4 = true := by decide +kernel
theorem own_e23115 : own_tree 2 3 1 1 5 = true := by decide +kernel
theorem own_e23116 : own_tree 2 3 1 1 6 = true := by decide +kernel
theorem own_e23121 : own_tree 2 3 1 2 1 = true := by decide +kernel
theorem own_e23122 : own_tree 2 3 1 2 2 = true := by decide +kernel
theorem own_e23123 : own_tree 2 3 1 2 3 = true := by decide +kernel
theorem own_e23124 : own_tree 2 3 1 2 4 = true := by decide +kernel
theorem own_e23125 : own_tree 2 3 1 2 5 = true := by decide +kernel
theorem own_e23126 : own_tree 2 3 1 2 6 = true := by decide +kernel
theorem own_e23131 : own_tree 2 3 1 3 1 = true := by decide +kernel
theorem own_e23132 : own_tree 2 3 1 3 2 = true := by decide +kernel
theorem own_e23133 : own_tree 2 3 1 3 3 = true := by decide +kernel
theorem own_e23134 : own_tree 2 3 1 3 4 = true := by decide +kernel
theorem own_e23135 : own_tree 2 3 1 3 5 = true := by decide +kernel
theorem own_e23136 : own_tree 2 3 1 3 6 = true := by decide +kernel
theorem own_e23141 : own_tree 2 3 1 4 1 = true := by decide +kernel
theorem own_e23142 : own_tree 2 3 1 4 2 = true := by decide +kernel
theorem own_e23143 : own_tree 2 3 1 4 3 = true := by decide +kernel
theorem own_e23144 : own_tree 2 3 1 4 4 = true := by decide +kernel
theorem own_e23145 : own_tree 2 3 1 4 5 = true := by decide +kernel
theorem own_e23146 : own_tree 2 3 1 4 6 = true := by decide +kernel
theorem own_e23151 : own_tree 2 3 1 5 1 = true := by decide +kernel
theorem own_e23152 : own_tree 2 3 1 5 2 = true := by decide +kernel
theorem own_e23153 : own_tree 2 3 1 5 3 = true := by decide +kernel
theorem own_e23154 : own_tree 2 3 1 5 4 = true := by decide +kernel
theorem own_e23155 : own_tree 2 3 1 5 5 = true := by decide +kernel
theorem own_e23156 : own_tree 2 3 1 5 6 = true := by decide +kernel
theorem own_e23211 : own_tree 2 3 2 1 1 = true := by decide +kernel
theorem own_e23212 : own_tree 2 3 2 1 2 = true := by decide +kernel
theorem own_e23213 : own_tree 2 3 2 1 3 = true := by decide +kernel
theorem own_e23214 : own_tree 2 3 2 1 4 = true := by decide +kernel
theorem own_e23215 : own_tree 2 3 2 1 5 = true := by decide +kernel
theorem own_e23216 : own_tree 2 3 2 1 6 = true := by decide +kernel
theorem own_e23221 : own_tree 2 3 2 2 1 = true := by decide +kernel
theorem own_e23222 : own_tree 2 3 2 2 2 = true := by decide +kernel
theorem own_e23223 : own_tree 2 3 2 2 3 = true := by decide +kernel
theorem own_e23224 : own_tree 2 3 2 2 4 = true := by decide +kernel
theorem own_e23225 : own_tree 2 3 2 2 5 = true := by decide +kernel
theorem own_e23226 : own_tree 2 3 2 2 6 = true := by decide +kernel
theorem own_e23231 : own_tree 2 3 2 3 1 = true := by decide +kernel
theorem own_e23232 : own_tree 2 3 2 3 2 = true := by decide +kernel
theorem own_e23233 : own_tree 2 3 2 3 3 = true := by decide +kernel
theorem own_e23234 : own_tree 2 3 2 3 4 = true := by decide +kernel
theorem own_e23235 : own_tree 2 3 2 3 5 = true := by decide +kernel
theorem own_e23236 : own_tree 2 3 2 3 6 = true := by decide +kernel
theorem own_e23241 : own_tree 2 3 2 4 1 = true := by decide +kernel
theorem own_e23242 : own_tree 2 3 2 4 2 = true := by decide +kernel
theorem own_e23243 : own_tree 2 3 2 4 3 = true := by decide +kernel
theorem own_e23244 : own_tree 2 3 2 4 4 = true := by decide +kernel
theorem own_e23245 : own_tree 2 3 2 4 5 = true := by decide +kernel
theorem own_e23246 : own_tree 2 3 2 4 6 = true := by decide +kernel
theorem own_e23251 : own_tree 2 3 2 5 1 = true := by decide +kernel
theorem own_e23252 : own_tree 2 3 2 5 2 = true := by decide +kernel
theorem own_e23253 : own_tree 2 3 2 5 3 = true := by decide +kernel
theorem own_e23254 : own_tree 2 3 2 5 4 = true := by decide +kernel
theorem own_e23255 : own_tree 2 3 2 5 5 = true := by decide +kernel
theorem own_e23256 : own_tree 2 3 2 5 6 = true := by decide +kernel
theorem own_e23311 : own_tree 2 3 3 1 1 = true := by decide +kernel
theorem own_e23312 : own_tree 2 3 3 1 2 = true := by decide +kernel
theorem own_e23313 : own_tree 2 3 3 1 3 = true := by decide +kernel
theorem own_e23314 : own_tree 2 3 3 1 4 = true := by decide +kernel
theorem own_e23315 : own_tree 2 3 3 1 5 = true := by decide +kernel
theorem own_e23316 : own_tree 2 3 3 1 6 = true := by decide +kernel
theorem own_e23321 : own_tree 2 3 3 2 1 = true := by decide +kernel
theorem own_e23322 : own_tree 2 3 3 2 2 = true := by decide +kernel
theorem own_e23323 : own_tree 2 3 3 2 3 = true := by decide +kernel
theorem own_e23324 : own_tree 2 3 3 2 4 = true := by decide +kernel
theorem own_e23325 : own_tree 2 3 3 2 5 = true := by decide +kernel
theorem own_e23326 : own_tree 2 3 3 2 6 = true := by decide +kernel
theorem own_e23331 : own_tree 2 3 3 3 1 = true := by decide +kernel
theorem own_e23332 : own_tree 2 3 3 3 2 = true := by decide +kernel
theorem own_e23333 : own_tree 2 3 3 3 3 = true := by decide +kernel
theorem own_e23334 : own_tree 2 3 3 3 4 = true := by decide +kernel
theorem own_e23335 : own_tree 2 3 3 3 5 = true := by decide +kernel
theorem own_e23336 : own_tree 2 3 3 3 6 = true := by decide +kernel
theorem own_e23341 : own_tree 2 3 3 4 1 = true := by decide +kernel
theorem own_e23342 : own_tree 2 3 3 4 2 = true := by decide +kernel
theorem own_e23343 : own_tree 2 3 3 4 3 = true := by decide +kernel
theorem own_e23344 : own_tree 2 3 3 4 4 = true := by decide +kernel
theorem own_e23345 : own_tree 2 3 3 4 5 = true := by decide +kernel
theorem own_e23346 : own_tree 2 3 3 4 6 = true := by decide +kernel
theorem own_e23351 : own_tree 2 3 3 5 1 = true := by decide +kernel
theorem own_e23352 : own_tree 2 3 3 5 2 = true := by decide +kernel
theorem own_e23353 : own_tree 2 3 3 5 3 = true := by decide +kernel
theorem own_e23354 : own_tree 2 3 3 5 4 = true := by decide +kernel
theorem own_e23355 : own_tree 2 3 3 5 5 = true := by decide +kernel
theorem own_e23356 : own_tree 2 3 3 5 6 = true := by decide +kernel
theorem own_e23411 : own_tree 2 3 4 1 1 = true := by decide +kernel
theorem own_e23412 : own_tree 2 3 4 1 2 = true := by decide +kernel
theorem own_e23413 : own_tree 2 3 4 1 3 = true := by decide +kernel
theorem own_e23414 : own_tree 2 3 4 1 4 = true := by decide +kernel
theorem own_e23415 : own_tree 2 3 4 1 5 = true := by decide +kernel
theorem own_e23416 : own_tree 2 3 4 1 6 = true := by decide +kernel
theorem own_e23421 : own_tree 2 3 4 2 1 = true := by decide +kernel
theorem own_e23422 : own_tree 2 3 4 2 2 = true := by decide +kernel
theorem own_e23423 : own_tree 2 3 4 2 3 = true := by decide +kernel
theorem own_e23424 : own_tree 2 3 4 2 4 = true := by decide +kernel
theorem own_e23425 : own_tree 2 3 4 2 5 = true := by decide +kernel
theorem own_e23426 : own_tree 2 3 4 2 6 = true := by decide +kernel
theorem own_e23431 : own_tree 2 3 4 3 1 = true := by decide +kernel
theorem own_e23432 : own_tree 2 3 4 3 2 = true := by decide +kernel
theorem own_e23433 : own_tree 2 3 4 3 3 = true := by decide +kernel
theorem own_e23434 : own_tree 2 3 4 3 4 = true := by decide +kernel
theorem own_e23435 : own_tree 2 3 4 3 5 = true := by decide +kernel
theorem own_e23436 : own_tree 2 3 4 3 6 = true := by decide +kernel
theorem own_e23441 : own_tree 2 3 4 4 1 = true := by decide +kernel
theorem own_e23442 : own_tree 2 3 4 4 2 = true := by decide +kernel
theorem own_e23443 : own_tree 2 3 4 4 3 = true := by decide +kernel
theorem own_e23444 : own_tree 2 3 4 4 4 = true := by decide +kernel
theorem own_e23445 : own_tree 2 3 4 4 5 = true := by decide +kernel
theorem own_e23446 : own_tree 2 3 4 4 6 = true := by decide +kernel
theorem own_e23451 : own_tree 2 3 4 5 1 = true := by decide +kernel
theorem own_e23452 : own_tree 2 3 4 5 2 = true := by decide +kernel
theorem own_e23453 : own_tree 2 3 4 5 3 = true := by decide +kernel
theorem own_e23454 : own_tree 2 3 4 5 4 = true := by decide +kernel
theorem own_e23455 : own_tree 2 3 4 5 5 = true := by decide +kernel
theorem own_e23456 : own_tree 2 3 4 5 6 = true := by decide +kernel
theorem own_f1111 : ∀ k4, k4 < 6 → own_tree 1 1 1 1 (k4 + 1) = true := own_c6 (P := fun z => own_tree 1 1 1 1 z  = true) own_e11111 own_e11112 own_e11113 own_e11114 own_e11115 own_e11116
theorem own_f1112 : ∀ k4, k4 < 6 → own_tree 1 1 1 2 (k4 + 1) = true := own_c6 (P := fun z => own_tree 1 1 1 2 z  = true) own_e11121 own_e11122 own_e11123 own_e11124 own_e11125 own_e11126
theorem own_f1113 : ∀ k4, k4 < 6 → own_tree 1 1 1 3 (k4 + 1) = true := own_c6 (P := fun z => own_tree 1 1 1 3 z  = true) own_e11131 own_e11132 own_e11133 own_e11134 own_e11135 own_e11136
theorem own_f1114 : ∀ k4, k4 < 6 → own_tree 1 1 1 4 (k4 + 1) = true := own_c6 (P := fun z => own_tree 1 1 1 4 z  = true) own_e11141 own_e11142 own_e11143 own_e11144 own_e11145 own_e11146
theorem own_f1115 : ∀ k4, k4 < 6 → own_tree 1 1 1 5 (k4 + 1) = true := own_c6 (P := fun z => own_tree 1 1 1 5 z  = true) own_e11151 own_e11152 own_e11153 own_e11154 own_e11155 own_e11156
theorem own_f1121 : ∀ k4, k4 < 6 → own_tree 1 1 2 1 (k4 + 1) = true := own_c6 (P := fun z => own_tree 1 1 2 1 z  = true) own_e11211 own_e11212 own_e11213 own_e11214 own_e11215 own_e11216
theorem own_f1122 : ∀ k4, k4 < 6 → own_tree 1 1 2 2 (k4 + 1) = true := own_c6 (P := fun z => own_tree 1 1 2 2 z  = true) own_e11221 own_e11222 own_e11223 own_e11224 own_e11225 own_e11226
theorem own_f1123 : ∀ k4, k4 < 6 → own_tree 1 1 2 3 (k4 + 1) = true := own_c6 (P := fun z => own_tree 1 1 2 3 z  = true) own_e11231 own_e11232 own_e11233 own_e11234 own_e11235 own_e11236
theorem own_f1124 : ∀ k4, k4 < 6 → own_tree 1 1 2 4 (k4 + 1) = true := own_c6 (P := fun z => own_tree 1 1 2 4 z  = true) own_e11241 own_e11242 own_e11243 own_e11244 own_e11245 own_e11246
theorem own_f1125 : ∀ k4, k4 < 6 → own_tree 1 1 2 5 (k4 + 1) = true := own_c6 (P := fun z => own_tree 1 1 2 5 z  = true) own_e11251 own_e11252 own_e11253 own_e11254 own_e11255 own_e11256
theorem own_f1131 : ∀ k4, k4 < 6 → own_tree 1 1 3 1 (k4 + 1) = true := own_c6 (P := fun z => own_tree 1 1 3 1 z  = true) own_e11311 own_e11312 own_e11313 own_e11314 own_e11315 own_e11316
theorem own_f1132 : ∀ k4, k4 < 6 → own_tree 1 1 3 2 (k4 + 1) = true := own_c6 (P := fun z => own_tree 1 1 3 2 z  = true) own_e11321 own_e11322 own_e11323 own_e11324 own_e11325 own_e11326
theorem own_f1133 : ∀ k4, k4 < 6 → own_tree 1 1 3 3 (k4 + 1) = true := own_c6 (P := fun z => own_tree 1 1 3 3 z  = true) own_e11331 own_e11332 own_e11333 own_e11334 own_e11335 own_e11336
theorem own_f1134 : ∀ k4, k4 < 6 → own_tree 1 1 3 4 (k4 + 1) = true := own_c6 (P := fun z => own_tree 1 1 3 4 z  = true) own_e11341 own_e11342 own_e11343 own_e11344 own_e11345 own_e11346
theorem own_f1135 : ∀ k4, k4 < 6 → own_tree 1 1 3 5 (k4 + 1) = true := own_c6 (P := fun z => own_tree 1 1 3 5 z  = true) own_e11351 own_e11352 own_e11353 own_e11354 own_e11355 own_e11356
theorem own_f1141 : ∀ k4, k4 < 6 → own_tree 1 1 4 1 (k4 + 1) = true := own_c6 (P := fun z => own_tree 1 1 4 1 z  = true) own_e11411 own_e11412 own_e11413 own_e11414 own_e11415 own_e11416
theorem own_f1142 : ∀ k4, k4 < 6 → own_tree 1 1 4 2 (k4 + 1) = true := own_c6 (P := fun z => own_tree 1 1 4 2 z  = true) own_e11421 own_e11422 own_e11423 own_e11424 own_e11425 own_e11426
theorem own_f1143 : ∀ k4, k4 < 6 → own_tree 1 1 4 3 (k4 + 1) = true := own_c6 (P := fun z => own_tree 1 1 4 3 z  = true) own_e11431 own_e11432 own_e11433 own_e11434 own_e11435 own_e11436
theorem own_f1144 : ∀ k4, k4 < 6 → own_tree 1 1 4 4 (k4 + 1) = true := own_c6 (P := fun z => own_tree 1 1 4 4 z  = true) own_e11441 own_e11442 own_e11443 own_e11444 own_e11445 own_e11446
theorem own_f1145 : ∀ k4, k4 < 6 → own_tree 1 1 4 5 (k4 + 1) = true := own_c6 (P := fun z => own_tree 1 1 4 5 z  = true) own_e11451 own_e11452 own_e11453 own_e11454 own_e11455 own_e11456
theorem own_f1211 : ∀ k4, k4 < 6 → own_tree 1 2 1 1 (k4 + 1) = true := own_c6 (P := fun z => own_tree 1 2 1 1 z  = true) own_e12111 own_e12112 own_e12113 own_e12114 own_e12115 own_e12116
theorem own_f1212 : ∀ k4, k4 < 6 → own_tree 1 2 1 2 (k4 + 1) = true := own_c6 (P := fun z => own_tree 1 2 1 2 z  = true) own_e12121 own_e12122 own_e12123 own_e12124 own_e12125 own_e12126
theorem own_f1213 : ∀ k4, k4 < 6 → own_tree 1 2 1 3 (k4 + 1) = true := own_c6 (P := fun z => own_tree 1 2 1 3 z  = true) own_e12131 own_e12132 own_e12133 own_e12134 own_e12135 own_e12136
theorem own_f1214 : ∀ k4, k4 < 6 → own_tree 1 2 1 4 (k4 + 1) = true := own_c6 (P := fun z => own_tree 1 2 1 4 z  = true) own_e12141 own_e12142 own_e12143 own_e12144 own_e12145 own_e12146
theorem own_f1215 : ∀ k4, k4 < 6 → own_tree 1 2 1 5 (k4 + 1) = true := own_c6 (P := fun z => own_tree 1 2 1 5 z  = true) own_e12151 own_e12152 own_e12153 own_e12154 own_e12155 own_e12156
theorem own_f1221 : ∀ k4, k4 < 6 → own_tree 1 2 2 1 (k4 + 1) = true := own_c6 (P := fun z => own_tree 1 2 2 1 z  = true) own_e12211 own_e12212 own_e12213 own_e12214 own_e12215 own_e12216
theorem own_f1222 : ∀ k4, k4 < 6 → own_tree 1 2 2 2 (k4 + 1) = true := own_c6 (P := fun z => own_tree 1 2 2 2 z  = true) own_e12221 own_e12222 own_e12223 own_e12224 own_e12225 own_e12226
theorem own_f1223 : ∀ k4, k4 < 6 → own_tree 1 2 2 3 (k4 + 1) = true := own_c6 (P := fun z => own_tree 1 2 2 3 z  = true) own_e12231 own_e12232 own_e12233 own_e12234 own_e12235 own_e12236
theorem own_f1224 : ∀ k4, k4 < 6 → own_tree 1 2 2 4 (k4 + 1) = true := own_c6 (P := fun z => own_tree 1 2 2 4 z  = true) own_e12241 own_e12242 own_e12243 own_e12244 own_e12245 own_e12246
theorem own_f1225 : ∀ k4, k4 < 6 → own_tree 1 2 2 5 (k4 + 1) = true := own_c6 (P := fun z => own_tree 1 2 2 5 z  = true) own_e12251 own_e12252 own_e12253 own_e12254 own_e12255 own_e12256
theorem own_f1231 : ∀ k4, k4 < 6 → own_tree 1 2 3 1 (k4 + 1) = true := own_c6 (P := fun z => own_tree 1 2 3 1 z  = true) own_e12311 own_e12312 own_e12313 own_e12314 own_e12315 own_e12316
theorem own_f1232 : ∀ k4, k4 < 6 → own_tree 1 2 3 2 (k4 + 1) = true := own_c6 (P := fun z => own_tree 1 2 3 2 z  = true) own_e12321 own_e12322 own_e12323 own_e12324 own_e12325 own_e12326
theorem own_f1233 : ∀ k4, k4 < 6 → own_tree 1 2 3 3 (k4 + 1) = true := own_c6 (P := fun z => own_tree 1 2 3 3 z  = true) own_e12331 own_e12332 own_e12333 own_e12334 own_e12335 own_e12336
theorem own_f1234 : ∀ k4, k4 < 6 → own_tree 1 2 3 4 (k4 + 1) = true := own_c6 (P := fun z => own_tree 1 2 3 4 z  = true) own_e12341 own_e12342 own_e12343 own_e12344 own_e12345 own_e12346
theorem own_f1235 : ∀ k4, k4 < 6 → own_tree 1 2 3 5 (k4 + 1) = true := own_c6 (P := fun z => own_tree 1 2 3 5 z  = true) own_e12351 own_e12352 own_e12353 own_e12354 own_e12355 own_e12356
theorem own_f1241 : ∀ k4, k4 < 6 → own_tree 1 2 4 1 (k4 + 1) = true := own_c6 (P := fun z => own_tree 1 2 4 1 z  = true) own_e12411 own_e12412 own_e12413 own_e12414 own_e12415 own_e12416
theorem own_f1242 : ∀ k4, k4 < 6 → own_tree 1 2 4 2 (k4 + 1) = true := own_c6 (P := fun z => own_tree 1 2 4 2 z  = true) own_e12421 own_e12422 own_e12423 own_e12424 own_e12425 own_e12426
theorem own_f1243 : ∀ k4, k4 < 6 → own_tree 1 2 4 3 (k4 + 1) = true := own_c6 (P := fun z => own_tree 1 2 4 3 z  = true) own_e12431 own_e12432 own_e12433 own_e12434 own_e12435 own_e12436
theorem own_f1244 : ∀ k4, k4 < 6 → own_tree 1 2 4 4 (k4 + 1) = true := own_c6 (P := fun z => own_tree 1 2 4 4 z  = true) own_e12441 own_e12442 own_e12443 own_e12444 own_e12445 own_e12446
theorem own_f1245 : ∀ k4, k4 < 6 → own_tree 1 2 4 5 (k4 + 1) = true := own_c6 (P := fun z => own_tree 1 2 4 5 z  = true) own_e12451 own_e12452 own_e12453 own_e12454 own_e12455 own_e12456
theorem own_f1311 : ∀ k4, k4 < 6 → own_tree 1 3 1 1 (k4 + 1) = true := own_c6 (P := fun z => own_tree 1 3 1 1 z  = true) own_e13111 own_e13112 own_e13113 own_e13114 own_e13115 own_e13116
theorem own_f1312 : ∀ k4, k4 < 6 → own_tree 1 3 1 2 (k4 + 1) = true := own_c6 (P := fun z => own_tree 1 3 1 2 z  = true) own_e13121 own_e13122 own_e13123 own_e13124 own_e13125 own_e13126
theorem own_f1313 : ∀ k4, k4 < 6 → own_tree 1 3 1 3 (k4 + 1) = true := own_c6 (P := fun z => own_tree 1 3 1 3 z  = true) own_e13131 own_e13132 own_e13133 own_e13134 own_e13135 own_e13136
theorem own_f1314 : ∀ k4, k4 < 6 → own_tree 1 3 1 4 (k4 + 1) = true := own_c6 (P := fun z => own_tree 1 3 1 4 z  = true) own_e13141 own_e13142 own_e13143 own_e13144 own_e13145 own_e13146
theorem own_f1315 : ∀ k4, k4 < 6 → own_tree 1 3 1 5 (k4 + 1) = true := own_c6 (P := fun z => own_tree 1 3 1 5 z  = true) own_e13151 own_e13152 own_e13153 own_e13154 own_e13155 own_e13156
theorem own_f1321 : ∀ k4, k4 < 6 → own_tree 1 3 2 1 (k4 + 1) = true := own_c6 (P := fun z => own_tree 1 3 2 1 z  = true) own_e13211 own_e13212 own_e13213 own_e13214 own_e13215 own_e13216
theorem own_f1322 : ∀ k4, k4 < 6 → own_tree 1 3 2 2 (k4 + 1) = true := own_c6 (P := fun z => own_tree 1 3 2 2 z  = true) own_e13221 own_e13222 own_e13223 own_e13224 own_e13225 own_e13226
theorem own_f1323 : ∀ k4, k4 < 6 → own_tree 1 3 2 3 (k4 + 1) = true := own_c6 (P := fun z => own_tree 1 3 2 3 z  = true) own_e13231 own_e13232 own_e13233 own_e13234 own_e13235 own_e13236
theorem own_f1324 : ∀ k4, k4 < 6 → own_tree 1 3 2 4 (k4 + 1) = true := own_c6 (P := fun z => own_tree 1 3 2 4 z  = true) own_e13241 own_e13242 own_e13243 own_e13244 own_e13245 own_e13246
theorem own_f1325 : ∀ k4, k4 < 6 → own_tree 1 3 2 5 (k4 + 1) = true := own_c6 (P := fun z => own_tree 1 3 2 5 z  = true) own_e13251 own_e13252 own_e13253 own_e13254 own_e13255 own_e13256
theorem own_f1331 : ∀ k4, k4 < 6 → own_tree 1 3 3 1 (k4 + 1) = true := own_c6 (P := fun z => own_tree 1 3 3 1 z  = true) own_e13311 own_e13312 own_e13313 own_e13314 own_e13315 own_e13316
theorem own_f1332 : ∀ k4, k4 < 6 → own_tree 1 3 3 2 (k4 + 1) = true := own_c6 (P := fun z => own_tree 1 3 3 2 z  = true) own_e13321 own_e13322 own_e13323 own_e13324 own_e13325 own_e13326
theorem own_f1333 : ∀ k4, k4 < 6 → own_tree 1 3 3 3 (k4 + 1) = true := own_c6 (P := fun z => own_tree 1 3 3 3 z  = true) own_e13331 own_e13332 own_e13333 own_e13334 own_e13335 own_e13336
theorem own_f1334 : ∀ k4, k4 < 6 → own_tree 1 3 3 4 (k4 + 1) = true := own_c6 (P := fun z => own_tree 1 3 3 4 z  = true) own_e13341 own_e13342 own_e13343 own_e13344 own_e13345 own_e13346
theorem own_f1335 : ∀ k4, k4 < 6 → own_tree 1 3 3 5 (k4 + 1) = true := own_c6 (P := fun z => own_tree 1 3 3 5 z  = true) own_e13351 own_e13352 own_e13353 own_e13354 own_e13355 own_e13356
theorem own_f1341 : ∀ k4, k4 < 6 → own_tree 1 3 4 1 (k4 + 1) = true := own_c6 (P := fun z => own_tree 1 3 4 1 z  = true) own_e13411 own_e13412 own_e13413 own_e13414 own_e13415 own_e13416
theorem own_f1342 : ∀ k4, k4 < 6 → own_tree 1 3 4 2 (k4 + 1) = true := own_c6 (P := fun z => own_tree 1 3 4 2 z  = true) own_e13421 own_e13422 own_e13423 own_e13424 own_e13425 own_e13426
theorem own_f1343 : ∀ k4, k4 < 6 → own_tree 1 3 4 3 (k4 + 1) = true := own_c6 (P := fun z => own_tree 1 3 4 3 z  = true) own_e13431 own_e13432 own_e13433 own_e13434 own_e13435 own_e13436
theorem own_f1344 : ∀ k4, k4 < 6 → own_tree 1 3 4 4 (k4 + 1) = true := own_c6 (P := fun z => own_tree 1 3 4 4 z  = true) own_e13441 own_e13442 own_e13443 own_e13444 own_e13445 own_e13446
theorem own_f1345 : ∀ k4, k4 < 6 → own_tree 1 3 4 5 (k4 + 1) = true := own_c6 (P := fun z => own_tree 1 3 4 5 z  = true) own_e13451 own_e13452 own_e13453 own_e13454 own_e13455 own_e13456
theorem own_f2111 : ∀ k4, k4 < 6 → own_tree 2 1 1 1 (k4 + 1) = true := own_c6 (P := fun z => own_tree 2 1 1 1 z  = true) own_e21111 own_e21112 own_e21113 own_e21114 own_e21115 own_e21116
theorem own_f2112 : ∀ k4, k4 < 6 → own_tree 2 1 1 2 (k4 + 1) = true := own_c6 (P := fun z => own_tree 2 1 1 2 z  = true) own_e21121 own_e21122 own_e21123 own_e21124 own_e21125 own_e21126
theorem own_f2113 : ∀ k4, k4 < 6 → own_tree 2 1 1 3 (k4 + 1) = true := own_c6 (P := fun z => own_tree 2 1 1 3 z  = true) own_e21131 own_e21132 own_e21133 own_e21134 own_e21135 own_e21136
theorem own_f2114 : ∀ k4, k4 < 6 → own_tree 2 1 1 4 (k4 + 1) = true := own_c6 (P := fun z => own_tree 2 1 1 4 z  = true) own_e21141 own_e21142 own_e21143 own_e21144 own_e21145 own_e21146
theorem own_f2115 : ∀ k4, k4 < 6 → own_tree 2 1 1 5 (k4 + 1) = true := own_c6 (P := fun z => own_tree 2 1 1 5 z  = true) own_e21151 own_e21152 own_e21153 own_e21154 own_e21155 own_e21156
theorem own_f2121 : ∀ k4, k4 < 6 → own_tree 2 1 2 1 (k4 + 1) = true := own_c6 (P := fun z => own_tree 2 1 2 1 z  = true) own_e21211 own_e21212 own_e21213 own_e21214 own_e21215 own_e21216
theorem own_f2122 : ∀ k4, k4 < 6 → own_tree 2 1 2 2 (k4 + 1) = true := own_c6 (P := fun z => own_tree 2 1 2 2 z  = true) own_e21221 own_e21222 own_e21223 own_e21224 own_e21225 own_e21226
theorem own_f2123 : ∀ k4, k4 < 6 → own_tree 2 1 2 3 (k4 + 1) = true := own_c6 (P := fun z => own_tree 2 1 2 3 z  = true) own_e21231 own_e21232 own_e21233 own_e21234 own_e21235 own_e21236
theorem own_f2124 : ∀ k4, k4 < 6 → own_tree 2 1 2 4 (k4 + 1) = true := own_c6 (P := fun z => own_tree 2 1 2 4 z  = true) own_e21241 own_e21242 own_e21243 own_e21244 own_e21245 own_e21246
theorem own_f2125 : ∀ k4, k4 < 6 → own_tree 2 1 2 5 (k4 + 1) = true := own_c6 (P := fun z => own_tree 2 1 2 5 z  = true) own_e21251 own_e21252 own_e21253 own_e21254 own_e21255 own_e21256
theorem own_f2131 : ∀ k4, k4 < 6 → own_tree 2 1 3 1 (k4 + 1) = true := own_c6 (P := fun z => own_tree 2 1 3 1 z  = true) own_e21311 own_e21312 own_e21313 own_e21314 own_e21315 own_e21316
theorem own_f2132 : ∀ k4, k4 < 6 → own_tree 2 1 3 2 (k4 + 1) = true := own_c6 (P := fun z => own_tree 2 1 3 2 z  = true) own_e21321 own_e21322 own_e21323 own_e21324 own_e21325 own_e21326
theorem own_f2133 : ∀ k4, k4 < 6 → own_tree 2 1 3 3 (k4 + 1) = true := own_c6 (P := fun z => own_tree 2 1 3 3 z  = true) own_e21331 own_e21332 own_e21333 own_e21334 own_e21335 own_e21336
theorem own_f2134 : ∀ k4, k4 < 6 → own_tree 2 1 3 4 (k4 + 1) = true := own_c6 (P := fun z => own_tree 2 1 3 4 z  = true) own_e21341 own_e21342 own_e21343 own_e21344 own_e21345 own_e21346
theorem own_f2135 : ∀ k4, k4 < 6 → own_tree 2 1 3 5 (k4 + 1) = true := own_c6 (P := fun z => own_tree 2 1 3 5 z  = true) own_e21351 own_e21352 own_e21353 own_e21354 own_e21355 own_e21356
theorem own_f2141 : ∀ k4, k4 < 6 → own_tree 2 1 4 1 (k4 + 1) = true := own_c6 (P := fun z => own_tree 2 1 4 1 z  = true) own_e21411 own_e21412 own_e21413 own_e21414 own_e21415 own_e21416
theorem own_f2142 : ∀ k4, k4 < 6 → own_tree 2 1 4 2 (k4 + 1) = true := own_c6 (P := fun z => own_tree 2 1 4 2 z  = true) own_e21421 own_e21422 own_e21423 own_e21424 own_e21425 own_e21426
theorem own_f2143 : ∀ k4, k4 < 6 → own_tree 2 1 4 3 (k4 + 1) = true := own_c6 (P := fun z => own_tree 2 1 4 3 z  = true) own_e21431 own_e21432 own_e21433 own_e21434 own_e21435 own_e21436
theorem own_f2144 : ∀ k4, k4 < 6 → own_tree 2 1 4 4 (k4 + 1) = true := own_c6 (P := fun z => own_tree 2 1 4 4 z  = true) own_e21441 own_e21442 own_e21443 own_e21444 own_e21445 own_e21446
theorem own_f2145 : ∀ k4, k4 < 6 → own_tree 2 1 4 5 (k4 + 1) = true := own_c6 (P := fun z => own_tree 2 1 4 5 z  = true) own_e21451 own_e21452 own_e21453 own_e21454 own_e21455 own_e21456
theorem own_f2211 : ∀ k4, k4 < 6 → own_tree 2 2 1 1 (k4 + 1) = true := own_c6 (P := fun z => own_tree 2 2 1 1 z  = true) own_e22111 own_e22112 own_e22113 own_e22114 own_e22115 own_e22116
theorem own_f2212 : ∀ k4, k4 < 6 → own_tree 2 2 1 2 (k4 + 1) = true := own_c6 (P := fun z => own_tree 2 2 1 2 z  = true) own_e22121 own_e22122 own_e22123 own_e22124 own_e22125 own_e22126
theorem own_f2213 : ∀ k4, k4 < 6 → own_tree 2 2 1 3 (k4 + 1) = true := own_c6 (P := fun z => own_tree 2 2 1 3 z  = true) own_e22131 own_e22132 own_e22133 own_e22134 own_e22135 own_e22136
theorem own_f2214 : ∀ k4, k4 < 6 → own_tree 2 2 1 4 (k4 + 1) = true := own_c6 (P := fun z => own_tree 2 2 1 4 z  = true) own_e22141 own_e22142 own_e22143 own_e22144 own_e22145 own_e22146
theorem own_f2215 : ∀ k4, k4 < 6 → own_tree 2 2 1 5 (k4 + 1) = true := own_c6 (P := fun z => own_tree 2 2 1 5 z  = true) own_e22151 own_e22152 own_e22153 own_e22154 own_e22155 own_e22156
theorem own_f2221 : ∀ k4, k4 < 6 → own_tree 2 2 2 1 (k4 + 1) = true := own_c6 (P := fun z => own_tree 2 2 2 1 z  = true) own_e22211 own_e22212 own_e22213 own_e22214 own_e22215 own_e22216
theorem own_f2222 : ∀ k4, k4 < 6 → own_tree 2 2 2 2 (k4 + 1) = true := own_c6 (P := fun z => own_tree 2 2 2 2 z  = true) own_e22221 own_e22222 own_e22223 own_e22224 own_e22225 own_e22226
theorem own_f2223 : ∀ k4, k4 < 6 → own_tree 2 2 2 3 (k4 + 1) = true := own_c6 (P := fun z => own_tree 2 2 2 3 z  = true) own_e22231 own_e22232 own_e22233 own_e22234 own_e22235 own_e22236
theorem own_f2224 : ∀ k4, k4 < 6 → own_tree 2 2 2 4 (k4 + 1) = true := own_c6 (P := fun z => own_tree 2 2 2 4 z  = true) own_e22241 own_e22242 own_e22243 own_e22244 own_e22245 own_e22246
theorem own_f2225 : ∀ k4, k4 < 6 → own_tree 2 2 2 5 (k4 + 1) = true := own_c6 (P := fun z => own_tree 2 2 2 5 z  = true) own_e22251 own_e22252 own_e22253 own_e22254 own_e22255 own_e22256
theorem own_f2231 : ∀ k4, k4 < 6 → own_tree 2 2 3 1 (k4 + 1) = true := own_c6 (P := fun z => own_tree 2 2 3 1 z  = true) own_e22311 own_e22312 own_e22313 own_e22314 own_e22315 own_e22316
theorem own_f2232 : ∀ k4, k4 < 6 → own_tree 2 2 3 2 (k4 + 1) = true := own_c6 (P := fun z => own_tree 2 2 3 2 z  = true) own_e22321 own_e22322 own_e22323 own_e22324 own_e22325 own_e22326
theorem own_f2233 : ∀ k4, k4 < 6 → own_tree 2 2 3 3 (k4 + 1) = true := own_c6 (P := fun z => own_tree 2 2 3 3 z  = true) own_e22331 own_e22332 own_e22333 own_e22334 own_e22335 own_e22336
theorem own_f2234 : ∀ k4, k4 < 6 → own_tree 2 2 3 4 (k4 + 1) = true := own_c6 (P := fun z => own_tree 2 2 3 4 z  = true) own_e22341 own_e22342 own_e22343 own_e22344 own_e22345 own_e22346
theorem own_f2235 : ∀ k4, k4 < 6 → own_tree 2 2 3 5 (k4 + 1) = true := own_c6 (P := fun z => own_tree 2 2 3 5 z  = true) own_e22351 own_e22352 own_e22353 own_e22354 own_e22355 own_e22356
theorem own_f2241 : ∀ k4, k4 < 6 → own_tree 2 2 4 1 (k4 + 1) = true := own_c6 (P := fun z => own_tree 2 2 4 1 z  = true) own_e22411 own_e22412 own_e22413 own_e22414 own_e22415 own_e22416
theorem own_f2242 : ∀ k4, k4 < 6 → own_tree 2 2 4 2 (k4 + 1) = true := own_c6 (P := fun z => own_tree 2 2 4 2 z  = true) own_e22421 own_e22422 own_e22423 own_e22424 own_e22425 own_e22426
theorem own_f2243 : ∀ k4, k4 < 6 → own_tree 2 2 4 3 (k4 + 1) = true := own_c6 (P := fun z => own_tree 2 2 4 3 z  = true) own_e22431 own_e22432 own_e22433 own_e22434 own_e22435 own_e22436
theorem own_f2244 : ∀ k4, k4 < 6 → own_tree 2 2 4 4 (k4 + 1) = true := own_c6 (P := fun z => own_tree 2 2 4 4 z  = true) own_e22441 own_e22442 own_e22443 own_e22444 own_e22445 own_e22446
theorem own_f2245 : ∀ k4, k4 < 6 → own_tree 2 2 4 5 (k4 + 1) = true := own_c6 (P := fun z => own_tree 2 2 4 5 z  = true) own_e22451 own_e22452 own_e22453 own_e22454 own_e22455 own_e22456
theorem own_f2311 : ∀ k4, k4 < 6 → own_tree 2 3 1 1 (k4 + 1) = true := own_c6 (P := fun z => own_tree 2 3 1 1 z  = true) own_e23111 own_e23112 own_e23113 own_e23114 own_e23115 own_e23116
theorem own_f2312 : ∀ k4, k4 < 6 → own_tree 2 3 1 2 (k4 + 1) = true := own_c6 (P := fun z => own_tree 2 3 1 2 z  = true) own_e23121 own_e23122 own_e23123 own_e23124 own_e23125 own_e23126
theorem own_f2313 : ∀ k4, k4 < 6 → own_tree 2 3 1 3 (k4 + 1) = true := own_c6 (P := fun z => own_tree 2 3 1 3 z  = true) own_e23131 own_e23132 own_e23133 own_e23134 own_e23135 own_e23136
theorem own_f2314 : ∀ k4, k4 < 6 → own_tree 2 3 1 4 (k4 + 1) = true := own_c6 (P := fun z => own_tree 2 3 1 4 z  = true) own_e23141 own_e23142 own_e23143 own_e23144 own_e23145 own_e23146
theorem own_f2315 : ∀ k4, k4 < 6 → own_tree 2 3 1 5 (k4 + 1) = true := own_c6 (P := fun z => own_tree 2 3 1 5 z  = true) own_e23151 own_e23152 own_e23153 own_e23154 own_e23155 own_e23156
theorem own_f2321 : ∀ k4, k4 < 6 → own_tree 2 3 2 1 (k4 + 1) = true := own_c6 (P := fun z => own_tree 2 3 2 1 z  = true) own_e23211 own_e23212 own_e23213 own_e23214 own_e23215 own_e23216
theorem own_f2322 : ∀ k4, k4 < 6 → own_tree 2 3 2 2 (k4 + 1) = true := own_c6 (P := fun z => own_tree 2 3 2 2 z  = true) own_e23221 own_e23222 own_e23223 own_e23224 own_e23225 own_e23226
theorem own_f2323 : ∀ k4, k4 < 6 → own_tree 2 3 2 3 (k4 + 1) = true := own_c6 (P := fun z => own_tree 2 3 2 3 z  = true) own_e23231 own_e23232 own_e23233 own_e23234 own_e23235 own_e23236
theorem own_f2324 : ∀ k4, k4 < 6 → own_tree 2 3 2 4 (k4 + 1) = true := own_c6 (P := fun z => own_tree 2 3 2 4 z  = true) own_e23241 own_e23242 own_e23243 own_e23244 own_e23245 own_e23246
theorem own_f2325 : ∀ k4, k4 < 6 → own_tree 2 3 2 5 (k4 + 1) = true := own_c6 (P := fun z => own_tree 2 3 2 5 z  = true) own_e23251 own_e23252 own_e23253 own_e23254 own_e23255 own_e23256
theorem own_f2331 : ∀ k4, k4 < 6 → own_tree 2 3 3 1 (k4 + 1) = true := own_c6 (P := fun z => own_tree 2 3 3 1 z  = true) own_e23311 own_e23312 own_e23313 own_e23314 own_e23315 own_e23316
theorem own_f2332 : ∀ k4, k4 < 6 → own_tree 2 3 3 2 (k4 + 1) = true := own_c6 (P := fun z => own_tree 2 3 3 2 z  = true) own_e23321 own_e23322 own_e23323 own_e23324 own_e23325 own_e23326
theorem own_f2333 : ∀ k4, k4 < 6 → own_tree 2 3 3 3 (k4 + 1) = true := own_c6 (P := fun z => own_tree 2 3 3 3 z  = true) own_e23331 own_e23332 own_e23333 own_e23334 own_e23335 own_e23336
theorem own_f2334 : ∀ k4, k4 < 6 → own_tree 2 3 3 4 (k4 + 1) = true := own_c6 (P := fun z => own_tree 2 3 3 4 z  = true) own_e23341 own_e23342 own_e23343 own_e23344 own_e23345 own_e23346
theorem own_f2335 : ∀ k4, k4 < 6 → own_tree 2 3 3 5 (k4 + 1) = true := own_c6 (P := fun z => own_tree 2 3 3 5 z  = true) own_e23351 own_e23352 own_e23353 own_e23354 own_e23355 own_e23356
theorem own_f2341 : ∀ k4, k4 < 6 → own_tree 2 3 4 1 (k4 + 1) = true := own_c6 (P := fun z => own_tree 2 3 4 1 z  = true) own_e23411 own_e23412 own_e23413 own_e23414 own_e23415 own_e23416
theorem own_f2342 : ∀ k4, k4 < 6 → own_tree 2 3 4 2 (k4 + 1) = true := own_c6 (P := fun z => own_tree 2 3 4 2 z  = true) own_e23421 own_e23422 own_e23423 own_e23424 own_e23425 own_e23426
theorem own_f2343 : ∀ k4, k4 < 6 → own_tree 2 3 4 3 (k4 + 1) = true := own_c6 (P := fun z => own_tree 2 3 4 3 z  = true) own_e23431 own_e23432 own_e23433 own_e23434 own_e23435 own_e23436
theorem own_f2344 : ∀ k4, k4 < 6 → own_tree 2 3 4 4 (k4 + 1) = true := own_c6 (P := fun z => own_tree 2 3 4 4 z  = true) own_e23441 own_e23442 own_e23443 own_e23444 own_e23445 own_e23446
theorem own_f2345 : ∀ k4, k4 < 6 → own_tree 2 3 4 5 (k4 + 1) = true := own_c6 (P := fun z => own_tree 2 3 4 5 z  = true) own_e23451 own_e23452 own_e23453 own_e23454 own_e23455 own_e23456
theorem own_f111 : ∀ k3, k3 < 5 → ∀ k4, k4 < 6 → own_tree 1 1 1 (k3 + 1) (k4 + 1) = true := own_c5 (P := fun z => ∀ k4, k4 < 6 → own_tree 1 1 1 z (k4 + 1) = true) own_f1111 own_f1112 own_f1113 own_f1114 own_f1115
theorem own_f112 : ∀ k3, k3 < 5 → ∀ k4, k4 < 6 → own_tree 1 1 2 (k3 + 1) (k4 + 1) = true := own_c5 (P := fun z => ∀ k4, k4 < 6 → own_tree 1 1 2 z (k4 + 1) = true) own_f1121 own_f1122 own_f1123 own_f1124 own_f1125
theorem own_f113 : ∀ k3, k3 < 5 → ∀ k4, k4 < 6 → own_tree 1 1 3 (k3 + 1) (k4 + 1) = true := own_c5 (P := fun z => ∀ k4, k4 < 6 → own_tree 1 1 3 z (k4 + 1) = true) own_f1131 own_f1132 own_f1133 own_f1134 own_f1135
theorem own_f114 : ∀ k3, k3 < 5 → ∀ k4, k4 < 6 → own_tree 1 1 4 (k3 + 1) (k4 + 1) = true := own_c5 (P := fun z => ∀ k4, k4 < 6 → own_tree 1 1 4 z (k4 + 1) = true) own_f1141 own_f1142 own_f1143 own_f1144 own_f1145
theorem own_f121 : ∀ k3, k3 < 5 → ∀ k4, k4 < 6 → own_tree 1 2 1 (k3 + 1) (k4 + 1) = true := own_c5 (P := fun z => ∀ k4, k4 < 6 → own_tree 1 2 1 z (k4 + 1) = true) own_f1211 own_f1212 own_f1213 own_f1214 own_f1215
theorem own_f122 : ∀ k3, k3 < 5 → ∀ k4, k4 < 6 → own_tree 1 2 2 (k3 + 1) (k4 + 1) = true := own_c5 (P := fun z => ∀ k4, k4 < 6 → own_tree 1 2 2 z (k4 + 1) = true) own_f1221 own_f1222 own_f1223 own_f1224 own_f1225
theorem own_f123 : ∀ k3, k3 < 5 → ∀ k4, k4 < 6 → own_tree 1 2 3 (k3 + 1) (k4 + 1) = true := own_c5 (P := fun z => ∀ k4, k4 < 6 → own_tree 1 2 3 z (k4 + 1) = true) own_f1231 own_f1232 own_f1233 own_f1234 own_f1235
theorem own_f124 : ∀ k3, k3 < 5 → ∀ k4, k4 < 6 → own_tree 1 2 4 (k3 + 1) (k4 + 1) = true := own_c5 (P := fun z => ∀ k4, k4 < 6 → own_tree 1 2 4 z (k4 + 1) = true) own_f1241 own_f1242 own_f1243 own_f1244 own_f1245
theorem own_f131 : ∀ k3, k3 < 5 → ∀ k4, k4 < 6 → own_tree 1 3 1 (k3 + 1) (k4 + 1) = true := own_c5 (P := fun z => ∀ k4, k4 < 6 → own_tree 1 3 1 z (k4 + 1) = true) own_f1311 own_f1312 own_f1313 own_f1314 own_f1315
theorem own_f132 : ∀ k3, k3 < 5 → ∀ k4, k4 < 6 → own_tree 1 3 2 (k3 + 1) (k4 + 1) = true := own_c5 (P := fun z => ∀ k4, k4 < 6 → own_tree 1 3 2 z (k4 + 1) = true) own_f1321 own_f1322 own_f1323 own_f1324 own_f1325
theorem own_f133 : ∀ k3, k3 < 5 → ∀ k4, k4 < 6 → own_tree 1 3 3 (k3 + 1) (k4 + 1) = true := own_c5 (P := fun z => ∀ k4, k4 < 6 → own_tree 1 3 3 z (k4 + 1) = true) own_f1331 own_f1332 own_f1333 own_f1334 own_f1335
theorem own_f134 : ∀ k3, k3 < 5 → ∀ k4, k4 < 6 → own_tree 1 3 4 (k3 + 1) (k4 + 1) = true := own_c5 (P := fun z => ∀ k4, k4 < 6 → own_tree 1 3 4 z (k4 + 1) = true) own_f1341 own_f1342 own_f1343 own_f1344 own_f1345
theorem own_f211 : ∀ k3, k3 < 5 → ∀ k4, k4 < 6 → own_tree 2 1 1 (k3 + 1) (k4 + 1) = true := own_c5 (P := fun z => ∀ k4, k4 < 6 → own_tree 2 1 1 z (k4 + 1) = true) own_f2111 own_f2112 own_f2113 own_f2114 own_f2115
theorem own_f212 : ∀ k3, k3 < 5 → ∀ k4, k4 < 6 → own_tree 2 1 2 (k3 + 1) (k4 + 1) = true := own_c5 (P := fun z => ∀ k4, k4 < 6 → own_tree 2 1 2 z (k4 + 1) = true) own_f2121 own_f2122 own_f2123 own_f2124 own_f2125
theorem own_f213 : ∀ k3, k3 < 5 → ∀ k4, k4 < 6 → own_tree 2 1 3 (k3 + 1) (k4 + 1) = true := own_c5 (P := fun z => ∀ k4, k4 < 6 → own_tree 2 1 3 z (k4 + 1) = true) own_f2131 own_f2132 own_f2133 own_f2134 own_f2135
theorem own_f214 : ∀ k3, k3 < 5 → ∀ k4, k4 < 6 → own_tree 2 1 4 (k3 + 1) (k4 + 1) = true := own_c5 (P := fun z => ∀ k4, k4 < 6 → own_tree 2 1 4 z (k4 + 1) = true) own_f2141 own_f2142 own_f2143 own_f2144 own_f2145
theorem own_f221 : ∀ k3, k3 < 5 → ∀ k4, k4 < 6 → own_tree 2 2 1 (k3 + 1) (k4 + 1) = true := own_c5 (P := fun z => ∀ k4, k4 < 6 → own_tree 2 2 1 z (k4 + 1) = true) own_f2211 own_f2212 own_f2213 own_f2214 own_f2215
theorem own_f222 : ∀ k3, k3 < 5 → ∀ k4, k4 < 6 → own_tree 2 2 2 (k3 + 1) (k4 + 1) = true := own_c5 (P := fun z => ∀ k4, k4 < 6 → own_tree 2 2 2 z (k4 + 1) = true) own_f2221 own_f2222 own_f2223 own_f2224 own_f2225
theorem own_f223 : ∀ k3, k3 < 5 → ∀ k4, k4 < 6 → own_tree 2 2 3 (k3 + 1) (k4 + 1) = true := own_c5 (P := fun z => ∀ k4, k4 < 6 → own_tree 2 2 3 z (k4 + 1) = true) own_f2231 own_f2232 own_f2233 own_f2234 own_f2235
theorem own_f224 : ∀ k3, k3 < 5 → ∀ k4, k4 < 6 → own_tree 2 2 4 (k3 + 1) (k4 + 1) = true := own_c5 (P := fun z => ∀ k4, k4 < 6 → own_tree 2 2 4 z (k4 + 1) = true) own_f2241 own_f2242 own_f2243 own_f2244 own_f2245
theorem own_f231 : ∀ k3, k3 < 5 → ∀ k4, k4 < 6 → own_tree 2 3 1 (k3 + 1) (k4 + 1) = true := own_c5 (P := fun z => ∀ k4, k4 < 6 → own_tree 2 3 1 z (k4 + 1) = true) own_f2311 own_f2312 own_f2313 own_f2314 own_f2315
theorem own_f232 : ∀ k3, k3 < 5 → ∀ k4, k4 < 6 → own_tree 2 3 2 (k3 + 1) (k4 + 1) = true := own_c5 (P := fun z => ∀ k4, k4 < 6 → own_tree 2 3 2 z (k4 + 1) = true) own_f2321 own_f2322 own_f2323 own_f2324 own_f2325
theorem own_f233 : ∀ k3, k3 < 5 → ∀ k4, k4 < 6 → own_tree 2 3 3 (k3 + 1) (k4 + 1) = true := own_c5 (P := fun z => ∀ k4, k4 < 6 → own_tree 2 3 3 z (k4 + 1) = true) own_f2331 own_f2332 own_f2333 own_f2334 own_f2335
theorem own_f234 : ∀ k3, k3 < 5 → ∀ k4, k4 < 6 → own_tree 2 3 4 (k3 + 1) (k4 + 1) = true := own_c5 (P := fun z => ∀ k4, k4 < 6 → own_tree 2 3 4 z (k4 + 1) = true) own_f2341 own_f2342 own_f2343 own_f2344 own_f2345
theorem own_f11 : ∀ k2, k2 < 4 → ∀ k3, k3 < 5 → ∀ k4, k4 < 6 → own_tree 1 1 (k2 + 1) (k3 + 1) (k4 + 1) = true := own_c4 (P := fun z => ∀ k3, k3 < 5 → ∀ k4, k4 < 6 → own_tree 1 1 z (k3 + 1) (k4 + 1) = true) own_f111 own_f112 own_f113 own_f114
theorem own_f12 : ∀ k2, k2 < 4 → ∀ k3, k3 < 5 → ∀ k4, k4 < 6 → own_tree 1 2 (k2 + 1) (k3 + 1) (k4 + 1) = true := own_c4 (P := fun z => ∀ k3, k3 < 5 → ∀ k4, k4 < 6 → own_tree 1 2 z (k3 + 1) (k4 + 1) = true) own_f121 own_f122 own_f123 own_f124
theorem own_f13 : ∀ k2, k2 < 4 → ∀ k3, k3 < 5 → ∀ k4, k4 < 6 → own_tree 1 3 (k2 + 1) (k3 + 1) (k4 + 1) = true := own_c4 (P := fun z => ∀ k3, k3 < 5 → ∀ k4, k4 < 6 → own_tree 1 3 z (k3 + 1) (k4 + 1) = true) own_f131 own_f132 own_f133 own_f134
theorem own_f21 : ∀ k2, k2 < 4 → ∀ k3, k3 < 5 → ∀ k4, k4 < 6 → own_tree 2 1 (k2 + 1) (k3 + 1) (k4 + 1) = true := own_c4 (P := fun z => ∀ k3, k3 < 5 → ∀ k4, k4 < 6 → own_tree 2 1 z (k3 + 1) (k4 + 1) = true) own_f211 own_f212 own_f213 own_f214
theorem own_f22 : ∀ k2, k2 < 4 → ∀ k3, k3 < 5 → ∀ k4, k4 < 6 → own_tree 2 2 (k2 + 1) (k3 + 1) (k4 + 1) = true := own_c4 (P := fun z => ∀ k3, k3 < 5 → ∀ k4, k4 < 6 → own_tree 2 2 z (k3 + 1) (k4 + 1) = true) own_f221 own_f222 own_f223 own_f224
theorem own_f23 : ∀ k2, k2 < 4 → ∀ k3, k3 < 5 → ∀ k4, k4 < 6 → own_tree 2 3 (k2 + 1) (k3 + 1) (k4 + 1) = true := own_c4 (P := fun z => ∀ k3, k3 < 5 → ∀ k4, k4 < 6 → own_tree 2 3 z (k3 + 1) (k4 + 1) = true) own_f231 own_f232 own_f233 own_f234
theorem own_f1 : ∀ k1, k1 < 3 → ∀ k2, k2 < 4 → ∀ k3, k3 < 5 → ∀ k4, k4 < 6 → own_tree 1 (k1 + 1) (k2 + 1) (k3 + 1) (k4 + 1) = true := own_c3 (P := fun z => ∀ k2, k2 < 4 → ∀ k3, k3 < 5 → ∀ k4, k4 < 6 → own_tree 1 z (k2 + 1) (k3 + 1) (k4 + 1) = true) own_f11 own_f12 own_f13
theorem own_f2 : ∀ k1, k1 < 3 → ∀ k2, k2 < 4 → ∀ k3, k3 < 5 → ∀ k4, k4 < 6 → own_tree 2 (k1 + 1) (k2 + 1) (k3 + 1) (k4 + 1) = true := own_c3 (P := fun z => ∀ k2, k2 < 4 → ∀ k3, k3 < 5 → ∀ k4, k4 < 6 → own_tree 2 z (k2 + 1) (k3 + 1) (k4 + 1) = true) own_f21 own_f22 own_f23
theorem own_f0 : ∀ k0, k0 < 2 → ∀ k1, k1 < 3 → ∀ k2, k2 < 4 → ∀ k3, k3 < 5 → ∀ k4, k4 < 6 → own_tree (k0 + 1) (k1 + 1) (k2 + 1) (k3 + 1) (k4 + 1) = true := own_c2 (P := fun z => ∀ k1, k1 < 3 → ∀ k2, k2 < 4 → ∀ k3, k3 < 5 → ∀ k4, k4 < 6 → own_tree z (k1 + 1) (k2 + 1) (k3 + 1) (k4 + 1) = true) own_f1 own_f2
set_option maxRecDepth 65536 in
set_option maxHeartbeats 40000000 in
theorem comes_1 {Post : Tables → Env → Array Value → State → Outcome → State → Prop} (hpost : ∀ tb e args s v u, (limb_1_1.after args s (.returned v) u = true ∧ limb_1_2.after args s (.returned v) u = true ∧ True) → FrameEnd s (.returned v) u (Jvm.fieldLocs frame_1_writes args s ++ Jvm.arrayLocs frame_1_arrays args s ++ Jvm.staticLocs frame_1_statics s) 88 448 → Post tb e args s (.returned v) u) :
    ArmFor flags0 classFile x code maxLocals ret World_1 tables_1 room_1 Calls_1 rest_1 Pre_1 Post := by
  intro l hfl _ _ p e ha hc hk s m args below hf hA hF happ hP
  obtain ⟨hcalls, hrest, hpre⟩ := hP
  obtain ⟨-, -, -, hnamed, -, -, -, hat⟩ := (Spec.applies_iff hf).mp happ
  obtain ⟨hg, hn⟩ := and_e (Cond.before_iff.mp (show (Jvm.Cond.and given_1 narrow_1).before args s = true from hpre))
  obtain ⟨g0, hg⟩ := and_e hg
  obtain ⟨k0, hg⟩ := and_e hg
  obtain ⟨k1, hg⟩ := and_e hg
  obtain ⟨k2, hg⟩ := and_e hg
  have k3 := hg
  obtain ⟨w0, w1, w2, w3, rfl⟩ : ∃ w0 w1 w2 w3 : Value, args = #[w0, w1, w2, w3] := by
    have hs : args.size = 4 := by simpa [Cond.value, given_1] using g0
    obtain ⟨L⟩ := args
    match L, hs with
    | [w0, w1, w2, w3], _ => exact ⟨w0, w1, w2, w3, rfl⟩
  have hw := fun d (hd : d ∈ tables_1) => atoms_spec (ws := Jvm.Cond.code x code maxLocals ret :: tables_1) hat d (List.mem_cons_of_mem _ hd)
  have hfit : Fit s := fun {y c} hc i hi => by
    obtain ⟨ha, rfl⟩ := Array.getElem?_eq_some_iff.mp hc
    have q := List.all_eq_true.mp ((Array.all_eq_true_iff_forall_mem.mp hF) _ (Array.getElem_mem ha)) i (List.mem_range.mpr hi)
    simpa [Array.getElem?_eq_getElem hi] using q
  obtain ⟨i0, e0⟩ := is_v k0
  obtain rfl : w0 = (.int i0) := Option.some.inj e0
  obtain ⟨i1, e1⟩ := is_v k1
  obtain rfl : w1 = (.int i1) := Option.some.inj e1
  obtain ⟨i2, e2⟩ := is_v k2
  obtain rfl : w2 = (.int i2) := Option.some.inj e2
  obtain ⟨i3, e3⟩ := is_v k3
  obtain rfl : w3 = (.int i3) := Option.some.inj e3
  obtain ⟨hsets, -⟩ := atoms_of jdkStatics_1 (show (jdkStatics_1.foldr Jvm.Cond.and restOwn_1).before _ s = true from by rw [← rest_1_c_eq]; exact hrest)
  have wS : ∀ (k : Nat) (d : Jvm.Cond), jdkStatics_1[k]? = some d → d.before _ s = true := fun k d q => hsets d (List.mem_of_getElem? q)
  have hini := own_initd (wS 0 _ rfl) (wS 1 _ rfl)
  have s1 := Sta.start (eqv_i (y := 127) rfl (Cond.before_iff.mp (wS 3 _ rfl))) (Or.inl (wS 1 _ rfl))
  obtain ⟨cb, ev⟩ := exa_v (Cond.before_iff.mp (wS 5 _ rfl))
  have s2 := Sta.start ev (Or.inr ⟨hini, wS 2 _ rfl⟩)
  obtain ⟨cc, Ac⟩ := Arr.start ev (Cond.before_iff.mp (wS 4 _ rfl))
  have hlen := Cond.before_iff.mp (wS 6 _ rfl)
  obtain ⟨ca, K⟩ := own_oka s1 s2 (own_bxs ev Ac hlen (Cond.before_iff.mp (wS 7 _ rfl)))
  obtain ⟨k1, hk1, e1⟩ := own_m7 i0 (n := 1) (m := 2) (by decide) (by decide) rfl
  obtain rfl : k1 = 0 := by omega
  obtain ⟨k2, hk2, e2⟩ := own_m7 (XT.ushr i0 (vi 4)) (n := 2) (m := 3) (by decide) (by decide) rfl
  obtain ⟨k3, hk3, e3⟩ := own_m7 (XT.ushr i0 (vi 7)) (n := 3) (m := 4) (by decide) (by decide) rfl
  obtain ⟨k4, hk4, e4⟩ := own_m7 (XT.ushr i0 (vi 10)) (n := 4) (m := 5) (by decide) (by decide) rfl
  obtain ⟨k5, hk5, e5⟩ := own_m7 (XT.ushr i0 (vi 13)) (n := 5) (m := 6) (by decide) (by decide) rfl
  obtain ⟨k6, hk6, e6⟩ := own_m7 (XT.ushr i0 (vi 16)) (n := 6) (m := 7) (by decide) (by decide) rfl
  obtain ⟨kr, hkr, er⟩ := own_mM i1 (n := 7) (m := 8) (by decide) (by decide) rfl
  obtain ⟨ku, hku, eu⟩ := own_mM i2 (n := 7) (m := 8) (by decide) (by decide) rfl
  obtain ⟨kv, hkv, hne, ev2⟩ := own_vv i3 hku
  obtain ⟨pw, res, hM, hL, hres⟩ := own_ok (own_f0 k2 hk2 k3 hk3 k4 hk4 k5 hk5 k6 hk6) hkr hku hkv hne
  obtain ⟨n, o, h1, h2, h3, _, L, rfl, ⟨⟨rfl, _⟩, N⟩, hq⟩ := rm_law l s _ hw ca K 0 i0 i1 i2 i3 1 (k2 + 1) (k3 + 1) (k4 + 1) (k5 + 1) (k6 + 1) (kr + 1) (ku + 1) (kv + 1) res s.heap ⟨Nat.le_refl _, fun _ _ q => q⟩ (own_enc0 s ca) e1 e2 e3 e4 e5 e6 er eu ev2 hres pw hL hM tables_1 p e ha hc hk s m _ below hf ((Spec.applies_iff_loose hf).mp happ).1 ⟨rfl, State.Warmed39.refl s, rfl⟩ trivial
  refine ⟨n, _, h1, h2, h3, hpost _ _ _ _ _ _ ⟨Cond.after_iff.mpr rfl, Cond.after_iff.mpr (eq_i res_at (Term.int_eval (1)) rfl), trivial⟩ ⟨hq.1, hq.2.1, (hq.2.2.sift fun y hy => Or.inr (N y hy)).mono (by decide) (by decide)⟩⟩
theorem main_1_1 : Claimed_1_1 := comes_1 fun _ _ _ _ _ _ h hF => ⟨h.1, hF⟩
theorem main_1_2 : Claimed_1_2 := comes_1 fun _ _ _ _ _ _ h hF => ⟨h.2.1, hF⟩
end Jvm.Pilot.@@N@@
namespace Jvm.Pilot.@@N@@
open Jvm Jvm.ClassFile Sem Op Lib Jvm.Free Jvm.Stand Jvm.Pilot.@@N@@.Jvm.D
/-! MADE BY PROGRAM (witnessworld.py) out of the Statement's table words and the real class files: 29 classes; the members and pool entries that the words name. The judged class is class 1, her method 2. -/
namespace start1
open Jvm.ClassFile
def u (s : String) : CpInfo := .utf8 (stringToUtf16 s)
/-- a pool by its gaps: so many unusable entries, then the entry; so many at the end -/
def gap : Nat → List CpInfo → List CpInfo
  | 0, r => r
  | n + 1, r => .unusable :: gap n r
def poolList (es : List (Nat × CpInfo)) (last : Nat) : List CpInfo := es.foldr (fun e r => gap e.1 (e.2 :: r)) (gap last [])
def pool (es : List (Nat × CpInfo)) (last : Nat) : Array CpInfo := ⟨poolList es last⟩
def fileOf (pool : Array CpInfo) (this : Nat) (attrs : Array Attribute := #[]) (ms : Array MethodInfo := #[]) (fl : Nat := 33) (sup : Nat := 0) (ifs : Array Nat := #[]) (fds : Array FieldInfo := #[]) : ClassFile where
  minorVersion := 0
  majorVersion := 65
  constantPool := pool
  accessFlags := fl
  thisClass := this
  superClass := sup
  interfaces := ifs
  fields := fds
  methods := ms
  attributes := attrs
def plain (name : String) (sup : Option ClassId) : Class where
  name := name
  kind := .ordinary
  loader := none
  accessFlags := 33
  super := sup
  interfaces := #[]
  cf := none
  fields := #[]
  methods := #[]
  instanceTypes := #[]
  staticTypes := #[]
  resolved := #[]
  callSites := []
  init := .initialized
  statics := none
  mirror := none

def pool0 : Array CpInfo := pool [(5, u "<init>"), (0, u "()V"), (1, .class_ 10), (1, u "java/lang/Object")] 113

def k0c0 : Code := { maxStack := 0, maxLocals := 1, code := object_method_1_code, exceptionTable := #[], attributes := #[] }
def k0m0 : Method := { name := "<init>", desc := "()V", sig := { parameters := [], returnType := none }, accessFlags := 1, code := some k0c0 }
/-- java/lang/Object -/
def k0 : Class := { plain "java/lang/Object" none with
  accessFlags := 33
  interfaces := #[]
  cf := some (fileOf pool0 8 #[] #[{ accessFlags := 1, nameIndex := 5, descriptorIndex := 6, attributes := #[] }] 33 0 #[] #[])
  fields := #[]
  methods := #[k0m0]
  instanceTypes := #[]
  staticTypes := #[]
  resolved := Array.replicate 124 none
  statics := none }

def pool1 : Array CpInfo := pool [(2, .class_ 4), (1, u "java/lang/Object"), (0, u "<init>"), (0, u "()V"), (0, .integer 2147483647), (0, .class_ 9), (0, u "com/example/mild_horn/mildhorn/translation/Centroids"), (0, .methodref 8 11), (0, .nameAndType 5 12), (0, u "([I)V"), (0, .methodref 14 15), (0, .class_ 16), (0, .nameAndType 17 18), (0, u "com/example/mild_horn/mildhorn/translation/CentroidsTowardPinLaw"), (0, u "childToward"), (0, u "([III)I"), (0, .methodref 8 20), (0, .nameAndType 21 22), (0, u "toward"), (0, u "(II)I"), (3, u "law"), (0, u "(IIII)Z")] 4

def k1m0 : Method := { name := "<init>", desc := "()V", sig := { parameters := [], returnType := none }, accessFlags := 1, code := none }
def k1c1 : Code := { maxStack := 2, maxLocals := 4, code := method_2_code, exceptionTable := #[], attributes := #[] }
def k1m1 : Method := { name := "childToward", desc := "([III)I", sig := { parameters := [(.array .int), .int, .int], returnType := some .int }, accessFlags := 10, code := some k1c1 }
def k1c2 : Code := { maxStack := 4, maxLocals := 12, code := code, exceptionTable := #[], attributes := #[] }
def k1m2 : Method := { name := "law", desc := "(IIII)Z", sig := { parameters := [.int, .int, .int, .int], returnType := some .boolean }, accessFlags := 9, code := some k1c2 }
/-- com/example/mild_horn/mildhorn/translation/CentroidsTowardPinLaw -/
def k1 : Class := { plain "com/example/mild_horn/mildhorn/translation/CentroidsTowardPinLaw" (some 0) with
  accessFlags := 49
  interfaces := #[]
  cf := some (fileOf pool1 14 #[] #[{ accessFlags := 1, nameIndex := 5, descriptorIndex := 6, attributes := #[] }, { accessFlags := 10, nameIndex := 17, descriptorIndex := 18, attributes := #[] }, { accessFlags := 9, nameIndex := 26, descriptorIndex := 27, attributes := #[] }] 49 2 #[] #[])
  fields := #[]
  methods := #[k1m0, k1m1, k1m2]
  instanceTypes := #[]
  staticTypes := #[]
  resolved := Array.replicate 32 none
  statics := none }

def pool2 : Array CpInfo := pool [(1, .methodref 2 3), (0, .class_ 4), (0, .nameAndType 5 6), (0, u "java/lang/Object"), (0, u "<init>"), (0, u "()V"), (0, .fieldref 8 9), (0, .class_ 10), (0, .nameAndType 11 12), (0, u "com/example/mild_horn/mildhorn/translation/Centroids"), (0, u "parents"), (0, u "[I"), (0, .methodref 8 14), (0, .nameAndType 15 16), (0, u "children"), (0, u "([I)[[I"), (0, .fieldref 8 18), (0, .nameAndType 15 19), (0, u "[[I"), (0, .methodref 8 21), (0, .nameAndType 22 23), (0, u "neighbours"), (0, u "([I[[I)[[I"), (0, .fieldref 8 25), (0, .nameAndType 22 19), (0, .fieldref 8 27), (0, .nameAndType 28 12), (0, u "first"), (0, .fieldref 8 30), (0, .nameAndType 31 12), (0, u "last"), (0, .fieldref 8 33), (0, .nameAndType 34 12), (0, u "after"), (0, .methodref 8 36), (0, .nameAndType 37 38), (0, u "number"), (0, u "(I)V"), (0, .methodref 8 40), (0, .nameAndType 41 42), (0, u "decompose"), (0, u "(I)I"), (0, .fieldref 8 44), (0, .nameAndType 45 46), (0, u "top"), (0, u "I"), (0, .class_ 12), (0, .class_ 49), (0, u "java/util/ArrayDeque"), (0, .methodref 48 3), (0, .methodref 52 53), (0, .class_ 54), (0, .nameAndType 55 56), (0, u "java/lang/Integer"), (0, u "valueOf"), (0, u "(I)Ljava/lang/Integer;"), (0, .interfaceMethodref 58 59), (0, .class_ 60), (0, .nameAndType 61 62), (0, u "java/util/Deque"), (0, u "push"), (0, u "(Ljava/lang/Object;)V"), (0, .interfaceMethodref 58 64), (0, .nameAndType 65 66), (0, u "isEmpty"), (0, u "()Z"), (0, .interfaceMethodref 58 68), (0, .nameAndType 69 70), (0, u "pop"), (0, u "()Ljava/lang/Object;"), (0, .methodref 52 72), (0, .nameAndType 73 74), (0, u "intValue"), (0, u "()I"), (0, .methodref 76 77), (0, .class_ 78), (0, .nameAndType 79 80), (0, u "java/lang/Math"), (0, u "max"), (0, u "(II)I"), (0, .methodref 8 82), (0, .nameAndType 83 84), (0, u "reach"), (0, u "(I[Z[I[I)I"), (0, .methodref 8 86), (0, .nameAndType 87 88), (0, u "heaviest"), (0, u "(II[Z[I[I)I"), (0, .methodref 90 91), (0, .class_ 92), (0, .nameAndType 93 94), (0, u "java/util/Arrays"), (0, u "copyOf"), (0, u "([II)[I"), (0, u "([I)V"), (4, u "toward")] 6

def k2c0 : Code := { maxStack := 3, maxLocals := 3, code := prog_40_method_1_code, exceptionTable := #[], attributes := #[] }
def k2m0 : Method := { name := "<init>", desc := "([I)V", sig := { parameters := [(.array .int)], returnType := none }, accessFlags := 0, code := some k2c0 }
def k2c1 : Code := { maxStack := 3, maxLocals := 7, code := prog_40_method_4_code, exceptionTable := #[], attributes := #[] }
def k2m1 : Method := { name := "toward", desc := "(II)I", sig := { parameters := [.int, .int], returnType := some .int }, accessFlags := 0, code := some k2c1 }
def k2c2 : Code := { maxStack := 6, maxLocals := 6, code := prog_40_method_6_code, exceptionTable := #[], attributes := #[] }
def k2m2 : Method := { name := "children", desc := "([I)[[I", sig := { parameters := [(.array .int)], returnType := some (.array (.array .int)) }, accessFlags := 10, code := some k2c2 }
def k2c3 : Code := { maxStack := 5, maxLocals := 7, code := prog_40_method_7_code, exceptionTable := #[], attributes := #[] }
def k2m3 : Method := { name := "number", desc := "(I)V", sig := { parameters := [.int], returnType := none }, accessFlags := 2, code := some k2c3 }
def k2c4 : Code := { maxStack := 6, maxLocals := 16, code := prog_40_method_8_code, exceptionTable := #[], attributes := #[] }
def k2m4 : Method := { name := "decompose", desc := "(I)I", sig := { parameters := [.int], returnType := some .int }, accessFlags := 2, code := some k2c4 }
def k2c5 : Code := { maxStack := 3, maxLocals := 12, code := prog_40_method_9_code, exceptionTable := #[], attributes := #[] }
def k2m5 : Method := { name := "reach", desc := "(I[Z[I[I)I", sig := { parameters := [.int, (.array .boolean), (.array .int), (.array .int)], returnType := some .int }, accessFlags := 2, code := some k2c5 }
def k2c6 : Code := { maxStack := 3, maxLocals := 12, code := prog_40_method_10_code, exceptionTable := #[], attributes := #[] }
def k2m6 : Method := { name := "heaviest", desc := "(II[Z[I[I)I", sig := { parameters := [.int, .int, (.array .boolean), (.array .int), (.array .int)], returnType := some .int }, accessFlags := 2, code := some k2c6 }
def k2c7 : Code := { maxStack := 5, maxLocals := 5, code := prog_40_method_11_code, exceptionTable := #[], attributes := #[] }
def k2m7 : Method := { name := "neighbours", desc := "([I[[I)[[I", sig := { parameters := [(.array .int), (.array (.array .int))], returnType := some (.array (.array .int)) }, accessFlags := 10, code := some k2c7 }
/-- com/example/mild_horn/mildhorn/translation/Centroids -/
def k2 : Class := { plain "com/example/mild_horn/mildhorn/translation/Centroids" (some 0) with
  accessFlags := 48
  interfaces := #[]
  cf := some (fileOf pool2 8 #[] #[{ accessFlags := 0, nameIndex := 5, descriptorIndex := 95, attributes := #[] }, { accessFlags := 0, nameIndex := 100, descriptorIndex := 80, attributes := #[] }, { accessFlags := 10, nameIndex := 15, descriptorIndex := 16, attributes := #[] }, { accessFlags := 2, nameIndex := 37, descriptorIndex := 38, attributes := #[] }, { accessFlags := 2, nameIndex := 41, descriptorIndex := 42, attributes := #[] }, { accessFlags := 2, nameIndex := 83, descriptorIndex := 84, attributes := #[] }, { accessFlags := 2, nameIndex := 87, descriptorIndex := 88, attributes := #[] }, { accessFlags := 10, nameIndex := 22, descriptorIndex := 23, attributes := #[] }] 48 2 #[] #[{ accessFlags := 18, nameIndex := 11, descriptorIndex := 12, attributes := #[] }, { accessFlags := 18, nameIndex := 15, descriptorIndex := 19, attributes := #[] }, { accessFlags := 18, nameIndex := 22, descriptorIndex := 19, attributes := #[] }, { accessFlags := 18, nameIndex := 28, descriptorIndex := 12, attributes := #[] }, { accessFlags := 18, nameIndex := 31, descriptorIndex := 12, attributes := #[] }, { accessFlags := 18, nameIndex := 34, descriptorIndex := 12, attributes := #[] }, { accessFlags := 18, nameIndex := 45, descriptorIndex := 46, attributes := #[] }])
  fields := #[{ name := "parents", type := (.array .int), accessFlags := 18, slot := 0, constantValue := 0 }, { name := "children", type := (.array (.array .int)), accessFlags := 18, slot := 1, constantValue := 0 }, { name := "neighbours", type := (.array (.array .int)), accessFlags := 18, slot := 2, constantValue := 0 }, { name := "first", type := (.array .int), accessFlags := 18, slot := 3, constantValue := 0 }, { name := "last", type := (.array .int), accessFlags := 18, slot := 4, constantValue := 0 }, { name := "after", type := (.array .int), accessFlags := 18, slot := 5, constantValue := 0 }, { name := "top", type := .int, accessFlags := 18, slot := 6, constantValue := 0 }]
  methods := #[k2m0, k2m1, k2m2, k2m3, k2m4, k2m5, k2m6, k2m7]
  instanceTypes := #[(.array .int), (.array (.array .int)), (.array (.array .int)), (.array .int), (.array .int), (.array .int), .int]
  staticTypes := #[]
  resolved := Array.replicate 107 none
  statics := none }

def pool3 : Array CpInfo := pool [(2, .class_ 4), (1, u "java/lang/Object"), (0, u "<init>"), (0, u "()V"), (7, .class_ 16), (1, u "java/util/Arrays"), (57, .class_ 76), (1, u "java/util/Arrays$NaturalOrder"), (36, .class_ 115), (1, u "java/util/Arrays$LegacyMergeSort"), (1, u "Z"), (32, .methodref 151 152), (0, .class_ 153), (0, .nameAndType 154 155), (0, u "java/lang/System"), (0, u "arraycopy"), (0, u "(Ljava/lang/Object;ILjava/lang/Object;II)V"), (146, u "copyOf"), (1, .methodref 305 306), (0, .class_ 307), (0, .nameAndType 308 309), (0, u "java/lang/Math"), (0, u "min"), (0, u "(II)I"), (65, .class_ 376), (0, u "java/util/Arrays$ArrayList"), (68, u "$assertionsDisabled"), (269, u "MIN_ARRAY_SORT_GRAN"), (0, u "I"), (2, u "INSERTIONSORT_THRESHOLD"), (151, u "([II)[I"), (103, .class_ 976), (0, u "java/util/Arrays$ArrayItr")] 52

def k3m0 : Method := { name := "<init>", desc := "()V", sig := { parameters := [], returnType := none }, accessFlags := 2, code := none }
def k3c1 : Code := { maxStack := 6, maxLocals := 3, code := jdk_65_method_123_code, exceptionTable := #[], attributes := #[] }
def k3m1 : Method := { name := "copyOf", desc := "([II)[I", sig := { parameters := [(.array .int), .int], returnType := some (.array .int) }, accessFlags := 9, code := some k3c1 }
/-- java/util/Arrays -/
def k3 : Class := { plain "java/util/Arrays" (some 0) with
  accessFlags := 49
  interfaces := #[]
  cf := some (fileOf pool3 14 #[.nestMembers #[975, 375, 113, 74]] #[{ accessFlags := 2, nameIndex := 5, descriptorIndex := 6, attributes := #[] }, { accessFlags := 9, nameIndex := 302, descriptorIndex := 871, attributes := #[] }] 49 2 #[] #[{ accessFlags := 26, nameIndex := 715, descriptorIndex := 716, attributes := #[] }, { accessFlags := 26, nameIndex := 719, descriptorIndex := 716, attributes := #[] }, { accessFlags := 4120, nameIndex := 445, descriptorIndex := 117, attributes := #[] }])
  fields := #[{ name := "MIN_ARRAY_SORT_GRAN", type := .int, accessFlags := 26, slot := 0, constantValue := 0 }, { name := "INSERTIONSORT_THRESHOLD", type := .int, accessFlags := 26, slot := 1, constantValue := 0 }, { name := "$assertionsDisabled", type := .boolean, accessFlags := 4120, slot := 2, constantValue := 0 }]
  methods := #[k3m0, k3m1]
  instanceTypes := #[]
  staticTypes := #[.int, .int, .boolean]
  resolved := Array.replicate 1029 none
  statics := none }

def pool4 : Array CpInfo := pool [(1, .class_ 2), (0, u "java/lang/Math"), (1, .class_ 6), (1, u "java/lang/Object"), (0, u "<init>"), (0, u "()V"), (89, .class_ 100), (1, u "java/lang/Math$RandomNumberGeneratorHolder"), (71, u "negativeZeroFloatBits"), (0, u "J"), (2, u "negativeZeroDoubleBits"), (21, u "max"), (2, u "min"), (43, u "$assertionsDisabled"), (0, u "Z"), (88, u "(II)I"), (2, u "twoToTheDoubleScaleDown"), (0, u "D"), (4, u "twoToTheDoubleScaleUp"), (9, u "E"), (3, u "PI"), (2, u "TAU"), (2, u "DEGREES_TO_RADIANS"), (0, u "RADIANS_TO_DEGREES")] 94

def k4m0 : Method := { name := "<init>", desc := "()V", sig := { parameters := [], returnType := none }, accessFlags := 2, code := none }
def k4c1 : Code := { maxStack := 2, maxLocals := 2, code := jdk_29_method_65_code, exceptionTable := #[], attributes := #[] }
def k4m1 : Method := { name := "max", desc := "(II)I", sig := { parameters := [.int, .int], returnType := some .int }, accessFlags := 9, code := some k4c1 }
def k4c2 : Code := { maxStack := 2, maxLocals := 2, code := jdk_29_method_69_code, exceptionTable := #[], attributes := #[] }
def k4m2 : Method := { name := "min", desc := "(II)I", sig := { parameters := [.int, .int], returnType := some .int }, accessFlags := 9, code := some k4c2 }
/-- java/lang/Math -/
def k4 : Class := { plain "java/lang/Math" (some 0) with
  accessFlags := 49
  interfaces := #[]
  cf := some (fileOf pool4 1 #[.nestMembers #[98]] #[{ accessFlags := 2, nameIndex := 7, descriptorIndex := 8, attributes := #[] }, { accessFlags := 9, nameIndex := 198, descriptorIndex := 335, attributes := #[] }, { accessFlags := 9, nameIndex := 201, descriptorIndex := 335, attributes := #[] }] 49 4 #[] #[{ accessFlags := 25, nameIndex := 354, descriptorIndex := 339, attributes := #[] }, { accessFlags := 25, nameIndex := 358, descriptorIndex := 339, attributes := #[] }, { accessFlags := 25, nameIndex := 361, descriptorIndex := 339, attributes := #[] }, { accessFlags := 26, nameIndex := 364, descriptorIndex := 339, attributes := #[] }, { accessFlags := 26, nameIndex := 365, descriptorIndex := 339, attributes := #[] }, { accessFlags := 26, nameIndex := 172, descriptorIndex := 173, attributes := #[] }, { accessFlags := 26, nameIndex := 176, descriptorIndex := 173, attributes := #[] }, { accessFlags := 8, nameIndex := 344, descriptorIndex := 339, attributes := #[] }, { accessFlags := 8, nameIndex := 338, descriptorIndex := 339, attributes := #[] }, { accessFlags := 4120, nameIndex := 245, descriptorIndex := 246, attributes := #[] }])
  fields := #[{ name := "E", type := .double, accessFlags := 25, slot := 0, constantValue := 0 }, { name := "PI", type := .double, accessFlags := 25, slot := 1, constantValue := 0 }, { name := "TAU", type := .double, accessFlags := 25, slot := 2, constantValue := 0 }, { name := "DEGREES_TO_RADIANS", type := .double, accessFlags := 26, slot := 3, constantValue := 0 }, { name := "RADIANS_TO_DEGREES", type := .double, accessFlags := 26, slot := 4, constantValue := 0 }, { name := "negativeZeroFloatBits", type := .long, accessFlags := 26, slot := 5, constantValue := 0 }, { name := "negativeZeroDoubleBits", type := .long, accessFlags := 26, slot := 6, constantValue := 0 }, { name := "twoToTheDoubleScaleUp", type := .double, accessFlags := 8, slot := 7, constantValue := 0 }, { name := "twoToTheDoubleScaleDown", type := .double, accessFlags := 8, slot := 8, constantValue := 0 }, { name := "$assertionsDisabled", type := .boolean, accessFlags := 4120, slot := 9, constantValue := 0 }]
  methods := #[k4m0, k4m1, k4m2]
  instanceTypes := #[]
  staticTypes := #[.double, .double, .double, .double, .double, .long, .long, .double, .double, .boolean]
  resolved := Array.replicate 460 none
  statics := none }

def pool5 : Array CpInfo := pool [(2, .class_ 4), (1, u "java/lang/Object"), (0, u "<init>"), (0, u "()V"), (1, .class_ 10), (1, u "java/lang/System"), (0, u "allowSecurityManager"), (0, u "I"), (16, u "cons"), (0, u "Ljava/io/Console;"), (77, .class_ 110), (1, u "java/lang/System$CallersHolder"), (43, u "initialErrStream"), (0, u "Ljava/io/PrintStream;"), (19, u "security"), (0, u "Ljava/lang/SecurityManager;"), (31, .class_ 209), (0, u "java/lang/System$1"), (7, u "props"), (0, u "Ljava/util/Properties;"), (2, u "lineSeparator"), (0, u "Ljava/lang/String;"), (96, .class_ 321), (1, u "java/lang/System$LoggerFinder"), (5, .class_ 328), (0, u "java/lang/System$Logger"), (67, u "err"), (2, u "out"), (91, u "notSupportedJnuEncoding"), (15, u "in"), (17, u "initialIn"), (0, u "Ljava/io/InputStream;"), (35, u "bootLayer"), (0, u "Ljava/lang/ModuleLayer;"), (99, .class_ 664), (0, u "java/lang/System$2"), (9, u "NEVER"), (2, u "MAYBE"), (49, u "arraycopy"), (0, u "(Ljava/lang/Object;ILjava/lang/Object;II)V"), (72, .class_ 802), (0, u "java/lang/System$Logger$Level")] 31

def k5m0 : Method := { name := "<init>", desc := "()V", sig := { parameters := [], returnType := none }, accessFlags := 2, code := none }
def k5m1 : Method := { name := "arraycopy", desc := "(Ljava/lang/Object;ILjava/lang/Object;II)V", sig := { parameters := [(.object "java/lang/Object"), .int, (.object "java/lang/Object"), .int, .int], returnType := none }, accessFlags := 265, code := none }
/-- java/lang/System -/
def k5 : Class := { plain "java/lang/System" (some 0) with
  accessFlags := 49
  interfaces := #[]
  cf := some (fileOf pool5 8 #[.nestMembers #[319, 327, 801, 108, 663, 208]] #[{ accessFlags := 2, nameIndex := 5, descriptorIndex := 6, attributes := #[] }, { accessFlags := 265, nameIndex := 727, descriptorIndex := 728, attributes := #[] }] 49 2 #[] #[{ accessFlags := 25, nameIndex := 507, descriptorIndex := 526, attributes := #[] }, { accessFlags := 25, nameIndex := 399, descriptorIndex := 155, attributes := #[] }, { accessFlags := 25, nameIndex := 396, descriptorIndex := 155, attributes := #[] }, { accessFlags := 10, nameIndex := 525, descriptorIndex := 526, attributes := #[] }, { accessFlags := 26, nameIndex := 674, descriptorIndex := 12, attributes := #[] }, { accessFlags := 26, nameIndex := 677, descriptorIndex := 12, attributes := #[] }, { accessFlags := 10, nameIndex := 11, descriptorIndex := 12, attributes := #[] }, { accessFlags := 74, nameIndex := 175, descriptorIndex := 176, attributes := #[] }, { accessFlags := 10, nameIndex := 491, descriptorIndex := 222, attributes := #[] }, { accessFlags := 74, nameIndex := 29, descriptorIndex := 30, attributes := #[] }, { accessFlags := 74, nameIndex := 154, descriptorIndex := 155, attributes := #[] }, { accessFlags := 10, nameIndex := 217, descriptorIndex := 218, attributes := #[] }, { accessFlags := 10, nameIndex := 221, descriptorIndex := 222, attributes := #[] }, { accessFlags := 8, nameIndex := 562, descriptorIndex := 563, attributes := #[] }])
  fields := #[{ name := "in", type := (.object "java/io/InputStream"), accessFlags := 25, slot := 0, constantValue := 0 }, { name := "out", type := (.object "java/io/PrintStream"), accessFlags := 25, slot := 1, constantValue := 0 }, { name := "err", type := (.object "java/io/PrintStream"), accessFlags := 25, slot := 2, constantValue := 0 }, { name := "initialIn", type := (.object "java/io/InputStream"), accessFlags := 10, slot := 3, constantValue := 0 }, { name := "NEVER", type := .int, accessFlags := 26, slot := 4, constantValue := 0 }, { name := "MAYBE", type := .int, accessFlags := 26, slot := 5, constantValue := 0 }, { name := "allowSecurityManager", type := .int, accessFlags := 10, slot := 6, constantValue := 0 }, { name := "security", type := (.object "java/lang/SecurityManager"), accessFlags := 74, slot := 7, constantValue := 0 }, { name := "notSupportedJnuEncoding", type := (.object "java/lang/String"), accessFlags := 10, slot := 8, constantValue := 0 }, { name := "cons", type := (.object "java/io/Console"), accessFlags := 74, slot := 9, constantValue := 0 }, { name := "initialErrStream", type := (.object "java/io/PrintStream"), accessFlags := 74, slot := 10, constantValue := 0 }, { name := "props", type := (.object "java/util/Properties"), accessFlags := 10, slot := 11, constantValue := 0 }, { name := "lineSeparator", type := (.object "java/lang/String"), accessFlags := 10, slot := 12, constantValue := 0 }, { name := "bootLayer", type := (.object "java/lang/ModuleLayer"), accessFlags := 8, slot := 13, constantValue := 0 }]
  methods := #[k5m0, k5m1]
  instanceTypes := #[]
  staticTypes := #[(.object "java/io/InputStream"), (.object "java/io/PrintStream"), (.object "java/io/PrintStream"), (.object "java/io/InputStream"), .int, .int, .int, (.object "java/lang/SecurityManager"), (.object "java/lang/String"), (.object "java/io/Console"), (.object "java/io/PrintStream"), (.object "java/util/Properties"), (.object "java/lang/String"), (.object "java/lang/ModuleLayer")]
  resolved := Array.replicate 834 none
  statics := none }

def pool6 : Array CpInfo := pool [(8, .class_ 10), (1, u "java/lang/Iterable"), (24, .class_ 36), (0, u "java/lang/Object")] 25

/-- java/lang/Iterable -/
def k6 : Class := { plain "java/lang/Iterable" (some 0) with
  accessFlags := 1537
  interfaces := #[]
  cf := some (fileOf pool6 8 #[] #[] 1537 35 #[] #[])
  fields := #[]
  methods := #[]
  instanceTypes := #[]
  staticTypes := #[]
  resolved := Array.replicate 62 none
  statics := none }

def pool7 : Array CpInfo := pool [(10, .class_ 12), (1, u "java/util/Collection"), (17, u "()Z"), (29, .class_ 61), (0, u "java/lang/Object"), (0, .class_ 63), (0, u "java/lang/Iterable"), (2, u "isEmpty")] 48

def k7m0 : Method := { name := "isEmpty", desc := "()Z", sig := { parameters := [], returnType := some .boolean }, accessFlags := 1025, code := none }
/-- java/util/Collection -/
def k7 : Class := { plain "java/util/Collection" (some 0) with
  accessFlags := 1537
  interfaces := #[6]
  cf := some (fileOf pool7 10 #[] #[{ accessFlags := 1025, nameIndex := 66, descriptorIndex := 30, attributes := #[] }] 1537 60 #[62] #[])
  fields := #[]
  methods := #[k7m0]
  instanceTypes := #[]
  staticTypes := #[]
  resolved := Array.replicate 115 none
  statics := none }

def pool8 : Array CpInfo := pool [(1, .methodref 2 3), (0, .class_ 4), (0, .nameAndType 5 6), (0, u "java/lang/Object"), (0, u "<init>"), (0, u "()V"), (1, .class_ 10), (1, u "java/util/AbstractCollection"), (66, .class_ 78), (0, u "java/util/Collection")] 81

def k8c0 : Code := { maxStack := 1, maxLocals := 1, code := jdk_22_method_1_code, exceptionTable := #[], attributes := #[] }
def k8m0 : Method := { name := "<init>", desc := "()V", sig := { parameters := [], returnType := none }, accessFlags := 4, code := some k8c0 }
/-- java/util/AbstractCollection -/
def k8 : Class := { plain "java/util/AbstractCollection" (some 0) with
  accessFlags := 1057
  interfaces := #[7]
  cf := some (fileOf pool8 8 #[] #[{ accessFlags := 4, nameIndex := 5, descriptorIndex := 6, attributes := #[] }] 1057 2 #[77] #[])
  fields := #[]
  methods := #[k8m0]
  instanceTypes := #[]
  staticTypes := #[]
  resolved := Array.replicate 160 none
  statics := none }

def pool9 : Array CpInfo := pool [(1, .class_ 2), (0, u "java/util/Queue"), (0, .class_ 4), (0, u "java/lang/Object"), (0, .class_ 6), (0, u "java/util/Collection")] 14

/-- java/util/Queue -/
def k9 : Class := { plain "java/util/Queue" (some 0) with
  accessFlags := 1537
  interfaces := #[7]
  cf := some (fileOf pool9 1 #[] #[] 1537 3 #[5] #[])
  fields := #[]
  methods := #[]
  instanceTypes := #[]
  staticTypes := #[]
  resolved := Array.replicate 21 none
  statics := none }

def pool10 : Array CpInfo := pool [(8, .class_ 10), (1, u "java/util/SequencedCollection"), (15, .class_ 27), (0, u "java/lang/Object"), (0, .class_ 29), (0, u "java/util/Collection")] 27

/-- java/util/SequencedCollection -/
def k10 : Class := { plain "java/util/SequencedCollection" (some 0) with
  accessFlags := 1537
  interfaces := #[7]
  cf := some (fileOf pool10 8 #[] #[] 1537 26 #[28] #[])
  fields := #[]
  methods := #[]
  instanceTypes := #[]
  staticTypes := #[]
  resolved := Array.replicate 57 none
  statics := none }

def pool11 : Array CpInfo := pool [(8, .class_ 10), (1, u "java/util/Deque"), (2, .class_ 14), (0, u "java/lang/Object"), (0, .class_ 16), (0, u "java/util/Queue"), (0, .class_ 18), (0, u "java/util/SequencedCollection"), (1, u "(Ljava/lang/Object;)V"), (8, u "()Ljava/lang/Object;"), (19, u "push"), (0, u "pop")] 19

def k11m0 : Method := { name := "push", desc := "(Ljava/lang/Object;)V", sig := { parameters := [(.object "java/lang/Object")], returnType := none }, accessFlags := 1025, code := none }
def k11m1 : Method := { name := "pop", desc := "()Ljava/lang/Object;", sig := { parameters := [], returnType := some (.object "java/lang/Object") }, accessFlags := 1025, code := none }
/-- java/util/Deque -/
def k11 : Class := { plain "java/util/Deque" (some 0) with
  accessFlags := 1537
  interfaces := #[9, 10]
  cf := some (fileOf pool11 8 #[] #[{ accessFlags := 1025, nameIndex := 49, descriptorIndex := 20, attributes := #[] }, { accessFlags := 1025, nameIndex := 50, descriptorIndex := 29, attributes := #[] }] 1537 13 #[15, 17] #[])
  fields := #[]
  methods := #[k11m0, k11m1]
  instanceTypes := #[]
  staticTypes := #[]
  resolved := Array.replicate 70 none
  statics := none }

def pool12 : Array CpInfo := pool [(1, .class_ 2), (0, u "java/lang/Cloneable"), (0, .class_ 4), (0, u "java/lang/Object")] 2

/-- java/lang/Cloneable -/
def k12 : Class := { plain "java/lang/Cloneable" (some 0) with
  accessFlags := 1537
  interfaces := #[]
  cf := some (fileOf pool12 1 #[] #[] 1537 3 #[] #[])
  fields := #[]
  methods := #[]
  instanceTypes := #[]
  staticTypes := #[]
  resolved := Array.replicate 7 none
  statics := none }

def pool13 : Array CpInfo := pool [(1, .class_ 2), (0, u "java/io/Serializable"), (0, .class_ 4), (0, u "java/lang/Object")] 2

/-- java/io/Serializable -/
def k13 : Class := { plain "java/io/Serializable" (some 0) with
  accessFlags := 1537
  interfaces := #[]
  cf := some (fileOf pool13 1 #[] #[] 1537 3 #[] #[])
  fields := #[]
  methods := #[]
  instanceTypes := #[]
  staticTypes := #[]
  resolved := Array.replicate 7 none
  statics := none }

def pool14 : Array CpInfo := pool [(3, .fieldref 4 5), (0, .class_ 6), (0, .nameAndType 7 8), (0, u "java/util/ArrayDeque"), (0, u "elements"), (0, u "[Ljava/lang/Object;"), (4, u "(II)I"), (6, .fieldref 4 21), (0, .nameAndType 22 23), (0, u "tail"), (0, u "I"), (0, .fieldref 4 25), (0, .nameAndType 26 23), (0, u "head"), (12, u "<init>"), (2, .methodref 43 44), (0, .class_ 45), (0, .nameAndType 39 46), (0, u "java/util/AbstractCollection"), (0, u "()V"), (0, .class_ 48), (0, u "java/lang/Object"), (19, .methodref 4 69), (0, .nameAndType 70 13), (0, u "dec"), (3, .methodref 4 75), (0, .nameAndType 76 13), (0, u "inc"), (9, .methodref 4 87), (0, .nameAndType 88 89), (0, u "addFirst"), (0, u "(Ljava/lang/Object;)V"), (3, .methodref 4 94), (0, .nameAndType 95 96), (0, u "pollFirst"), (0, u "()Ljava/lang/Object;"), (6, .methodref 4 104), (0, .nameAndType 105 106), (0, u "elementAt"), (0, u "([Ljava/lang/Object;I)Ljava/lang/Object;"), (11, .methodref 4 119), (0, .nameAndType 120 96), (0, u "removeFirst"), (10, .class_ 132), (0, u "java/util/ArrayDeque$DeqIterator"), (3, .class_ 137), (0, u "java/util/ArrayDeque$DescendingIterator"), (1, .class_ 140), (0, u "java/util/ArrayDeque$DeqSpliterator"), (137, .class_ 279), (0, u "java/util/Deque"), (0, .class_ 281), (0, u "java/lang/Cloneable"), (0, .class_ 283), (0, u "java/io/Serializable"), (0, u "MAX_ARRAY_SIZE"), (1, u "serialVersionUID"), (0, u "J"), (54, u "push"), (0, u "pop"), (3, u "isEmpty"), (0, u "()Z")] 89

def k14c0 : Code := { maxStack := 2, maxLocals := 1, code := jdk_21_method_3_code, exceptionTable := #[], attributes := #[] }
def k14m0 : Method := { name := "<init>", desc := "()V", sig := { parameters := [], returnType := none }, accessFlags := 1, code := some k14c0 }
def k14c1 : Code := { maxStack := 2, maxLocals := 2, code := jdk_21_method_6_code, exceptionTable := #[], attributes := #[] }
def k14m1 : Method := { name := "inc", desc := "(II)I", sig := { parameters := [.int, .int], returnType := some .int }, accessFlags := 24, code := some k14c1 }
def k14c2 : Code := { maxStack := 2, maxLocals := 2, code := jdk_21_method_7_code, exceptionTable := #[], attributes := #[] }
def k14m2 : Method := { name := "dec", desc := "(II)I", sig := { parameters := [.int, .int], returnType := some .int }, accessFlags := 24, code := some k14c2 }
def k14c3 : Code := { maxStack := 2, maxLocals := 2, code := jdk_21_method_10_code, exceptionTable := #[], attributes := #[] }
def k14m3 : Method := { name := "elementAt", desc := "([Ljava/lang/Object;I)Ljava/lang/Object;", sig := { parameters := [(.array (.object "java/lang/Object")), .int], returnType := some (.object "java/lang/Object") }, accessFlags := 24, code := some k14c3 }
def k14c4 : Code := { maxStack := 4, maxLocals := 3, code := jdk_21_method_12_code, exceptionTable := #[], attributes := #[] }
def k14m4 : Method := { name := "addFirst", desc := "(Ljava/lang/Object;)V", sig := { parameters := [(.object "java/lang/Object")], returnType := none }, accessFlags := 1, code := some k14c4 }
def k14c5 : Code := { maxStack := 2, maxLocals := 2, code := jdk_21_method_18_code, exceptionTable := #[], attributes := #[] }
def k14m5 : Method := { name := "removeFirst", desc := "()Ljava/lang/Object;", sig := { parameters := [], returnType := some (.object "java/lang/Object") }, accessFlags := 1, code := some k14c5 }
def k14c6 : Code := { maxStack := 3, maxLocals := 4, code := jdk_21_method_20_code, exceptionTable := #[], attributes := #[] }
def k14m6 : Method := { name := "pollFirst", desc := "()Ljava/lang/Object;", sig := { parameters := [], returnType := some (.object "java/lang/Object") }, accessFlags := 1, code := some k14c6 }
def k14c7 : Code := { maxStack := 2, maxLocals := 2, code := jdk_21_method_34_code, exceptionTable := #[], attributes := #[] }
def k14m7 : Method := { name := "push", desc := "(Ljava/lang/Object;)V", sig := { parameters := [(.object "java/lang/Object")], returnType := none }, accessFlags := 1, code := some k14c7 }
def k14c8 : Code := { maxStack := 1, maxLocals := 1, code := jdk_21_method_35_code, exceptionTable := #[], attributes := #[] }
def k14m8 : Method := { name := "pop", desc := "()Ljava/lang/Object;", sig := { parameters := [], returnType := some (.object "java/lang/Object") }, accessFlags := 1, code := some k14c8 }
def k14c9 : Code := { maxStack := 2, maxLocals := 1, code := jdk_21_method_38_code, exceptionTable := #[], attributes := #[] }
def k14m9 : Method := { name := "isEmpty", desc := "()Z", sig := { parameters := [], returnType := some .boolean }, accessFlags := 1, code := some k14c9 }
/-- java/util/ArrayDeque -/
def k14 : Class := { plain "java/util/ArrayDeque" (some 8) with
  accessFlags := 33
  interfaces := #[11, 12, 13]
  cf := some (fileOf pool14 4 #[.nestMembers #[139, 136, 131]] #[{ accessFlags := 1, nameIndex := 39, descriptorIndex := 46, attributes := #[] }, { accessFlags := 24, nameIndex := 76, descriptorIndex := 13, attributes := #[] }, { accessFlags := 24, nameIndex := 70, descriptorIndex := 13, attributes := #[] }, { accessFlags := 24, nameIndex := 105, descriptorIndex := 106, attributes := #[] }, { accessFlags := 1, nameIndex := 88, descriptorIndex := 89, attributes := #[] }, { accessFlags := 1, nameIndex := 120, descriptorIndex := 96, attributes := #[] }, { accessFlags := 1, nameIndex := 95, descriptorIndex := 96, attributes := #[] }, { accessFlags := 1, nameIndex := 342, descriptorIndex := 89, attributes := #[] }, { accessFlags := 1, nameIndex := 343, descriptorIndex := 96, attributes := #[] }, { accessFlags := 1, nameIndex := 347, descriptorIndex := 348, attributes := #[] }] 33 43 #[278, 280, 282] #[{ accessFlags := 128, nameIndex := 7, descriptorIndex := 8, attributes := #[] }, { accessFlags := 128, nameIndex := 26, descriptorIndex := 23, attributes := #[] }, { accessFlags := 128, nameIndex := 22, descriptorIndex := 23, attributes := #[] }, { accessFlags := 26, nameIndex := 284, descriptorIndex := 23, attributes := #[] }, { accessFlags := 26, nameIndex := 286, descriptorIndex := 287, attributes := #[] }])
  fields := #[{ name := "elements", type := (.array (.object "java/lang/Object")), accessFlags := 128, slot := 0, constantValue := 0 }, { name := "head", type := .int, accessFlags := 128, slot := 1, constantValue := 0 }, { name := "tail", type := .int, accessFlags := 128, slot := 2, constantValue := 0 }, { name := "MAX_ARRAY_SIZE", type := .int, accessFlags := 26, slot := 0, constantValue := 0 }, { name := "serialVersionUID", type := .long, accessFlags := 26, slot := 1, constantValue := 0 }]
  methods := #[k14m0, k14m1, k14m2, k14m3, k14m4, k14m5, k14m6, k14m7, k14m8, k14m9]
  instanceTypes := #[(.array (.object "java/lang/Object")), .int, .int]
  staticTypes := #[.int, .long]
  resolved := Array.replicate 438 none
  statics := none }

def pool15 : Array CpInfo := pool [(2, .class_ 4), (1, u "java/lang/Object"), (0, u "<init>"), (0, u "()V"), (1, .class_ 10), (1, u "java/lang/Number"), (2, .class_ 14), (0, u "java/io/Serializable"), (0, u "serialVersionUID"), (0, u "J")] 20

def k15m0 : Method := { name := "<init>", desc := "()V", sig := { parameters := [], returnType := none }, accessFlags := 1, code := none }
/-- java/lang/Number -/
def k15 : Class := { plain "java/lang/Number" (some 0) with
  accessFlags := 1057
  interfaces := #[13]
  cf := some (fileOf pool15 8 #[] #[{ accessFlags := 1, nameIndex := 5, descriptorIndex := 6, attributes := #[] }] 1057 2 #[13] #[{ accessFlags := 26, nameIndex := 15, descriptorIndex := 16, attributes := #[] }])
  fields := #[{ name := "serialVersionUID", type := .long, accessFlags := 26, slot := 0, constantValue := 0 }]
  methods := #[k15m0]
  instanceTypes := #[]
  staticTypes := #[.long]
  resolved := Array.replicate 37 none
  statics := none }

def pool16 : Array CpInfo := pool [(1, .class_ 2), (0, u "java/lang/Comparable"), (0, .class_ 4), (0, u "java/lang/Object")] 7

/-- java/lang/Comparable -/
def k16 : Class := { plain "java/lang/Comparable" (some 0) with
  accessFlags := 1537
  interfaces := #[]
  cf := some (fileOf pool16 1 #[] #[] 1537 3 #[] #[])
  fields := #[]
  methods := #[]
  instanceTypes := #[]
  staticTypes := #[]
  resolved := Array.replicate 12 none
  statics := none }

def pool17 : Array CpInfo := pool [(1, .class_ 2), (0, u "java/lang/constant/Constable"), (0, .class_ 4), (0, u "java/lang/Object")] 6

/-- java/lang/constant/Constable -/
def k17 : Class := { plain "java/lang/constant/Constable" (some 0) with
  accessFlags := 1537
  interfaces := #[]
  cf := some (fileOf pool17 1 #[] #[] 1537 3 #[] #[])
  fields := #[]
  methods := #[]
  instanceTypes := #[]
  staticTypes := #[]
  resolved := Array.replicate 11 none
  statics := none }

def pool18 : Array CpInfo := pool [(1, .class_ 2), (0, u "java/lang/constant/ConstantDesc"), (0, .class_ 4), (0, u "java/lang/Object")] 32

/-- java/lang/constant/ConstantDesc -/
def k18 : Class := { plain "java/lang/constant/ConstantDesc" (some 0) with
  accessFlags := 1537
  interfaces := #[]
  cf := some (fileOf pool18 1 #[] #[] 1537 3 #[] #[])
  fields := #[]
  methods := #[]
  instanceTypes := #[]
  staticTypes := #[]
  resolved := Array.replicate 37 none
  statics := none }

def pool19 : Array CpInfo := pool [(1, .class_ 2), (0, u "java/lang/Integer"), (16, u "digits"), (0, u "[C"), (64, u "DigitOnes"), (0, u "[B"), (2, u "DigitTens"), (31, u "()I"), (65, u "valueOf"), (0, u "(I)Ljava/lang/Integer;"), (0, .class_ 190), (0, u "java/lang/Integer$IntegerCache"), (0, .fieldref 189 192), (0, .nameAndType 193 194), (0, u "high"), (0, u "I"), (0, .fieldref 189 196), (0, .nameAndType 197 198), (0, u "cache"), (0, u "[Ljava/lang/Integer;"), (4, .class_ 204), (0, u "java/lang/Number"), (0, .fieldref 1 206), (0, .nameAndType 207 194), (0, u "value"), (5, u "intValue"), (88, u "TYPE"), (0, u "Ljava/lang/Class;"), (0, .class_ 305), (0, u "java/lang/Comparable"), (0, .class_ 307), (0, u "java/lang/constant/Constable"), (0, .class_ 309), (0, u "java/lang/constant/ConstantDesc"), (0, u "MIN_VALUE"), (1, u "MAX_VALUE"), (3, u "SIZE"), (1, u "BYTES"), (1, u "serialVersionUID"), (0, u "J")] 131

def k19c0 : Code := { maxStack := 3, maxLocals := 1, code := jdk_33_method_22_code, exceptionTable := #[], attributes := #[] }
def k19m0 : Method := { name := "valueOf", desc := "(I)Ljava/lang/Integer;", sig := { parameters := [.int], returnType := some (.object "java/lang/Integer") }, accessFlags := 9, code := some k19c0 }
def k19c1 : Code := { maxStack := 1, maxLocals := 1, code := jdk_33_method_27_code, exceptionTable := #[], attributes := #[] }
def k19m1 : Method := { name := "intValue", desc := "()I", sig := { parameters := [], returnType := some .int }, accessFlags := 1, code := some k19c1 }
/-- java/lang/Integer -/
def k19 : Class := { plain "java/lang/Integer" (some 15) with
  accessFlags := 49
  interfaces := #[16, 17, 18]
  cf := some (fileOf pool19 1 #[.nestMembers #[189]] #[{ accessFlags := 9, nameIndex := 187, descriptorIndex := 188, attributes := #[] }, { accessFlags := 1, nameIndex := 213, descriptorIndex := 121, attributes := #[] }] 49 203 #[304, 306, 308] #[{ accessFlags := 25, nameIndex := 310, descriptorIndex := 194, attributes := #[] }, { accessFlags := 25, nameIndex := 312, descriptorIndex := 194, attributes := #[] }, { accessFlags := 25, nameIndex := 302, descriptorIndex := 303, attributes := #[] }, { accessFlags := 24, nameIndex := 19, descriptorIndex := 20, attributes := #[] }, { accessFlags := 24, nameIndex := 89, descriptorIndex := 86, attributes := #[] }, { accessFlags := 24, nameIndex := 85, descriptorIndex := 86, attributes := #[] }, { accessFlags := 18, nameIndex := 207, descriptorIndex := 194, attributes := #[] }, { accessFlags := 25, nameIndex := 316, descriptorIndex := 194, attributes := #[] }, { accessFlags := 25, nameIndex := 318, descriptorIndex := 194, attributes := #[] }, { accessFlags := 26, nameIndex := 320, descriptorIndex := 321, attributes := #[] }])
  fields := #[{ name := "MIN_VALUE", type := .int, accessFlags := 25, slot := 0, constantValue := 0 }, { name := "MAX_VALUE", type := .int, accessFlags := 25, slot := 1, constantValue := 0 }, { name := "TYPE", type := (.object "java/lang/Class"), accessFlags := 25, slot := 2, constantValue := 0 }, { name := "digits", type := (.array .char), accessFlags := 24, slot := 3, constantValue := 0 }, { name := "DigitTens", type := (.array .byte), accessFlags := 24, slot := 4, constantValue := 0 }, { name := "DigitOnes", type := (.array .byte), accessFlags := 24, slot := 5, constantValue := 0 }, { name := "value", type := .int, accessFlags := 18, slot := 0, constantValue := 0 }, { name := "SIZE", type := .int, accessFlags := 25, slot := 6, constantValue := 0 }, { name := "BYTES", type := .int, accessFlags := 25, slot := 7, constantValue := 0 }, { name := "serialVersionUID", type := .long, accessFlags := 26, slot := 8, constantValue := 0 }]
  methods := #[k19m0, k19m1]
  instanceTypes := #[.int]
  staticTypes := #[.int, .int, (.object "java/lang/Class"), (.array .char), (.array .byte), (.array .byte), .int, .int, .long]
  resolved := Array.replicate 453 none
  statics := none }

def pool20 : Array CpInfo := pool [(2, .class_ 4), (1, u "java/lang/Object"), (0, u "<init>"), (0, u "()V"), (0, .class_ 8), (0, u "java/lang/Integer"), (7, .class_ 18), (1, u "java/lang/Integer$IntegerCache"), (0, u "$assertionsDisabled"), (0, u "Z"), (26, u "high"), (0, u "I"), (8, u "archivedCache"), (0, u "[Ljava/lang/Integer;"), (12, u "cache"), (0, u "low")] 27

def k20m0 : Method := { name := "<init>", desc := "()V", sig := { parameters := [], returnType := none }, accessFlags := 2, code := none }
/-- java/lang/Integer$IntegerCache -/
def k20 : Class := { plain "java/lang/Integer$IntegerCache" (some 0) with
  accessFlags := 48
  interfaces := #[]
  cf := some (fileOf pool20 16 #[.nestHost 7] #[{ accessFlags := 2, nameIndex := 5, descriptorIndex := 6, attributes := #[] }] 48 2 #[] #[{ accessFlags := 24, nameIndex := 72, descriptorIndex := 48, attributes := #[] }, { accessFlags := 24, nameIndex := 47, descriptorIndex := 48, attributes := #[] }, { accessFlags := 24, nameIndex := 71, descriptorIndex := 58, attributes := #[] }, { accessFlags := 8, nameIndex := 57, descriptorIndex := 58, attributes := #[] }, { accessFlags := 4120, nameIndex := 19, descriptorIndex := 20, attributes := #[] }])
  fields := #[{ name := "low", type := .int, accessFlags := 24, slot := 0, constantValue := 0 }, { name := "high", type := .int, accessFlags := 24, slot := 1, constantValue := 0 }, { name := "cache", type := (.array (.object "java/lang/Integer")), accessFlags := 24, slot := 2, constantValue := 0 }, { name := "archivedCache", type := (.array (.object "java/lang/Integer")), accessFlags := 8, slot := 3, constantValue := 0 }, { name := "$assertionsDisabled", type := .boolean, accessFlags := 4120, slot := 4, constantValue := 0 }]
  methods := #[k20m0]
  instanceTypes := #[]
  staticTypes := #[.int, .int, (.array (.object "java/lang/Integer")), (.array (.object "java/lang/Integer")), .boolean]
  resolved := Array.replicate 100 none
  statics := some 0 }

/-- the primitive boolean -/
def k21 : Class := { plain "boolean" none with kind := .primitive 'Z', accessFlags := 0x411 }
/-- [Z -/
def k22 : Class := { plain "[Z" (some 0) with kind := .array 21 .boolean, interfaces := #[12, 13], accessFlags := 1041 }

/-- the primitive byte -/
def k23 : Class := { plain "byte" none with kind := .primitive 'B', accessFlags := 0x411 }
/-- [B -/
def k24 : Class := { plain "[B" (some 0) with kind := .array 23 .byte, interfaces := #[12, 13], accessFlags := 1041 }

/-- the primitive int -/
def k25 : Class := { plain "int" none with kind := .primitive 'I', accessFlags := 0x411 }
/-- [I -/
def k26 : Class := { plain "[I" (some 0) with kind := .array 25 .int, interfaces := #[12, 13], accessFlags := 1041 }

/-- [Ljava/lang/Integer; -/
def k27 : Class := { plain "[Ljava/lang/Integer;" (some 0) with kind := .array 19 (.object "java/lang/Integer"), interfaces := #[12, 13], accessFlags := 1041 }

/-- [Ljava/lang/Object; -/
def k28 : Class := { plain "[Ljava/lang/Object;" (some 0) with kind := .array 0 (.object "java/lang/Object"), interfaces := #[12, 13], accessFlags := 1041 }

def heap : Heap := #[{ cls := 20, slots := #[.int 0, .int 127, .ref 1, .null, .int 0], vm := .statics 20 },
  { cls := 27, slots := #[.ref 2, .ref 3, .ref 4, .ref 5, .ref 6, .ref 7, .ref 8, .ref 9, .ref 10, .ref 11, .ref 12, .ref 13, .ref 14, .ref 15, .ref 16, .ref 17, .ref 18, .ref 19, .ref 20, .ref 21, .ref 22, .ref 23, .ref 24, .ref 25, .ref 26, .ref 27, .ref 28, .ref 29, .ref 30, .ref 31, .ref 32, .ref 33, .ref 34, .ref 35, .ref 36, .ref 37, .ref 38, .ref 39, .ref 40, .ref 41, .ref 42, .ref 43, .ref 44, .ref 45, .ref 46, .ref 47, .ref 48, .ref 49, .ref 50, .ref 51, .ref 52, .ref 53, .ref 54, .ref 55, .ref 56, .ref 57, .ref 58, .ref 59, .ref 60, .ref 61, .ref 62, .ref 63, .ref 64, .ref 65, .ref 66, .ref 67, .ref 68, .ref 69, .ref 70, .ref 71, .ref 72, .ref 73, .ref 74, .ref 75, .ref 76, .ref 77, .ref 78, .ref 79, .ref 80, .ref 81, .ref 82, .ref 83, .ref 84, .ref 85, .ref 86, .ref 87, .ref 88, .ref 89, .ref 90, .ref 91, .ref 92, .ref 93, .ref 94, .ref 95, .ref 96, .ref 97, .ref 98, .ref 99, .ref 100, .ref 101, .ref 102, .ref 103, .ref 104, .ref 105, .ref 106, .ref 107, .ref 108, .ref 109, .ref 110, .ref 111, .ref 112, .ref 113, .ref 114, .ref 115, .ref 116, .ref 117, .ref 118, .ref 119, .ref 120, .ref 121, .ref 122, .ref 123, .ref 124, .ref 125, .ref 126, .ref 127, .ref 128, .ref 129, .ref 130, .ref 131, .ref 132, .ref 133, .ref 134, .ref 135, .ref 136, .ref 137, .ref 138, .ref 139, .ref 140, .ref 141, .ref 142, .ref 143, .ref 144, .ref 145, .ref 146, .ref 147, .ref 148, .ref 149, .ref 150, .ref 151, .ref 152, .ref 153, .ref 154, .ref 155, .ref 156, .ref 157, .ref 158, .ref 159, .ref 160, .ref 161, .ref 162, .ref 163, .ref 164, .ref 165, .ref 166, .ref 167, .ref 168, .ref 169, .ref 170, .ref 171, .ref 172, .ref 173, .ref 174, .ref 175, .ref 176, .ref 177, .ref 178, .ref 179, .ref 180, .ref 181, .ref 182, .ref 183, .ref 184, .ref 185, .ref 186, .ref 187, .ref 188, .ref 189, .ref 190, .ref 191, .ref 192, .ref 193, .ref 194, .ref 195, .ref 196, .ref 197, .ref 198, .ref 199, .ref 200, .ref 201, .ref 202, .ref 203, .ref 204, .ref 205, .ref 206, .ref 207, .ref 208, .ref 209, .ref 210, .ref 211, .ref 212, .ref 213, .ref 214, .ref 215, .ref 216, .ref 217, .ref 218, .ref 219, .ref 220, .ref 221, .ref 222, .ref 223, .ref 224, .ref 225, .ref 226, .ref 227, .ref 228, .ref 229, .ref 230, .ref 231, .ref 232, .ref 233, .ref 234, .ref 235, .ref 236, .ref 237, .ref 238, .ref 239, .ref 240, .ref 241, .ref 242, .ref 243, .ref 244, .ref 245, .ref 246, .ref 247, .ref 248, .ref 249, .ref 250, .ref 251, .ref 252, .ref 253, .ref 254, .ref 255, .ref 256, .ref 257], vm := .none },
  { cls := 19, slots := #[.int (-128)], vm := .none },
  { cls := 19, slots := #[.int (-127)], vm := .none },
  { cls := 19, slots := #[.int (-126)], vm := .none },
  { cls := 19, slots := #[.int (-125)], vm := .none },
  { cls := 19, slots := #[.int (-124)], vm := .none },
  { cls := 19, slots := #[.int (-123)], vm := .none },
  { cls := 19, slots := #[.int (-122)], vm := .none },
  { cls := 19, slots := #[.int (-121)], vm := .none },
  { cls := 19, slots := #[.int (-120)], vm := .none },
  { cls := 19, slots := #[.int (-119)], vm := .none },
  { cls := 19, slots := #[.int (-118)], vm := .none },
  { cls := 19, slots := #[.int (-117)], vm := .none },
  { cls := 19, slots := #[.int (-116)], vm := .none },
  { cls := 19, slots := #[.int (-115)], vm := .none },
  { cls := 19, slots := #[.int (-114)], vm := .none },
  { cls := 19, slots := #[.int (-113)], vm := .none },
  { cls := 19, slots := #[.int (-112)], vm := .none },
  { cls := 19, slots := #[.int (-111)], vm := .none },
  { cls := 19, slots := #[.int (-110)], vm := .none },
  { cls := 19, slots := #[.int (-109)], vm := .none },
  { cls := 19, slots := #[.int (-108)], vm := .none },
  { cls := 19, slots := #[.int (-107)], vm := .none },
  { cls := 19, slots := #[.int (-106)], vm := .none },
  { cls := 19, slots := #[.int (-105)], vm := .none },
  { cls := 19, slots := #[.int (-104)], vm := .none },
  { cls := 19, slots := #[.int (-103)], vm := .none },
  { cls := 19, slots := #[.int (-102)], vm := .none },
  { cls := 19, slots := #[.int (-101)], vm := .none },
  { cls := 19, slots := #[.int (-100)], vm := .none },
  { cls := 19, slots := #[.int (-99)], vm := .none },
  { cls := 19, slots := #[.int (-98)], vm := .none },
  { cls := 19, slots := #[.int (-97)], vm := .none },
  { cls := 19, slots := #[.int (-96)], vm := .none },
  { cls := 19, slots := #[.int (-95)], vm := .none },
  { cls := 19, slots := #[.int (-94)], vm := .none },
  { cls := 19, slots := #[.int (-93)], vm := .none },
  { cls := 19, slots := #[.int (-92)], vm := .none },
  { cls := 19, slots := #[.int (-91)], vm := .none },
  { cls := 19, slots := #[.int (-90)], vm := .none },
  { cls := 19, slots := #[.int (-89)], vm := .none },
  { cls := 19, slots := #[.int (-88)], vm := .none },
  { cls := 19, slots := #[.int (-87)], vm := .none },
  { cls := 19, slots := #[.int (-86)], vm := .none },
  { cls := 19, slots := #[.int (-85)], vm := .none },
  { cls := 19, slots := #[.int (-84)], vm := .none },
  { cls := 19, slots := #[.int (-83)], vm := .none },
  { cls := 19, slots := #[.int (-82)], vm := .none },
  { cls := 19, slots := #[.int (-81)], vm := .none },
  { cls := 19, slots := #[.int (-80)], vm := .none },
  { cls := 19, slots := #[.int (-79)], vm := .none },
  { cls := 19, slots := #[.int (-78)], vm := .none },
  { cls := 19, slots := #[.int (-77)], vm := .none },
  { cls := 19, slots := #[.int (-76)], vm := .none },
  { cls := 19, slots := #[.int (-75)], vm := .none },
  { cls := 19, slots := #[.int (-74)], vm := .none },
  { cls := 19, slots := #[.int (-73)], vm := .none },
  { cls := 19, slots := #[.int (-72)], vm := .none },
  { cls := 19, slots := #[.int (-71)], vm := .none },
  { cls := 19, slots := #[.int (-70)], vm := .none },
  { cls := 19, slots := #[.int (-69)], vm := .none },
  { cls := 19, slots := #[.int (-68)], vm := .none },
  { cls := 19, slots := #[.int (-67)], vm := .none },
  { cls := 19, slots := #[.int (-66)], vm := .none },
  { cls := 19, slots := #[.int (-65)], vm := .none },
  { cls := 19, slots := #[.int (-64)], vm := .none },
  { cls := 19, slots := #[.int (-63)], vm := .none },
  { cls := 19, slots := #[.int (-62)], vm := .none },
  { cls := 19, slots := #[.int (-61)], vm := .none },
  { cls := 19, slots := #[.int (-60)], vm := .none },
  { cls := 19, slots := #[.int (-59)], vm := .none },
  { cls := 19, slots := #[.int (-58)], vm := .none },
  { cls := 19, slots := #[.int (-57)], vm := .none },
  { cls := 19, slots := #[.int (-56)], vm := .none },
  { cls := 19, slots := #[.int (-55)], vm := .none },
  { cls := 19, slots := #[.int (-54)], vm := .none },
  { cls := 19, slots := #[.int (-53)], vm := .none },
  { cls := 19, slots := #[.int (-52)], vm := .none },
  { cls := 19, slots := #[.int (-51)], vm := .none },
  { cls := 19, slots := #[.int (-50)], vm := .none },
  { cls := 19, slots := #[.int (-49)], vm := .none },
  { cls := 19, slots := #[.int (-48)], vm := .none },
  { cls := 19, slots := #[.int (-47)], vm := .none },
  { cls := 19, slots := #[.int (-46)], vm := .none },
  { cls := 19, slots := #[.int (-45)], vm := .none },
  { cls := 19, slots := #[.int (-44)], vm := .none },
  { cls := 19, slots := #[.int (-43)], vm := .none },
  { cls := 19, slots := #[.int (-42)], vm := .none },
  { cls := 19, slots := #[.int (-41)], vm := .none },
  { cls := 19, slots := #[.int (-40)], vm := .none },
  { cls := 19, slots := #[.int (-39)], vm := .none },
  { cls := 19, slots := #[.int (-38)], vm := .none },
  { cls := 19, slots := #[.int (-37)], vm := .none },
  { cls := 19, slots := #[.int (-36)], vm := .none },
  { cls := 19, slots := #[.int (-35)], vm := .none },
  { cls := 19, slots := #[.int (-34)], vm := .none },
  { cls := 19, slots := #[.int (-33)], vm := .none },
  { cls := 19, slots := #[.int (-32)], vm := .none },
  { cls := 19, slots := #[.int (-31)], vm := .none },
  { cls := 19, slots := #[.int (-30)], vm := .none },
  { cls := 19, slots := #[.int (-29)], vm := .none },
  { cls := 19, slots := #[.int (-28)], vm := .none },
  { cls := 19, slots := #[.int (-27)], vm := .none },
  { cls := 19, slots := #[.int (-26)], vm := .none },
  { cls := 19, slots := #[.int (-25)], vm := .none },
  { cls := 19, slots := #[.int (-24)], vm := .none },
  { cls := 19, slots := #[.int (-23)], vm := .none },
  { cls := 19, slots := #[.int (-22)], vm := .none },
  { cls := 19, slots := #[.int (-21)], vm := .none },
  { cls := 19, slots := #[.int (-20)], vm := .none },
  { cls := 19, slots := #[.int (-19)], vm := .none },
  { cls := 19, slots := #[.int (-18)], vm := .none },
  { cls := 19, slots := #[.int (-17)], vm := .none },
  { cls := 19, slots := #[.int (-16)], vm := .none },
  { cls := 19, slots := #[.int (-15)], vm := .none },
  { cls := 19, slots := #[.int (-14)], vm := .none },
  { cls := 19, slots := #[.int (-13)], vm := .none },
  { cls := 19, slots := #[.int (-12)], vm := .none },
  { cls := 19, slots := #[.int (-11)], vm := .none },
  { cls := 19, slots := #[.int (-10)], vm := .none },
  { cls := 19, slots := #[.int (-9)], vm := .none },
  { cls := 19, slots := #[.int (-8)], vm := .none },
  { cls := 19, slots := #[.int (-7)], vm := .none },
  { cls := 19, slots := #[.int (-6)], vm := .none },
  { cls := 19, slots := #[.int (-5)], vm := .none },
  { cls := 19, slots := #[.int (-4)], vm := .none },
  { cls := 19, slots := #[.int (-3)], vm := .none },
  { cls := 19, slots := #[.int (-2)], vm := .none },
  { cls := 19, slots := #[.int (-1)], vm := .none },
  { cls := 19, slots := #[.int 0], vm := .none },
  { cls := 19, slots := #[.int 1], vm := .none },
  { cls := 19, slots := #[.int 2], vm := .none },
  { cls := 19, slots := #[.int 3], vm := .none },
  { cls := 19, slots := #[.int 4], vm := .none },
  { cls := 19, slots := #[.int 5], vm := .none },
  { cls := 19, slots := #[.int 6], vm := .none },
  { cls := 19, slots := #[.int 7], vm := .none },
  { cls := 19, slots := #[.int 8], vm := .none },
  { cls := 19, slots := #[.int 9], vm := .none },
  { cls := 19, slots := #[.int 10], vm := .none },
  { cls := 19, slots := #[.int 11], vm := .none },
  { cls := 19, slots := #[.int 12], vm := .none },
  { cls := 19, slots := #[.int 13], vm := .none },
  { cls := 19, slots := #[.int 14], vm := .none },
  { cls := 19, slots := #[.int 15], vm := .none },
  { cls := 19, slots := #[.int 16], vm := .none },
  { cls := 19, slots := #[.int 17], vm := .none },
  { cls := 19, slots := #[.int 18], vm := .none },
  { cls := 19, slots := #[.int 19], vm := .none },
  { cls := 19, slots := #[.int 20], vm := .none },
  { cls := 19, slots := #[.int 21], vm := .none },
  { cls := 19, slots := #[.int 22], vm := .none },
  { cls := 19, slots := #[.int 23], vm := .none },
  { cls := 19, slots := #[.int 24], vm := .none },
  { cls := 19, slots := #[.int 25], vm := .none },
  { cls := 19, slots := #[.int 26], vm := .none },
  { cls := 19, slots := #[.int 27], vm := .none },
  { cls := 19, slots := #[.int 28], vm := .none },
  { cls := 19, slots := #[.int 29], vm := .none },
  { cls := 19, slots := #[.int 30], vm := .none },
  { cls := 19, slots := #[.int 31], vm := .none },
  { cls := 19, slots := #[.int 32], vm := .none },
  { cls := 19, slots := #[.int 33], vm := .none },
  { cls := 19, slots := #[.int 34], vm := .none },
  { cls := 19, slots := #[.int 35], vm := .none },
  { cls := 19, slots := #[.int 36], vm := .none },
  { cls := 19, slots := #[.int 37], vm := .none },
  { cls := 19, slots := #[.int 38], vm := .none },
  { cls := 19, slots := #[.int 39], vm := .none },
  { cls := 19, slots := #[.int 40], vm := .none },
  { cls := 19, slots := #[.int 41], vm := .none },
  { cls := 19, slots := #[.int 42], vm := .none },
  { cls := 19, slots := #[.int 43], vm := .none },
  { cls := 19, slots := #[.int 44], vm := .none },
  { cls := 19, slots := #[.int 45], vm := .none },
  { cls := 19, slots := #[.int 46], vm := .none },
  { cls := 19, slots := #[.int 47], vm := .none },
  { cls := 19, slots := #[.int 48], vm := .none },
  { cls := 19, slots := #[.int 49], vm := .none },
  { cls := 19, slots := #[.int 50], vm := .none },
  { cls := 19, slots := #[.int 51], vm := .none },
  { cls := 19, slots := #[.int 52], vm := .none },
  { cls := 19, slots := #[.int 53], vm := .none },
  { cls := 19, slots := #[.int 54], vm := .none },
  { cls := 19, slots := #[.int 55], vm := .none },
  { cls := 19, slots := #[.int 56], vm := .none },
  { cls := 19, slots := #[.int 57], vm := .none },
  { cls := 19, slots := #[.int 58], vm := .none },
  { cls := 19, slots := #[.int 59], vm := .none },
  { cls := 19, slots := #[.int 60], vm := .none },
  { cls := 19, slots := #[.int 61], vm := .none },
  { cls := 19, slots := #[.int 62], vm := .none },
  { cls := 19, slots := #[.int 63], vm := .none },
  { cls := 19, slots := #[.int 64], vm := .none },
  { cls := 19, slots := #[.int 65], vm := .none },
  { cls := 19, slots := #[.int 66], vm := .none },
  { cls := 19, slots := #[.int 67], vm := .none },
  { cls := 19, slots := #[.int 68], vm := .none },
  { cls := 19, slots := #[.int 69], vm := .none },
  { cls := 19, slots := #[.int 70], vm := .none },
  { cls := 19, slots := #[.int 71], vm := .none },
  { cls := 19, slots := #[.int 72], vm := .none },
  { cls := 19, slots := #[.int 73], vm := .none },
  { cls := 19, slots := #[.int 74], vm := .none },
  { cls := 19, slots := #[.int 75], vm := .none },
  { cls := 19, slots := #[.int 76], vm := .none },
  { cls := 19, slots := #[.int 77], vm := .none },
  { cls := 19, slots := #[.int 78], vm := .none },
  { cls := 19, slots := #[.int 79], vm := .none },
  { cls := 19, slots := #[.int 80], vm := .none },
  { cls := 19, slots := #[.int 81], vm := .none },
  { cls := 19, slots := #[.int 82], vm := .none },
  { cls := 19, slots := #[.int 83], vm := .none },
  { cls := 19, slots := #[.int 84], vm := .none },
  { cls := 19, slots := #[.int 85], vm := .none },
  { cls := 19, slots := #[.int 86], vm := .none },
  { cls := 19, slots := #[.int 87], vm := .none },
  { cls := 19, slots := #[.int 88], vm := .none },
  { cls := 19, slots := #[.int 89], vm := .none },
  { cls := 19, slots := #[.int 90], vm := .none },
  { cls := 19, slots := #[.int 91], vm := .none },
  { cls := 19, slots := #[.int 92], vm := .none },
  { cls := 19, slots := #[.int 93], vm := .none },
  { cls := 19, slots := #[.int 94], vm := .none },
  { cls := 19, slots := #[.int 95], vm := .none },
  { cls := 19, slots := #[.int 96], vm := .none },
  { cls := 19, slots := #[.int 97], vm := .none },
  { cls := 19, slots := #[.int 98], vm := .none },
  { cls := 19, slots := #[.int 99], vm := .none },
  { cls := 19, slots := #[.int 100], vm := .none },
  { cls := 19, slots := #[.int 101], vm := .none },
  { cls := 19, slots := #[.int 102], vm := .none },
  { cls := 19, slots := #[.int 103], vm := .none },
  { cls := 19, slots := #[.int 104], vm := .none },
  { cls := 19, slots := #[.int 105], vm := .none },
  { cls := 19, slots := #[.int 106], vm := .none },
  { cls := 19, slots := #[.int 107], vm := .none },
  { cls := 19, slots := #[.int 108], vm := .none },
  { cls := 19, slots := #[.int 109], vm := .none },
  { cls := 19, slots := #[.int 110], vm := .none },
  { cls := 19, slots := #[.int 111], vm := .none },
  { cls := 19, slots := #[.int 112], vm := .none },
  { cls := 19, slots := #[.int 113], vm := .none },
  { cls := 19, slots := #[.int 114], vm := .none },
  { cls := 19, slots := #[.int 115], vm := .none },
  { cls := 19, slots := #[.int 116], vm := .none },
  { cls := 19, slots := #[.int 117], vm := .none },
  { cls := 19, slots := #[.int 118], vm := .none },
  { cls := 19, slots := #[.int 119], vm := .none },
  { cls := 19, slots := #[.int 120], vm := .none },
  { cls := 19, slots := #[.int 121], vm := .none },
  { cls := 19, slots := #[.int 122], vm := .none },
  { cls := 19, slots := #[.int 123], vm := .none },
  { cls := 19, slots := #[.int 124], vm := .none },
  { cls := 19, slots := #[.int 125], vm := .none },
  { cls := 19, slots := #[.int 126], vm := .none },
  { cls := 19, slots := #[.int 127], vm := .none }]
/-- [[I -/
def k29 : Class := { plain "[[I" (some 0) with kind := .array 26 (.array .int), interfaces := #[12, 13], accessFlags := 1041 }
def classes : Array Class := #[k0, k1, k2, k3, k4, k5, k6, k7, k8, k9, k10, k11, k12, k13, k14, k15, k16, k17, k18, k19, k20, k21, k22, k23, k24, k25, k26, k27, k28, k29]
def interned : List (Array UInt16 × Addr) := []
def slotsUsed : Nat := 517
def theMethod : MethodId := ⟨1, 2⟩
def args0 : Array Value := #[.int 5, .int 1, .int 7, .int 3]
def aboutOver (below : List Frame) : State where
  vm := { classes := classes, interned := interned.toArray }
  heap := heap
  slotsUsed := slotsUsed
  threads := #[{ frames := .invoking theMethod args0 :: below }]
def below0 : List Frame := [.native { method := ⟨0, 0⟩, args := #[] }]
def about1 : State := aboutOver below0
def p0 : Program := .bare "" "" ""
def e0 : Env := launch0.env 0 0 0
theorem w_frames : about1.frames = Frame.invoking theMethod args0 :: below0 := rfl
set_option maxRecDepth 65536 in
theorem w_args : argsFit about1.vm theMethod args0 = true := by decide +kernel
set_option maxRecDepth 65536 in
theorem w_heap : heapFits about1 = true := by decide +kernel
set_option maxRecDepth 65536 in
theorem w_runnable : about1.curStatus? = some .runnable := by decide +kernel
set_option maxRecDepth 65536 in
theorem w_alone : about1.alone = true := by decide +kernel
set_option maxRecDepth 65536 in
theorem w_named : about1.methodNamed? x = some theMethod := by decide +kernel
set_option maxRecDepth 65536 in
theorem w_hears : about1.hears theMethod below0 = true := by decide +kernel
set_option maxRecDepth 65536 in
theorem w_ripe : about1.ripe theMethod args0 below0 = true := by decide +kernel
theorem w_running : about1.status = .running := rfl
set_option maxRecDepth 65536 in
theorem w_room : about1.hasRoom e0.platform room_1 = true :=
  launch0.hasRoom_least _ room_1 (by decide +kernel) (by decide +kernel) (by decide +kernel) (by decide +kernel) (by decide +kernel) (by decide +kernel)
theorem allAtoms_all (ts : List Jvm.Cond) (a : Array Jvm.Value) (st : Jvm.State) : (allAtoms ts).before a st = ts.all (fun c => c.before a st) := by
  induction ts with
  | nil => rfl
  | cons c t ih =>
    show (Jvm.Cond.and c (allAtoms t)).before a st = _
    rw [Jvm.Cond.before_and, ih, List.all_cons]
def words1 : List Jvm.Cond := Jvm.Cond.code x code maxLocals ret :: tables_1
/-- a 'code' word, met by the world's own term for the bytes: nothing is compared byte by byte -/
theorem code_word {y : MethodName} {bytes : ByteArray} {mx : Nat} {rt : Option FieldType} {a : Array Value} {s : State} {m : MethodId} {meth : Method} {c : Code} (h1 : s.methodNamed? y = some m) (h2 : s.vm.method? m = some meth) (h3 : meth.code = some c) (h4 : c.code = bytes)
    (h5 : (c.maxLocals == mx && c.exceptionTable.isEmpty && decide (c.maxStack ≤ mostOperands) && decide (meth.sig.returnType = rt) && !meth.locks && decide (parseMethodDescriptor y.desc = some meth.sig)) = true) : (Jvm.Cond.code y bytes mx rt).before a s = true := by
  simp only [Bool.and_eq_true, beq_iff_eq, Bool.not_eq_true', decide_eq_true_eq] at h5
  obtain ⟨⟨⟨⟨⟨g1, g2⟩, g3⟩, g4⟩, g5⟩, g6⟩ := h5
  simp [Cond.before, Cond.holds, Cond.value, h1, h2, h3, h4, g1, g2, g3, g4, g5, g6]
def isCode : Jvm.Cond → Bool
  | .code _ _ _ _ => true
  | _ => false
theorem all_split {L : List Jvm.Cond} {P : Jvm.Cond → Bool} (h1 : L.all (fun c => isCode c || P c) = true) (h2 : ∀ c ∈ L.filter isCode, P c = true) : L.all P = true := by
  refine List.all_eq_true.mpr fun c hc => ?_
  have h := List.all_eq_true.mp h1 c hc
  rcases Bool.eq_false_or_eq_true (isCode c) with hi | hi
  · exact h2 c (List.mem_filter.mpr ⟨hc, hi⟩)
  · simpa [hi] using h
set_option maxRecDepth 65536 in
theorem w_c0 : (Jvm.Cond.code x code maxLocals ret).before args0 about1 = true := code_word (m := ⟨1, 2⟩) (meth := k1m2) (c := k1c2) (by decide +kernel) rfl rfl rfl (by decide +kernel)
set_option maxRecDepth 65536 in
theorem w_c1 : (Jvm.Cond.code ({ cls := "com/example/mild_horn/mildhorn/translation/Centroids", name := "<init>", desc := "([I)V" } : Jvm.MethodName) prog_40_method_1_code (3 : Nat) (Option.none : Option Jvm.ClassFile.FieldType)).before args0 about1 = true := code_word (m := ⟨2, 0⟩) (meth := k2m0) (c := k2c0) (by decide +kernel) rfl rfl rfl (by decide +kernel)
set_option maxRecDepth 65536 in
theorem w_c2 : (Jvm.Cond.code ({ cls := "java/lang/Object", name := "<init>", desc := "()V" } : Jvm.MethodName) object_method_1_code (1 : Nat) (Option.none : Option Jvm.ClassFile.FieldType)).before args0 about1 = true := code_word (m := ⟨0, 0⟩) (meth := k0m0) (c := k0c0) (by decide +kernel) rfl rfl rfl (by decide +kernel)
set_option maxRecDepth 65536 in
theorem w_c3 : (Jvm.Cond.code ({ cls := "com/example/mild_horn/mildhorn/translation/Centroids", name := "children", desc := "([I)[[I" } : Jvm.MethodName) prog_40_method_6_code (6 : Nat) (Option.some (Jvm.ClassFile.FieldType.array (Jvm.ClassFile.FieldType.array Jvm.ClassFile.FieldType.int)))).before args0 about1 = true := code_word (m := ⟨2, 2⟩) (meth := k2m2) (c := k2c2) (by decide +kernel) rfl rfl rfl (by decide +kernel)
set_option maxRecDepth 65536 in
theorem w_c4 : (Jvm.Cond.code ({ cls := "com/example/mild_horn/mildhorn/translation/Centroids", name := "neighbours", desc := "([I[[I)[[I" } : Jvm.MethodName) prog_40_method_11_code (5 : Nat) (Option.some (Jvm.ClassFile.FieldType.array (Jvm.ClassFile.FieldType.array Jvm.ClassFile.FieldType.int)))).before args0 about1 = true := code_word (m := ⟨2, 7⟩) (meth := k2m7) (c := k2c7) (by decide +kernel) rfl rfl rfl (by decide +kernel)
set_option maxRecDepth 65536 in
theorem w_c5 : (Jvm.Cond.code ({ cls := "java/util/Arrays", name := "copyOf", desc := "([II)[I" } : Jvm.MethodName) jdk_65_method_123_code (3 : Nat) (Option.some (Jvm.ClassFile.FieldType.array Jvm.ClassFile.FieldType.int))).before args0 about1 = true := code_word (m := ⟨3, 1⟩) (meth := k3m1) (c := k3c1) (by decide +kernel) rfl rfl rfl (by decide +kernel)
set_option maxRecDepth 65536 in
theorem w_c6 : (Jvm.Cond.code ({ cls := "java/lang/Math", name := "min", desc := "(II)I" } : Jvm.MethodName) jdk_29_method_69_code (2 : Nat) (Option.some Jvm.ClassFile.FieldType.int)).before args0 about1 = true := code_word (m := ⟨4, 2⟩) (meth := k4m2) (c := k4c2) (by decide +kernel) rfl rfl rfl (by decide +kernel)
set_option maxRecDepth 65536 in
theorem w_c7 : (Jvm.Cond.code ({ cls := "com/example/mild_horn/mildhorn/translation/Centroids", name := "number", desc := "(I)V" } : Jvm.MethodName) prog_40_method_7_code (7 : Nat) (Option.none : Option Jvm.ClassFile.FieldType)).before args0 about1 = true := code_word (m := ⟨2, 3⟩) (meth := k2m3) (c := k2c3) (by decide +kernel) rfl rfl rfl (by decide +kernel)
set_option maxRecDepth 65536 in
theorem w_c8 : (Jvm.Cond.code ({ cls := "java/util/ArrayDeque", name := "<init>", desc := "()V" } : Jvm.MethodName) jdk_21_method_3_code (1 : Nat) (Option.none : Option Jvm.ClassFile.FieldType)).before args0 about1 = true := code_word (m := ⟨14, 0⟩) (meth := k14m0) (c := k14c0) (by decide +kernel) rfl rfl rfl (by decide +kernel)
set_option maxRecDepth 65536 in
theorem w_c9 : (Jvm.Cond.code ({ cls := "java/util/AbstractCollection", name := "<init>", desc := "()V" } : Jvm.MethodName) jdk_22_method_1_code (1 : Nat) (Option.none : Option Jvm.ClassFile.FieldType)).before args0 about1 = true := code_word (m := ⟨8, 0⟩) (meth := k8m0) (c := k8c0) (by decide +kernel) rfl rfl rfl (by decide +kernel)
set_option maxRecDepth 65536 in
theorem w_c10 : (Jvm.Cond.code ({ cls := "java/lang/Integer", name := "valueOf", desc := "(I)Ljava/lang/Integer;" } : Jvm.MethodName) jdk_33_method_22_code (1 : Nat) (Option.some (Jvm.ClassFile.FieldType.object "java/lang/Integer"))).before args0 about1 = true := code_word (m := ⟨19, 0⟩) (meth := k19m0) (c := k19c0) (by decide +kernel) rfl rfl rfl (by decide +kernel)
set_option maxRecDepth 65536 in
theorem w_c11 : (Jvm.Cond.code ({ cls := "java/util/ArrayDeque", name := "push", desc := "(Ljava/lang/Object;)V" } : Jvm.MethodName) jdk_21_method_34_code (2 : Nat) (Option.none : Option Jvm.ClassFile.FieldType)).before args0 about1 = true := code_word (m := ⟨14, 7⟩) (meth := k14m7) (c := k14c7) (by decide +kernel) rfl rfl rfl (by decide +kernel)
set_option maxRecDepth 65536 in
theorem w_c12 : (Jvm.Cond.code ({ cls := "java/util/ArrayDeque", name := "addFirst", desc := "(Ljava/lang/Object;)V" } : Jvm.MethodName) jdk_21_method_12_code (3 : Nat) (Option.none : Option Jvm.ClassFile.FieldType)).before args0 about1 = true := code_word (m := ⟨14, 4⟩) (meth := k14m4) (c := k14c4) (by decide +kernel) rfl rfl rfl (by decide +kernel)
set_option maxRecDepth 65536 in
theorem w_c13 : (Jvm.Cond.code ({ cls := "java/util/ArrayDeque", name := "dec", desc := "(II)I" } : Jvm.MethodName) jdk_21_method_7_code (2 : Nat) (Option.some Jvm.ClassFile.FieldType.int)).before args0 about1 = true := code_word (m := ⟨14, 2⟩) (meth := k14m2) (c := k14c2) (by decide +kernel) rfl rfl rfl (by decide +kernel)
set_option maxRecDepth 65536 in
theorem w_c14 : (Jvm.Cond.code ({ cls := "java/util/ArrayDeque", name := "isEmpty", desc := "()Z" } : Jvm.MethodName) jdk_21_method_38_code (1 : Nat) (Option.some Jvm.ClassFile.FieldType.boolean)).before args0 about1 = true := code_word (m := ⟨14, 9⟩) (meth := k14m9) (c := k14c9) (by decide +kernel) rfl rfl rfl (by decide +kernel)
set_option maxRecDepth 65536 in
theorem w_c15 : (Jvm.Cond.code ({ cls := "java/util/ArrayDeque", name := "pop", desc := "()Ljava/lang/Object;" } : Jvm.MethodName) jdk_21_method_35_code (1 : Nat) (Option.some (Jvm.ClassFile.FieldType.object "java/lang/Object"))).before args0 about1 = true := code_word (m := ⟨14, 8⟩) (meth := k14m8) (c := k14c8) (by decide +kernel) rfl rfl rfl (by decide +kernel)
set_option maxRecDepth 65536 in
theorem w_c16 : (Jvm.Cond.code ({ cls := "java/util/ArrayDeque", name := "removeFirst", desc := "()Ljava/lang/Object;" } : Jvm.MethodName) jdk_21_method_18_code (2 : Nat) (Option.some (Jvm.ClassFile.FieldType.object "java/lang/Object"))).before args0 about1 = true := code_word (m := ⟨14, 5⟩) (meth := k14m5) (c := k14c5) (by decide +kernel) rfl rfl rfl (by decide +kernel)
set_option maxRecDepth 65536 in
theorem w_c17 : (Jvm.Cond.code ({ cls := "java/util/ArrayDeque", name := "pollFirst", desc := "()Ljava/lang/Object;" } : Jvm.MethodName) jdk_21_method_20_code (4 : Nat) (Option.some (Jvm.ClassFile.FieldType.object "java/lang/Object"))).before args0 about1 = true := code_word (m := ⟨14, 6⟩) (meth := k14m6) (c := k14c6) (by decide +kernel) rfl rfl rfl (by decide +kernel)
set_option maxRecDepth 65536 in
theorem w_c18 : (Jvm.Cond.code ({ cls := "java/util/ArrayDeque", name := "elementAt", desc := "([Ljava/lang/Object;I)Ljava/lang/Object;" } : Jvm.MethodName) jdk_21_method_10_code (2 : Nat) (Option.some (Jvm.ClassFile.FieldType.object "java/lang/Object"))).before args0 about1 = true := code_word (m := ⟨14, 3⟩) (meth := k14m3) (c := k14c3) (by decide +kernel) rfl rfl rfl (by decide +kernel)
set_option maxRecDepth 65536 in
theorem w_c19 : (Jvm.Cond.code ({ cls := "java/util/ArrayDeque", name := "inc", desc := "(II)I" } : Jvm.MethodName) jdk_21_method_6_code (2 : Nat) (Option.some Jvm.ClassFile.FieldType.int)).before args0 about1 = true := code_word (m := ⟨14, 1⟩) (meth := k14m1) (c := k14c1) (by decide +kernel) rfl rfl rfl (by decide +kernel)
set_option maxRecDepth 65536 in
theorem w_c20 : (Jvm.Cond.code ({ cls := "java/lang/Integer", name := "intValue", desc := "()I" } : Jvm.MethodName) jdk_33_method_27_code (1 : Nat) (Option.some Jvm.ClassFile.FieldType.int)).before args0 about1 = true := code_word (m := ⟨19, 1⟩) (meth := k19m1) (c := k19c1) (by decide +kernel) rfl rfl rfl (by decide +kernel)
set_option maxRecDepth 65536 in
theorem w_c21 : (Jvm.Cond.code ({ cls := "java/lang/Math", name := "max", desc := "(II)I" } : Jvm.MethodName) jdk_29_method_65_code (2 : Nat) (Option.some Jvm.ClassFile.FieldType.int)).before args0 about1 = true := code_word (m := ⟨4, 1⟩) (meth := k4m1) (c := k4c1) (by decide +kernel) rfl rfl rfl (by decide +kernel)
set_option maxRecDepth 65536 in
theorem w_c22 : (Jvm.Cond.code ({ cls := "com/example/mild_horn/mildhorn/translation/Centroids", name := "decompose", desc := "(I)I" } : Jvm.MethodName) prog_40_method_8_code (16 : Nat) (Option.some Jvm.ClassFile.FieldType.int)).before args0 about1 = true := code_word (m := ⟨2, 4⟩) (meth := k2m4) (c := k2c4) (by decide +kernel) rfl rfl rfl (by decide +kernel)
set_option maxRecDepth 65536 in
theorem w_c23 : (Jvm.Cond.code ({ cls := "com/example/mild_horn/mildhorn/translation/Centroids", name := "reach", desc := "(I[Z[I[I)I" } : Jvm.MethodName) prog_40_method_9_code (12 : Nat) (Option.some Jvm.ClassFile.FieldType.int)).before args0 about1 = true := code_word (m := ⟨2, 5⟩) (meth := k2m5) (c := k2c5) (by decide +kernel) rfl rfl rfl (by decide +kernel)
set_option maxRecDepth 65536 in
theorem w_c24 : (Jvm.Cond.code ({ cls := "com/example/mild_horn/mildhorn/translation/Centroids", name := "heaviest", desc := "(II[Z[I[I)I" } : Jvm.MethodName) prog_40_method_10_code (12 : Nat) (Option.some Jvm.ClassFile.FieldType.int)).before args0 about1 = true := code_word (m := ⟨2, 6⟩) (meth := k2m6) (c := k2c6) (by decide +kernel) rfl rfl rfl (by decide +kernel)
set_option maxRecDepth 65536 in
theorem w_c25 : (Jvm.Cond.code ({ cls := "com/example/mild_horn/mildhorn/translation/CentroidsTowardPinLaw", name := "childToward", desc := "([III)I" } : Jvm.MethodName) method_2_code (4 : Nat) (Option.some Jvm.ClassFile.FieldType.int)).before args0 about1 = true := code_word (m := ⟨1, 1⟩) (meth := k1m1) (c := k1c1) (by decide +kernel) rfl rfl rfl (by decide +kernel)
set_option maxRecDepth 65536 in
theorem w_c26 : (Jvm.Cond.code ({ cls := "com/example/mild_horn/mildhorn/translation/Centroids", name := "toward", desc := "(II)I" } : Jvm.MethodName) prog_40_method_4_code (7 : Nat) (Option.some Jvm.ClassFile.FieldType.int)).before args0 about1 = true := code_word (m := ⟨2, 1⟩) (meth := k2m1) (c := k2c1) (by decide +kernel) rfl rfl rfl (by decide +kernel)
def codes1 : List Jvm.Cond := [Jvm.Cond.code x code maxLocals ret, Jvm.Cond.code ({ cls := "com/example/mild_horn/mildhorn/translation/Centroids", name := "<init>", desc := "([I)V" } : Jvm.MethodName) prog_40_method_1_code (3 : Nat) (Option.none : Option Jvm.ClassFile.FieldType), Jvm.Cond.code ({ cls := "java/lang/Object", name := "<init>", desc := "()V" } : Jvm.MethodName) object_method_1_code (1 : Nat) (Option.none : Option Jvm.ClassFile.FieldType), Jvm.Cond.code ({ cls := "com/example/mild_horn/mildhorn/translation/Centroids", name := "children", desc := "([I)[[I" } : Jvm.MethodName) prog_40_method_6_code (6 : Nat) (Option.some (Jvm.ClassFile.FieldType.array (Jvm.ClassFile.FieldType.array Jvm.ClassFile.FieldType.int))), Jvm.Cond.code ({ cls := "com/example/mild_horn/mildhorn/translation/Centroids", name := "neighbours", desc := "([I[[I)[[I" } : Jvm.MethodName) prog_40_method_11_code (5 : Nat) (Option.some (Jvm.ClassFile.FieldType.array (Jvm.ClassFile.FieldType.array Jvm.ClassFile.FieldType.int))), Jvm.Cond.code ({ cls := "java/util/Arrays", name := "copyOf", desc := "([II)[I" } : Jvm.MethodName) jdk_65_method_123_code (3 : Nat) (Option.some (Jvm.ClassFile.FieldType.array Jvm.ClassFile.FieldType.int)), Jvm.Cond.code ({ cls := "java/lang/Math", name := "min", desc := "(II)I" } : Jvm.MethodName) jdk_29_method_69_code (2 : Nat) (Option.some Jvm.ClassFile.FieldType.int), Jvm.Cond.code ({ cls := "com/example/mild_horn/mildhorn/translation/Centroids", name := "number", desc := "(I)V" } : Jvm.MethodName) prog_40_method_7_code (7 : Nat) (Option.none : Option Jvm.ClassFile.FieldType), Jvm.Cond.code ({ cls := "java/util/ArrayDeque", name := "<init>", desc := "()V" } : Jvm.MethodName) jdk_21_method_3_code (1 : Nat) (Option.none : Option Jvm.ClassFile.FieldType), Jvm.Cond.code ({ cls := "java/util/AbstractCollection", name := "<init>", desc := "()V" } : Jvm.MethodName) jdk_22_method_1_code (1 : Nat) (Option.none : Option Jvm.ClassFile.FieldType), Jvm.Cond.code ({ cls := "java/lang/Integer", name := "valueOf", desc := "(I)Ljava/lang/Integer;" } : Jvm.MethodName) jdk_33_method_22_code (1 : Nat) (Option.some (Jvm.ClassFile.FieldType.object "java/lang/Integer")), Jvm.Cond.code ({ cls := "java/util/ArrayDeque", name := "push", desc := "(Ljava/lang/Object;)V" } : Jvm.MethodName) jdk_21_method_34_code (2 : Nat) (Option.none : Option Jvm.ClassFile.FieldType), Jvm.Cond.code ({ cls := "java/util/ArrayDeque", name := "addFirst", desc := "(Ljava/lang/Object;)V" } : Jvm.MethodName) jdk_21_method_12_code (3 : Nat) (Option.none : Option Jvm.ClassFile.FieldType), Jvm.Cond.code ({ cls := "java/util/ArrayDeque", name := "dec", desc := "(II)I" } : Jvm.MethodName) jdk_21_method_7_code (2 : Nat) (Option.some Jvm.ClassFile.FieldType.int), Jvm.Cond.code ({ cls := "java/util/ArrayDeque", name := "isEmpty", desc := "()Z" } : Jvm.MethodName) jdk_21_method_38_code (1 : Nat) (Option.some Jvm.ClassFile.FieldType.boolean), Jvm.Cond.code ({ cls := "java/util/ArrayDeque", name := "pop", desc := "()Ljava/lang/Object;" } : Jvm.MethodName) jdk_21_method_35_code (1 : Nat) (Option.some (Jvm.ClassFile.FieldType.object "java/lang/Object")), Jvm.Cond.code ({ cls := "java/util/ArrayDeque", name := "removeFirst", desc := "()Ljava/lang/Object;" } : Jvm.MethodName) jdk_21_method_18_code (2 : Nat) (Option.some (Jvm.ClassFile.FieldType.object "java/lang/Object")), Jvm.Cond.code ({ cls := "java/util/ArrayDeque", name := "pollFirst", desc := "()Ljava/lang/Object;" } : Jvm.MethodName) jdk_21_method_20_code (4 : Nat) (Option.some (Jvm.ClassFile.FieldType.object "java/lang/Object")), Jvm.Cond.code ({ cls := "java/util/ArrayDeque", name := "elementAt", desc := "([Ljava/lang/Object;I)Ljava/lang/Object;" } : Jvm.MethodName) jdk_21_method_10_code (2 : Nat) (Option.some (Jvm.ClassFile.FieldType.object "java/lang/Object")), Jvm.Cond.code ({ cls := "java/util/ArrayDeque", name := "inc", desc := "(II)I" } : Jvm.MethodName) jdk_21_method_6_code (2 : Nat) (Option.some Jvm.ClassFile.FieldType.int), Jvm.Cond.code ({ cls := "java/lang/Integer", name := "intValue", desc := "()I" } : Jvm.MethodName) jdk_33_method_27_code (1 : Nat) (Option.some Jvm.ClassFile.FieldType.int), Jvm.Cond.code ({ cls := "java/lang/Math", name := "max", desc := "(II)I" } : Jvm.MethodName) jdk_29_method_65_code (2 : Nat) (Option.some Jvm.ClassFile.FieldType.int), Jvm.Cond.code ({ cls := "com/example/mild_horn/mildhorn/translation/Centroids", name := "decompose", desc := "(I)I" } : Jvm.MethodName) prog_40_method_8_code (16 : Nat) (Option.some Jvm.ClassFile.FieldType.int), Jvm.Cond.code ({ cls := "com/example/mild_horn/mildhorn/translation/Centroids", name := "reach", desc := "(I[Z[I[I)I" } : Jvm.MethodName) prog_40_method_9_code (12 : Nat) (Option.some Jvm.ClassFile.FieldType.int), Jvm.Cond.code ({ cls := "com/example/mild_horn/mildhorn/translation/Centroids", name := "heaviest", desc := "(II[Z[I[I)I" } : Jvm.MethodName) prog_40_method_10_code (12 : Nat) (Option.some Jvm.ClassFile.FieldType.int), Jvm.Cond.code ({ cls := "com/example/mild_horn/mildhorn/translation/CentroidsTowardPinLaw", name := "childToward", desc := "([III)I" } : Jvm.MethodName) method_2_code (4 : Nat) (Option.some Jvm.ClassFile.FieldType.int), Jvm.Cond.code ({ cls := "com/example/mild_horn/mildhorn/translation/Centroids", name := "toward", desc := "(II)I" } : Jvm.MethodName) prog_40_method_4_code (7 : Nat) (Option.some Jvm.ClassFile.FieldType.int)]
set_option maxRecDepth 65536 in
theorem codes_eq : words1.filter isCode = codes1 := rfl
theorem w_codes : ∀ c ∈ words1.filter isCode, c.before args0 about1 = true := by
  rw [codes_eq]
  intro c hc
  simp only [codes1, List.mem_cons, List.not_mem_nil, or_false] at hc
  rcases hc with rfl | rfl | rfl | rfl | rfl | rfl | rfl | rfl | rfl | rfl | rfl | rfl | rfl | rfl | rfl | rfl | rfl | rfl | rfl | rfl | rfl | rfl | rfl | rfl | rfl | rfl | rfl
  · exact w_c0
  · exact w_c1
  · exact w_c2
  · exact w_c3
  · exact w_c4
  · exact w_c5
  · exact w_c6
  · exact w_c7
  · exact w_c8
  · exact w_c9
  · exact w_c10
  · exact w_c11
  · exact w_c12
  · exact w_c13
  · exact w_c14
  · exact w_c15
  · exact w_c16
  · exact w_c17
  · exact w_c18
  · exact w_c19
  · exact w_c20
  · exact w_c21
  · exact w_c22
  · exact w_c23
  · exact w_c24
  · exact w_c25
  · exact w_c26
set_option maxRecDepth 65536 in
theorem w_t1 : (words1.take 24).all (fun c => isCode c || c.before args0 about1) = true := by decide +kernel
set_option maxRecDepth 65536 in
theorem w_t2 : ((words1.drop 24).take 24).all (fun c => isCode c || c.before args0 about1) = true := by decide +kernel
set_option maxRecDepth 65536 in
theorem w_t3 : (((words1.drop 24).drop 24).take 24).all (fun c => isCode c || c.before args0 about1) = true := by decide +kernel
set_option maxRecDepth 65536 in
theorem w_t4 : ((((words1.drop 24).drop 24).drop 24).take 24).all (fun c => isCode c || c.before args0 about1) = true := by decide +kernel
set_option maxRecDepth 65536 in
theorem w_t5 : (((((words1.drop 24).drop 24).drop 24).drop 24).take 24).all (fun c => isCode c || c.before args0 about1) = true := by decide +kernel
set_option maxRecDepth 65536 in
theorem w_t6 : ((((((words1.drop 24).drop 24).drop 24).drop 24).drop 24).take 24).all (fun c => isCode c || c.before args0 about1) = true := by decide +kernel
set_option maxRecDepth 65536 in
theorem w_t7 : ((((((words1.drop 24).drop 24).drop 24).drop 24).drop 24).drop 24).all (fun c => isCode c || c.before args0 about1) = true := by decide +kernel
theorem w_tables : (allAtoms (Jvm.Cond.code x code maxLocals ret :: tables_1)).before args0 about1 = true := by
  rw [allAtoms_all]
  show words1.all (fun c => c.before args0 about1) = true
  refine all_split ?_ w_codes
  rw [← List.take_append_drop 24 words1, List.all_append, w_t1, ← List.take_append_drop 24 (words1.drop 24), List.all_append, w_t2, ← List.take_append_drop 24 ((words1.drop 24).drop 24), List.all_append, w_t3, ← List.take_append_drop 24 (((words1.drop 24).drop 24).drop 24), List.all_append, w_t4, ← List.take_append_drop 24 ((((words1.drop 24).drop 24).drop 24).drop 24), List.all_append, w_t5, ← List.take_append_drop 24 (((((words1.drop 24).drop 24).drop 24).drop 24).drop 24), List.all_append, w_t6, w_t7]
  rfl
set_option maxRecDepth 65536 in
theorem w_rest : rest_1_c.before args0 about1 = true := by decide +kernel
set_option maxRecDepth 65536 in
theorem w_case : (Jvm.Cond.and given_1 narrow_1).before args0 about1 = true := by decide +kernel
theorem w_applies : (headSpec (Jvm.Cond.code x code maxLocals ret :: tables_1) room_1).applies x e0.platform about1 = true :=
  (Spec.applies_iff w_frames).mpr ⟨w_running, w_runnable, w_alone, w_named, w_hears, w_ripe, w_room, w_tables⟩
theorem atStart : AtStart classFile x code maxLocals ret World_1 tables_1 room_1 Calls_1 rest_1 Pre_1 launch0 p0 e0 about1 theMethod args0 below0 :=
  ⟨lists_1, trivial, launch0.admits_env _ _ _, launch0.least_env, fairChoices_fair.cas, fairChoices_fair.clock, w_frames, w_args, w_heap, w_applies, trivial, w_rest, w_case⟩
end start1
theorem witness_1 : WitnessClaimed_1 := ⟨start1.p0, start1.e0, start1.about1, start1.theMethod, start1.args0, start1.below0, start1.atStart⟩
end Jvm.Pilot.@@N@@
