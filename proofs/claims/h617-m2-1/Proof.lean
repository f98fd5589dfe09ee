import JvmDerived
import JvmDerived.Pilot.@@N@@Statement
import JvmDerived.Pilot.@@N@@Code
set_option linter.unusedVariables false
set_option linter.unusedSimpArgs false
namespace Jvm.Pilot.@@N@@
open Jvm Jvm.ClassFile Sem Op Lib Jvm.Free Jvm.Stand Jvm.LawKit Jvm.RoadKit Bundle Jvm.Pilot.@@N@@.Jvm.D
section OwnKit
variable {p : Program} {l : Launch} {e : Env} {R : Room} {s : State} {m : MethodId} {args : Array Value} {below : List Frame} {meth : Method} {c : Code} {T : State} {locs : List Loc} {cells slots kc ks : Nat} {Z : State} {a0 : Array Value} {own nm : String} {bytes : ByteArray} {ml : Nat} {ret : Option FieldType} {Q : Option Value → Heap → Prop} {h h' : Heap} {pc pc' : Nat} {ls ls' : Array Slot} {st st' rest : List Value}
/-- what is left to show where the run stands at S -/
def OGoal (p : Program) (e : Env) (below : List Frame) (s : State) (kc ks n0 : Nat) (Q : Option Value → Heap → Prop) (S : State) : Prop :=
  ∃ s₂ o, Steps p.tables e below S s₂ ∧ s₂.status = .running ∧ Ended s₂ below o ∧ ∃ v L, o = .returned v ∧ ((Q v s₂.heap ∧ s.heap.size ≤ s₂.heap.size) ∧ Fr n0 L) ∧ FrameEnd s o s₂ L kc ks
theorem OGoal.via {n0 : Nat} {S S' : State} (hs : ∀ t, Steps p.tables e below S' t → Steps p.tables e below S t) (g : OGoal p e below s kc ks n0 Q S') : OGoal p e below s kc ks n0 Q S := by
  obtain ⟨s2, o, h1, r⟩ := g
  exact ⟨s2, o, hs _ h1, r⟩
/-- what holds throughout a body -/
def OCtx (p : Program) (s : State) (m : MethodId) (meth : Method) (c : Code) (Z : State) (own nm : String) (bytes : ByteArray) (ml : Nat) (ret : Option FieldType) : Prop :=
  p.tables.exec = Jvm.exec ∧ Z.Warmed39 s.vm ∧ s.vm.findClass own = some m.cls ∧ c.code = bytes ∧ c.maxLocals = ml ∧ meth.sig.returnType = ret ∧ meth.locks = false ∧ meth.name = nm ∧ Ext Z.heap s.heap
/-- from every state with the heap h whose top frame is g the body comes to its end -/
def OG (p : Program) (l : Launch) (e : Env) (R : Room) (s : State) (m : MethodId) (args : Array Value) (below : List Frame) (meth : Method) (c : Code) (Z : State) (own nm : String) (bytes : ByteArray) (ml : Nat) (ret : Option FieldType) (Q : Option Value → Heap → Prop) (kc ks : Nat) (h : Heap) (cells slots : Nat) (g : JFrame) : Prop :=
  OCtx p s m meth c Z own nm bytes ml ret → ∀ T locs, Stand p l e R s m args below meth c T locs cells slots → T.heap = h → Fr Z.heap.size locs → OGoal p e below s kc ks Z.heap.size Q (T.setTop g)
theorem own_ext (X : Stand p l e R s m args below meth c T locs cells slots) (E : Ext Z.heap s.heap) (N : Fr Z.heap.size locs) : Ext Z.heap T.heap := by
  have q := X.same
  refine ⟨Nat.le_trans E.1 q.2.1, fun a cl hc => ?_⟩
  obtain ⟨c', h1, h2, h3, h4⟩ := q.2.2.2.2.2 a cl (E.2 a cl hc)
  have ha : a < Z.heap.size := (Array.getElem?_eq_some_iff.mp hc).1
  have e1 : c'.slots = cl.slots := Array.ext_getElem? fun i => h4 i fun hm => absurd (N _ hm) (Nat.not_le.mpr ha)
  rw [e1] at h2
  have e2 : c' = cl := h2
  rw [← e2]
  exact h1
/-- the contract of a body, at its arguments and heap -/
def OCtr (l : Launch) (Z : State) (y : MethodName) (yb : ByteArray) (yl : Nat) (yr : Option FieldType) (rm : Room) (as' : Array Value) (h0 : Heap) (yQ : Option Value → Heap → Prop) : Prop :=
  ∀ ws : List Jvm.Cond, MetFree l y (head1 (Jvm.Cond.code y yb yl yr :: ws) rm) (fun a U => a = as' ∧ Z.Warmed39 U.vm ∧ U.heap = h0) (fun _ _ _ _ _ => True) (fun _ U o U' => ∃ v L, o = .returned v ∧ ((yQ v U'.heap ∧ h0.size ≤ U'.heap.size) ∧ Fr Z.heap.size L) ∧ FrameEnd U o U' L rm.cells rm.slots)
theorem o_body {y : MethodName} {yb : ByteArray} {yl : Nat} {yr : Option FieldType} {rm : Room} {as' : Array Value} {h0 : Heap} {yQ : Option Value → Heap → Prop} {ls0 : Array Slot} (hpl : plainFor y = true) (hE : Ext Z.heap h0)
    (hef : ∀ m : MethodId, entryFrame m as' yl = mkF m 0 ls0 [])
    (k : ∀ (p : Program) (e : Env) (s : State) (m : MethodId) (below : List Frame) (meth : Method) (c : Code), OG p l e rm s m as' below meth c Z y.cls y.name yb yl yr yQ rm.cells rm.slots h0 0 0 (mkF m 0 ls0 [])) : OCtr l Z y yb yl yr rm as' h0 yQ := by
  intro ws
  refine MetFree.of_bodySF hpl hisR ?_
  intro p e s m args below meth c s₁ Bd hml0 hP hK
  obtain ⟨rfl, hZ, hh⟩ := hP
  have X0 : Stand p l e rm s m args below meth c s₁ [] 0 0 := Stand.of_body Bd
  have e0 : s₁.heap = h0 := by rw [← hh, Bd.state]; rfl
  have g := k p e s m below meth c ⟨Bd.exec, hZ, findClass_of_methodNamed Bd.named, Bd.bytes, hml0, Bd.returns, Bd.notSynchronized, (name_of_methodNamed Bd.named Bd.method).1, by rw [hh]; exact hE⟩ s₁ [] X0 e0 (Fr.nil _)
  rw [hef]
  rw [← hh]
  exact g
/-- a single step that leaves the heap -/
theorem o_pure {n : Nat} {i : Instr} (hd : decode bytes pc = .ok (i, n)) (hs : ∀ (T : State) (locs : List Loc), Stand p l e R s m args below meth c T locs cells slots → p.tables.exec = Jvm.exec → decode c.code pc = .ok (i, n) → ∀ t, Steps p.tables e below (T.setTop (mkF m pc' ls' st')) t → Steps p.tables e below (T.setTop (mkF m pc ls st)) t)
    (k : OG p l e R s m args below meth c Z own nm bytes ml ret Q kc ks h cells slots (mkF m pc' ls' st')) : OG p l e R s m args below meth c Z own nm bytes ml ret Q kc ks h cells slots (mkF m pc ls st) := by
  intro C T locs X eT N
  exact OGoal.via (hs T locs X C.1 (hb C.2.2.2.1 hd)) (k C T locs X eT N)
/-! pure instructions, as one function -/
def oBI (f : Int32 → Int32 → Int32) (st : List Value) (ls : Array Slot) : Option (List Value × Array Slot) :=
  match st with
  | .int y :: .int x :: r => some (.int (f x y) :: r, ls)
  | _ => none
def oBL (f : Int64 → Int64 → Int64) (st : List Value) (ls : Array Slot) : Option (List Value × Array Slot) :=
  match st with
  | .long y :: .long x :: r => some (.long (f x y) :: r, ls)
  | _ => none
def oBLI (f : Int64 → Int32 → Int64) (st : List Value) (ls : Array Slot) : Option (List Value × Array Slot) :=
  match st with
  | .int y :: .long x :: r => some (.long (f x y) :: r, ls)
  | _ => none
def oUI (f : Int32 → Int32) (st : List Value) (ls : Array Slot) : Option (List Value × Array Slot) :=
  match st with
  | .int x :: r => some (.int (f x) :: r, ls)
  | _ => none
def oLdI (k : Nat) (st : List Value) (ls : Array Slot) : Option (List Value × Array Slot) :=
  match ls[k]? with
  | some (.val (.int v)) => some (.int v :: st, ls)
  | _ => none
def oLdL (k : Nat) (st : List Value) (ls : Array Slot) : Option (List Value × Array Slot) :=
  match ls[k]? with
  | some (.val (.long v)) => some (.long v :: st, ls)
  | _ => none
def oLdA (k : Nat) (st : List Value) (ls : Array Slot) : Option (List Value × Array Slot) :=
  match ls[k]? with
  | some (.val (.ref v)) => some (.ref v :: st, ls)
  | some (.val .null) => some (.null :: st, ls)
  | _ => none
def oStI (k : Nat) (st : List Value) (ls : Array Slot) : Option (List Value × Array Slot) :=
  match st with
  | .int v :: r => (storeLocals ls k (.int v)).map fun l' => (r, l')
  | _ => none
def oStL (k : Nat) (st : List Value) (ls : Array Slot) : Option (List Value × Array Slot) :=
  match st with
  | .long v :: r => (storeLocals ls k (.long v)).map fun l' => (r, l')
  | _ => none
def oStA (k : Nat) (st : List Value) (ls : Array Slot) : Option (List Value × Array Slot) :=
  match st with
  | .ref v :: r => (storeLocals ls k (.ref v)).map fun l' => (r, l')
  | .null :: r => (storeLocals ls k .null).map fun l' => (r, l')
  | _ => none
def oInc (k : Nat) (q : Int) (st : List Value) (ls : Array Slot) : Option (List Value × Array Slot) :=
  match ls[k]? with
  | some (.val (.int v)) => (storeLocals ls k (.int (v + Int32.ofInt q))).map fun l' => (st, l')
  | _ => none
def oI2L (st : List Value) (ls : Array Slot) : Option (List Value × Array Slot) :=
  match st with
  | .int x :: r => some (.long x.toInt64 :: r, ls)
  | _ => none
def oL2I (st : List Value) (ls : Array Slot) : Option (List Value × Array Slot) :=
  match st with
  | .long x :: r => some (.int x.toInt32 :: r, ls)
  | _ => none
def oCmp (st : List Value) (ls : Array Slot) : Option (List Value × Array Slot) :=
  match st with
  | .long y :: .long x :: r => some (.int (XT.cmpL x y) :: r, ls)
  | _ => none
def oDup (st : List Value) (ls : Array Slot) : Option (List Value × Array Slot) :=
  match st with
  | .int x :: r => some (.int x :: .int x :: r, ls)
  | .ref x :: r => some (.ref x :: .ref x :: r, ls)
  | _ => none
def oPop (st : List Value) (ls : Array Slot) : Option (List Value × Array Slot) :=
  match st with
  | .int _ :: r => some (r, ls)
  | .ref _ :: r => some (r, ls)
  | .null :: r => some (r, ls)
  | _ => none
def oDupX (st : List Value) (ls : Array Slot) : Option (List Value × Array Slot) :=
  match st with
  | .int x :: .ref y :: r => some (.int x :: .ref y :: .int x :: r, ls)
  | _ => none
def oDup2 (st : List Value) (ls : Array Slot) : Option (List Value × Array Slot) :=
  match st with
  | .int x :: .ref y :: r => some (.int x :: .ref y :: .int x :: .ref y :: r, ls)
  | _ => none
def oDupX2 (st : List Value) (ls : Array Slot) : Option (List Value × Array Slot) :=
  match st with
  | .int x :: .int z :: .ref y :: r => some (.int x :: .int z :: .ref y :: .int x :: r, ls)
  | _ => none
def oLen : Instr → Nat
  | .iload _ | .lload _ | .aload _ | .istore _ | .lstore _ | .astore _ | .bipush _ => 2
  | .sipush _ | .iinc _ _ => 3
  | _ => 1
def opS (i : Instr) (st : List Value) (ls : Array Slot) : Option (List Value × Array Slot) :=
  match i with
  | .iconst k => some (.int (Int32.ofInt k) :: st, ls)
  | .bipush k => some (.int (Int8.ofInt k).toInt32 :: st, ls)
  | .sipush k => some (.int (Int16.ofInt k).toInt32 :: st, ls)
  | .lconst k => some (.long (Int64.ofNat k) :: st, ls)
  | .aconst_null => some (.null :: st, ls)
  | .iload k => oLdI k st ls
  | .iload_n k => oLdI k.val st ls
  | .lload k => oLdL k st ls
  | .lload_n k => oLdL k.val st ls
  | .aload k => oLdA k st ls
  | .aload_n k => oLdA k.val st ls
  | .istore k => oStI k st ls
  | .istore_n k => oStI k.val st ls
  | .lstore k => oStL k st ls
  | .lstore_n k => oStL k.val st ls
  | .astore k => oStA k st ls
  | .astore_n k => oStA k.val st ls
  | .iinc k q => oInc k q st ls
  | .iadd => oBI (fun x y => x + y) st ls
  | .isub => oBI (fun x y => x - y) st ls
  | .imul => oBI (fun x y => x * y) st ls
  | .iand => oBI (fun x y => x &&& y) st ls
  | .ior => oBI (fun x y => x ||| y) st ls
  | .ixor => oBI (fun x y => x ^^^ y) st ls
  | .ishl => oBI (fun x y => x <<< (y &&& 31)) st ls
  | .ishr => oBI (fun x y => x >>> (y &&& 31)) st ls
  | .iushr => oBI (fun x y => XT.ushr x y) st ls
  | .ladd => oBL (fun x y => x + y) st ls
  | .lsub => oBL (fun x y => x - y) st ls
  | .lmul => oBL (fun x y => x * y) st ls
  | .land => oBL (fun x y => x &&& y) st ls
  | .lor => oBL (fun x y => x ||| y) st ls
  | .lxor => oBL (fun x y => x ^^^ y) st ls
  | .lshl => oBLI (fun x y => x <<< (y.toInt64 &&& 63)) st ls
  | .lshr => oBLI (fun x y => x >>> (y.toInt64 &&& 63)) st ls
  | .lushr => oBLI (fun x y => XT.ushrL x y) st ls
  | .i2b => oUI (fun x => x.toInt8.toInt32) st ls
  | .i2c => oUI (fun x => x.toUInt32.toUInt16.toUInt32.toInt32) st ls
  | .i2s => oUI (fun x => x.toInt16.toInt32) st ls
  | .ineg => oUI (fun x => -x) st ls
  | .i2l => oI2L st ls
  | .l2i => oL2I st ls
  | .lcmp => oCmp st ls
  | .dup => oDup st ls
  | .pop => oPop st ls
  | .dup_x1 => oDupX st ls
  | .dup2 => oDup2 st ls
  | .dup_x2 => oDupX2 st ls
  | _ => none
/-- the instructions from pc on, one behind the other; what stands behind them -/
def oBlk (code : ByteArray) : Nat → List Instr → Option Nat
  | pc, [] => some pc
  | pc, i :: is => if decode code pc = .ok (i, oLen i) then oBlk code (pc + oLen i) is else none
def oRun : List Instr → List Value → Array Slot → Option (List Value × Array Slot)
  | [], st, ls => some (st, ls)
  | i :: is, st, ls => match opS i st ls with
    | some (st', ls') => oRun is st' ls'
    | none => none
theorem oBI_inv {f : Int32 → Int32 → Int32} {r : List Value × Array Slot} (q : oBI f st ls = some r) : ∃ x y t, st = .int y :: .int x :: t ∧ r = (.int (f x y) :: t, ls) := by
  unfold oBI at q
  split at q
  · exact ⟨_, _, _, rfl, (Option.some.inj q).symm⟩
  · cases q
theorem oBL_inv {f : Int64 → Int64 → Int64} {r : List Value × Array Slot} (q : oBL f st ls = some r) : ∃ x y t, st = .long y :: .long x :: t ∧ r = (.long (f x y) :: t, ls) := by
  unfold oBL at q
  split at q
  · exact ⟨_, _, _, rfl, (Option.some.inj q).symm⟩
  · cases q
theorem oBLI_inv {f : Int64 → Int32 → Int64} {r : List Value × Array Slot} (q : oBLI f st ls = some r) : ∃ x y t, st = .int y :: .long x :: t ∧ r = (.long (f x y) :: t, ls) := by
  unfold oBLI at q
  split at q
  · exact ⟨_, _, _, rfl, (Option.some.inj q).symm⟩
  · cases q
theorem oUI_inv {f : Int32 → Int32} {r : List Value × Array Slot} (q : oUI f st ls = some r) : ∃ x t, st = .int x :: t ∧ r = (.int (f x) :: t, ls) := by
  unfold oUI at q
  split at q
  · exact ⟨_, _, rfl, (Option.some.inj q).symm⟩
  · cases q
theorem oLdI_inv {k : Nat} {r : List Value × Array Slot} (q : oLdI k st ls = some r) : ∃ v, ls[k]? = some (.val (.int v)) ∧ r = (.int v :: st, ls) := by
  unfold oLdI at q
  split at q
  · next v hv => exact ⟨v, hv, (Option.some.inj q).symm⟩
  · cases q
theorem oLdL_inv {k : Nat} {r : List Value × Array Slot} (q : oLdL k st ls = some r) : ∃ v, ls[k]? = some (.val (.long v)) ∧ r = (.long v :: st, ls) := by
  unfold oLdL at q
  split at q
  · next v hv => exact ⟨v, hv, (Option.some.inj q).symm⟩
  · cases q
theorem oLdA_inv {k : Nat} {r : List Value × Array Slot} (q : oLdA k st ls = some r) : ∃ v, ls[k]? = some (.val v) ∧ v.isRef = true ∧ r = (v :: st, ls) := by
  unfold oLdA at q
  split at q
  · next v hv => exact ⟨.ref v, hv, rfl, (Option.some.inj q).symm⟩
  · next hv => exact ⟨.null, hv, rfl, (Option.some.inj q).symm⟩
  · cases q
theorem own_map {o : Option (Array Slot)} {t : List Value} {r : List Value × Array Slot} (q : o.map (fun l' => (t, l')) = some r) : ∃ l', o = some l' ∧ r = (t, l') := by
  cases o with
  | none => cases q
  | some l' => exact ⟨l', rfl, (Option.some.inj q).symm⟩
theorem oStI_inv {k : Nat} {r : List Value × Array Slot} (q : oStI k st ls = some r) : ∃ v t l', st = .int v :: t ∧ storeLocals ls k (.int v) = some l' ∧ r = (t, l') := by
  unfold oStI at q
  split at q
  · obtain ⟨l', h1, h2⟩ := own_map q; exact ⟨_, _, l', rfl, h1, h2⟩
  · cases q
theorem oStL_inv {k : Nat} {r : List Value × Array Slot} (q : oStL k st ls = some r) : ∃ v t l', st = .long v :: t ∧ storeLocals ls k (.long v) = some l' ∧ r = (t, l') := by
  unfold oStL at q
  split at q
  · obtain ⟨l', h1, h2⟩ := own_map q; exact ⟨_, _, l', rfl, h1, h2⟩
  · cases q
theorem oStA_inv {k : Nat} {r : List Value × Array Slot} (q : oStA k st ls = some r) : ∃ v t l', st = v :: t ∧ v.isRef = true ∧ storeLocals ls k v = some l' ∧ r = (t, l') := by
  unfold oStA at q
  split at q
  · obtain ⟨l', h1, h2⟩ := own_map q; exact ⟨_, _, l', rfl, rfl, h1, h2⟩
  · obtain ⟨l', h1, h2⟩ := own_map q; exact ⟨_, _, l', rfl, rfl, h1, h2⟩
  · cases q
theorem oInc_inv {k : Nat} {z : Int} {r : List Value × Array Slot} (q : oInc k z st ls = some r) : ∃ v l', ls[k]? = some (.val (.int v)) ∧ storeLocals ls k (.int (v + Int32.ofInt z)) = some l' ∧ r = (st, l') := by
  unfold oInc at q
  split at q
  · next v hv => obtain ⟨l', h1, h2⟩ := own_map q; exact ⟨v, l', hv, h1, h2⟩
  · cases q
theorem oI2L_inv {r : List Value × Array Slot} (q : oI2L st ls = some r) : ∃ x t, st = .int x :: t ∧ r = (.long x.toInt64 :: t, ls) := by
  unfold oI2L at q
  split at q
  · exact ⟨_, _, rfl, (Option.some.inj q).symm⟩
  · cases q
theorem oL2I_inv {r : List Value × Array Slot} (q : oL2I st ls = some r) : ∃ x t, st = .long x :: t ∧ r = (.int x.toInt32 :: t, ls) := by
  unfold oL2I at q
  split at q
  · exact ⟨_, _, rfl, (Option.some.inj q).symm⟩
  · cases q
theorem oCmp_inv {r : List Value × Array Slot} (q : oCmp st ls = some r) : ∃ x y t, st = .long y :: .long x :: t ∧ r = (.int (XT.cmpL x y) :: t, ls) := by
  unfold oCmp at q
  split at q
  · exact ⟨_, _, _, rfl, (Option.some.inj q).symm⟩
  · cases q
theorem oDup_inv {r : List Value × Array Slot} (q : oDup st ls = some r) : ∃ x t, st = x :: t ∧ x.category = 1 ∧ r = (x :: x :: t, ls) := by
  unfold oDup at q
  split at q
  · exact ⟨_, _, rfl, rfl, (Option.some.inj q).symm⟩
  · exact ⟨_, _, rfl, rfl, (Option.some.inj q).symm⟩
  · cases q
theorem oPop_inv {r : List Value × Array Slot} (q : oPop st ls = some r) : ∃ x t, st = x :: t ∧ x.category = 1 ∧ r = (t, ls) := by
  unfold oPop at q
  split at q
  · exact ⟨_, _, rfl, rfl, (Option.some.inj q).symm⟩
  · exact ⟨_, _, rfl, rfl, (Option.some.inj q).symm⟩
  · exact ⟨_, _, rfl, rfl, (Option.some.inj q).symm⟩
  · cases q
theorem oDupX_inv {r : List Value × Array Slot} (q : oDupX st ls = some r) : ∃ x y t, st = .int x :: .ref y :: t ∧ r = (.int x :: .ref y :: .int x :: t, ls) := by
  unfold oDupX at q
  split at q
  · exact ⟨_, _, _, rfl, (Option.some.inj q).symm⟩
  · cases q
theorem oDup2_inv {r : List Value × Array Slot} (q : oDup2 st ls = some r) : ∃ x y t, st = .int x :: .ref y :: t ∧ r = (.int x :: .ref y :: .int x :: .ref y :: t, ls) := by
  unfold oDup2 at q
  split at q
  · exact ⟨_, _, _, rfl, (Option.some.inj q).symm⟩
  · cases q
theorem oDupX2_inv {r : List Value × Array Slot} (q : oDupX2 st ls = some r) : ∃ x z y t, st = .int x :: .int z :: .ref y :: t ∧ r = (.int x :: .int z :: .ref y :: .int x :: t, ls) := by
  unfold oDupX2 at q
  split at q
  · exact ⟨_, _, _, _, rfl, (Option.some.inj q).symm⟩
  · cases q
theorem own_dupX2 {tb : Tables} [Ours tb] {target : State} {g : JFrame} (h : At T m c below) (hx : tb.exec = Jvm.exec) (hg : g.method = m) {x y z : Value} (hd : decode c.code g.pc = .ok (.dup_x2, 1)) (hs : g.stack = x :: y :: z :: rest) (hc : x.category = 1) (hc' : y.category = 1) (hc2 : z.category = 1)
    (hr : Steps tb e below (T.setTop { g with pc := g.pc + 1, stack := x :: y :: z :: x :: rest }) target) : Steps tb e below (T.setTop g) target := by
  subst hg
  jvm_step h [h.top, hx, hd, hs, hc, hc', hc2]
  exact hr
theorem o_op {i : Instr} (hd : decode bytes pc = .ok (i, oLen i)) (q : opS i st ls = some (st', ls'))
    (k : OG p l e R s m args below meth c Z own nm bytes ml ret Q kc ks h cells slots (mkF m (pc + oLen i) ls' st')) : OG p l e R s m args below meth c Z own nm bytes ml ret Q kc ks h cells slots (mkF m pc ls st) := by
  refine o_pure hd (fun T locs X hx hd t kk => ?_) k
  cases i with
  | iconst z => cases q; exact XS.iconst X.here hx rfl hd kk
  | bipush z => cases q; exact XS.bipush X.here hx rfl hd kk
  | sipush z => cases q; exact XS.sipush X.here hx rfl hd kk
  | lconst z => cases q; exact XT.lconst X.here hx rfl hd kk
  | aconst_null => cases q; exact XS.aconstNull X.here hx rfl hd kk
  | iload z => obtain ⟨v, h1, h3⟩ := oLdI_inv q; cases h3; exact XS.iload X.here hx rfl hd h1 kk
  | iload_n z => obtain ⟨v, h1, h3⟩ := oLdI_inv q; cases h3; exact XS.iloadN X.here hx rfl hd h1 kk
  | lload z => obtain ⟨v, h1, h3⟩ := oLdL_inv q; cases h3; exact XT.lload X.here hx rfl hd h1 kk
  | lload_n z => obtain ⟨v, h1, h3⟩ := oLdL_inv q; cases h3; exact XT.lloadN X.here hx rfl hd h1 kk
  | aload z => obtain ⟨v, h1, h2, h3⟩ := oLdA_inv q; cases h3; exact XS.aload X.here hx rfl hd h1 h2 kk
  | aload_n z => obtain ⟨v, h1, h2, h3⟩ := oLdA_inv q; cases h3; exact XS.aloadN X.here hx rfl hd h1 h2 kk
  | istore z => obtain ⟨v, r, l', rfl, h2, h3⟩ := oStI_inv q; cases h3; exact XS.istore X.here hx rfl hd rfl h2 kk
  | istore_n z => obtain ⟨v, r, l', rfl, h2, h3⟩ := oStI_inv q; cases h3; exact XS.istoreN X.here hx rfl hd rfl h2 kk
  | lstore z => obtain ⟨v, r, l', rfl, h2, h3⟩ := oStL_inv q; cases h3; exact XT.lstore X.here hx rfl hd rfl h2 kk
  | lstore_n z => obtain ⟨v, r, l', rfl, h2, h3⟩ := oStL_inv q; cases h3; exact XT.lstoreN X.here hx rfl hd rfl h2 kk
  | astore z => obtain ⟨v, r, l', rfl, h1, h2, h3⟩ := oStA_inv q; cases h3; exact XS.astore X.here hx rfl hd rfl h1 h2 kk
  | astore_n z => obtain ⟨v, r, l', rfl, h1, h2, h3⟩ := oStA_inv q; cases h3; exact XS.astoreN X.here hx rfl hd rfl h1 h2 kk
  | iinc z y => obtain ⟨v, l', h1, h2, h3⟩ := oInc_inv q; cases h3; exact XS.iinc X.here hx rfl hd h1 h2 kk
  | iadd => obtain ⟨x, y, r, rfl, h3⟩ := oBI_inv q; cases h3; exact XS.iadd X.here hx rfl hd rfl kk
  | isub => obtain ⟨x, y, r, rfl, h3⟩ := oBI_inv q; cases h3; exact XS.isub X.here hx rfl hd rfl kk
  | imul => obtain ⟨x, y, r, rfl, h3⟩ := oBI_inv q; cases h3; exact XS.imul X.here hx rfl hd rfl kk
  | iand => obtain ⟨x, y, r, rfl, h3⟩ := oBI_inv q; cases h3; exact XS.iand X.here hx rfl hd rfl kk
  | ior => obtain ⟨x, y, r, rfl, h3⟩ := oBI_inv q; cases h3; exact XT.ior X.here hx rfl hd rfl kk
  | ixor => obtain ⟨x, y, r, rfl, h3⟩ := oBI_inv q; cases h3; exact XT.ixor X.here hx rfl hd rfl kk
  | ishl => obtain ⟨x, y, r, rfl, h3⟩ := oBI_inv q; cases h3; exact XT.ishl X.here hx rfl hd rfl kk
  | ishr => obtain ⟨x, y, r, rfl, h3⟩ := oBI_inv q; cases h3; exact XT.ishr X.here hx rfl hd rfl kk
  | iushr => obtain ⟨x, y, r, rfl, h3⟩ := oBI_inv q; cases h3; exact XT.iushr X.here hx rfl hd rfl kk
  | ladd => obtain ⟨x, y, r, rfl, h3⟩ := oBL_inv q; cases h3; exact XT.ladd X.here hx rfl hd rfl kk
  | lsub => obtain ⟨x, y, r, rfl, h3⟩ := oBL_inv q; cases h3; exact XT.lsub X.here hx rfl hd rfl kk
  | lmul => obtain ⟨x, y, r, rfl, h3⟩ := oBL_inv q; cases h3; exact XT.lmul X.here hx rfl hd rfl kk
  | land => obtain ⟨x, y, r, rfl, h3⟩ := oBL_inv q; cases h3; exact XT.land X.here hx rfl hd rfl kk
  | lor => obtain ⟨x, y, r, rfl, h3⟩ := oBL_inv q; cases h3; exact XT.lor X.here hx rfl hd rfl kk
  | lxor => obtain ⟨x, y, r, rfl, h3⟩ := oBL_inv q; cases h3; exact XT.lxor X.here hx rfl hd rfl kk
  | lshl => obtain ⟨x, y, r, rfl, h3⟩ := oBLI_inv q; cases h3; exact XT.lshl X.here hx rfl hd rfl kk
  | lshr => obtain ⟨x, y, r, rfl, h3⟩ := oBLI_inv q; cases h3; exact XT.lshr X.here hx rfl hd rfl kk
  | lushr => obtain ⟨x, y, r, rfl, h3⟩ := oBLI_inv q; cases h3; exact XT.lushr X.here hx rfl hd rfl kk
  | i2b => obtain ⟨x, r, rfl, h3⟩ := oUI_inv q; cases h3; exact XT.i2b X.here hx rfl hd rfl kk
  | i2c => obtain ⟨x, r, rfl, h3⟩ := oUI_inv q; cases h3; exact XT.i2c X.here hx rfl hd rfl kk
  | i2s => obtain ⟨x, r, rfl, h3⟩ := oUI_inv q; cases h3; exact XT.i2s X.here hx rfl hd rfl kk
  | ineg => obtain ⟨x, r, rfl, h3⟩ := oUI_inv q; cases h3; exact XS.ineg X.here hx rfl hd rfl kk
  | i2l => obtain ⟨x, r, rfl, h3⟩ := oI2L_inv q; cases h3; exact XT.i2l X.here hx rfl hd rfl kk
  | l2i => obtain ⟨x, r, rfl, h3⟩ := oL2I_inv q; cases h3; exact XT.l2i X.here hx rfl hd rfl kk
  | lcmp => obtain ⟨x, y, r, rfl, h3⟩ := oCmp_inv q; cases h3; exact XT.lcmp X.here hx rfl hd rfl kk
  | dup => obtain ⟨x, r, rfl, hc, h3⟩ := oDup_inv q; cases h3; exact XS.dup X.here hx rfl hd rfl hc kk
  | pop => obtain ⟨x, r, rfl, hc, h3⟩ := oPop_inv q; cases h3; exact XT.pop X.here hx rfl hd rfl hc kk
  | dup_x1 => obtain ⟨x, y, r, rfl, h3⟩ := oDupX_inv q; cases h3; exact XT.dupX1 X.here hx rfl hd rfl rfl rfl kk
  | dup2 => obtain ⟨x, y, r, rfl, h3⟩ := oDup2_inv q; cases h3; exact XT.dup2 X.here hx rfl hd rfl rfl rfl kk
  | dup_x2 => obtain ⟨x, z, y, r, rfl, h3⟩ := oDupX2_inv q; cases h3; exact own_dupX2 X.here hx rfl hd rfl rfl rfl rfl kk
  | _ => cases q
theorem o_blk : ∀ {is : List Instr} {pc : Nat} {st : List Value} {ls : Array Slot}, oBlk bytes pc is = some pc' → oRun is st ls = some (st', ls') →
    OG p l e R s m args below meth c Z own nm bytes ml ret Q kc ks h cells slots (mkF m pc' ls' st') → OG p l e R s m args below meth c Z own nm bytes ml ret Q kc ks h cells slots (mkF m pc ls st)
  | [], pc, st, ls, hb, hr, k => by
    cases hb; cases hr; exact k
  | i :: is, pc, st, ls, hb, hr, k => by
    unfold oBlk at hb
    split at hb
    · next hd =>
      unfold oRun at hr
      split at hr
      · next st1 ls1 hq => exact o_op hd hq (o_blk hb hr k)
      · cases hr
    · cases hb
/-! branches -/
def oC : ClassFile.Cond → Int32 → Int32 → Prop
  | .eq, x, y => x = y
  | .ne, x, y => ¬ x = y
  | .lt, x, y => x < y
  | .ge, x, y => ¬ x < y
  | .gt, x, y => y < x
  | .le, x, y => ¬ y < x
def oCn : ClassFile.Cond → Int32 → Int32 → Prop
  | .eq, x, y => ¬ x = y
  | .ne, x, y => x = y
  | .lt, x, y => ¬ x < y
  | .ge, x, y => x < y
  | .gt, x, y => ¬ y < x
  | .le, x, y => y < x
theorem oC_yes {cd : ClassFile.Cond} {x y : Int32} (q : oC cd x y) : if_icmp.holds cd x y = true := by
  cases cd
  · exact (teq q).1
  · exact (feq q).2
  · exact (tlt q).1
  · exact (flt q).2.1
  · exact (tlt q).2.2.1
  · exact (flt q).2.2.2
theorem oC_no {cd : ClassFile.Cond} {x y : Int32} (q : oCn cd x y) : if_icmp.holds cd x y = false := by
  cases cd
  · exact (feq q).1
  · exact (teq q).2
  · exact (flt q).1
  · exact (tlt q).2.1
  · exact (flt q).2.2.1
  · exact (tlt q).2.2.2
theorem oC_or (cd : ClassFile.Cond) (x y : Int32) : oC cd x y ∨ oCn cd x y := by
  cases cd
  · exact Classical.em _
  · exact (Classical.em (x = y)).symm
  · exact Classical.em _
  · exact (Classical.em (x < y)).symm
  · exact Classical.em _
  · exact (Classical.em (y < x)).symm
theorem o_ifY {cd : ClassFile.Cond} {o : Int} {x : Int32} (hd : decode bytes pc = .ok (.ifCond cd o, 3)) (ho : 0 ≤ (pc : Int) + o) (hp : ((pc : Int) + o).toNat = pc') (hc : oC cd x 0)
    (k : OG p l e R s m args below meth c Z own nm bytes ml ret Q kc ks h cells slots (mkF m pc' ls rest)) : OG p l e R s m args below meth c Z own nm bytes ml ret Q kc ks h cells slots (mkF m pc ls (.int x :: rest)) :=
  o_pure hd (fun T locs X hx hd t kk => XS.ifYes X.here hx rfl (pc0 := pc) rfl hd rfl (by rw [if0]; exact oC_yes hc) ho hp kk) k
theorem o_ifN {cd : ClassFile.Cond} {o : Int} {x : Int32} (hd : decode bytes pc = .ok (.ifCond cd o, 3)) (hp : pc + 3 = pc') (hc : oCn cd x 0)
    (k : OG p l e R s m args below meth c Z own nm bytes ml ret Q kc ks h cells slots (mkF m pc' ls rest)) : OG p l e R s m args below meth c Z own nm bytes ml ret Q kc ks h cells slots (mkF m pc ls (.int x :: rest)) :=
  o_pure hd (fun T locs X hx hd t kk => XS.ifNo X.here hx rfl hd rfl (by rw [if0]; exact oC_no hc) (by subst hp; exact kk)) k
theorem o_if {cd : ClassFile.Cond} {o : Int} {x : Int32} {pc'' : Nat} (hd : decode bytes pc = .ok (.ifCond cd o, 3)) (ho : 0 ≤ (pc : Int) + o) (hp : ((pc : Int) + o).toNat = pc') (hp' : pc + 3 = pc'')
    (ky : oC cd x 0 → OG p l e R s m args below meth c Z own nm bytes ml ret Q kc ks h cells slots (mkF m pc' ls rest)) (kn : oCn cd x 0 → OG p l e R s m args below meth c Z own nm bytes ml ret Q kc ks h cells slots (mkF m pc'' ls rest)) : OG p l e R s m args below meth c Z own nm bytes ml ret Q kc ks h cells slots (mkF m pc ls (.int x :: rest)) :=
  (oC_or cd x 0).elim (fun q => o_ifY hd ho hp q (ky q)) (fun q => o_ifN hd hp' q (kn q))
theorem o_icY {cd : ClassFile.Cond} {o : Int} {x y : Int32} (hd : decode bytes pc = .ok (.if_icmp cd o, 3)) (ho : 0 ≤ (pc : Int) + o) (hp : ((pc : Int) + o).toNat = pc') (hc : oC cd x y)
    (k : OG p l e R s m args below meth c Z own nm bytes ml ret Q kc ks h cells slots (mkF m pc' ls rest)) : OG p l e R s m args below meth c Z own nm bytes ml ret Q kc ks h cells slots (mkF m pc ls (.int y :: .int x :: rest)) :=
  o_pure hd (fun T locs X hx hd t kk => XS.icmpYes X.here hx rfl (pc0 := pc) rfl hd rfl (oC_yes hc) ho hp kk) k
theorem o_icN {cd : ClassFile.Cond} {o : Int} {x y : Int32} (hd : decode bytes pc = .ok (.if_icmp cd o, 3)) (hp : pc + 3 = pc') (hc : oCn cd x y)
    (k : OG p l e R s m args below meth c Z own nm bytes ml ret Q kc ks h cells slots (mkF m pc' ls rest)) : OG p l e R s m args below meth c Z own nm bytes ml ret Q kc ks h cells slots (mkF m pc ls (.int y :: .int x :: rest)) :=
  o_pure hd (fun T locs X hx hd t kk => XS.icmpNo X.here hx rfl hd rfl (oC_no hc) (by subst hp; exact kk)) k
theorem o_ic {cd : ClassFile.Cond} {o : Int} {x y : Int32} {pc'' : Nat} (hd : decode bytes pc = .ok (.if_icmp cd o, 3)) (ho : 0 ≤ (pc : Int) + o) (hp : ((pc : Int) + o).toNat = pc') (hp' : pc + 3 = pc'')
    (ky : oC cd x y → OG p l e R s m args below meth c Z own nm bytes ml ret Q kc ks h cells slots (mkF m pc' ls rest)) (kn : oCn cd x y → OG p l e R s m args below meth c Z own nm bytes ml ret Q kc ks h cells slots (mkF m pc'' ls rest)) : OG p l e R s m args below meth c Z own nm bytes ml ret Q kc ks h cells slots (mkF m pc ls (.int y :: .int x :: rest)) :=
  (oC_or cd x y).elim (fun q => o_icY hd ho hp q (ky q)) (fun q => o_icN hd hp' q (kn q))
def oA : ClassFile.ACond → Value → Value → Prop
  | .eq, x, y => x = y
  | .ne, x, y => ¬ x = y
def oAn : ClassFile.ACond → Value → Value → Prop
  | .eq, x, y => ¬ x = y
  | .ne, x, y => x = y
theorem o_acY {cd : ClassFile.ACond} {o : Int} {x y : Value} (hd : decode bytes pc = .ok (.if_acmp cd o, 3)) (hx' : x.isRef = true) (hy' : y.isRef = true) (ho : 0 ≤ (pc : Int) + o) (hp : ((pc : Int) + o).toNat = pc') (hc : oA cd x y)
    (k : OG p l e R s m args below meth c Z own nm bytes ml ret Q kc ks h cells slots (mkF m pc' ls rest)) : OG p l e R s m args below meth c Z own nm bytes ml ret Q kc ks h cells slots (mkF m pc ls (y :: x :: rest)) :=
  o_pure hd (fun T locs X hx hd t kk => XT.acmpYes X.here hx rfl (pc0 := pc) rfl hd rfl hx' hy' (by cases cd <;> exact decide_eq_true hc) ho hp kk) k
theorem o_acN {cd : ClassFile.ACond} {o : Int} {x y : Value} (hd : decode bytes pc = .ok (.if_acmp cd o, 3)) (hx' : x.isRef = true) (hy' : y.isRef = true) (hp : pc + 3 = pc') (hc : oAn cd x y)
    (k : OG p l e R s m args below meth c Z own nm bytes ml ret Q kc ks h cells slots (mkF m pc' ls rest)) : OG p l e R s m args below meth c Z own nm bytes ml ret Q kc ks h cells slots (mkF m pc ls (y :: x :: rest)) :=
  o_pure hd (fun T locs X hx hd t kk => XT.acmpNo X.here hx rfl hd rfl hx' hy' (by cases cd <;> first | exact decide_eq_false hc | exact decide_eq_false (fun q => q hc)) (by subst hp; exact kk)) k
theorem o_goto {o : Int} (hd : decode bytes pc = .ok (.goto o, 3)) (ho : 0 ≤ (pc : Int) + o) (hp : ((pc : Int) + o).toNat = pc')
    (k : OG p l e R s m args below meth c Z own nm bytes ml ret Q kc ks h cells slots (mkF m pc' ls st)) : OG p l e R s m args below meth c Z own nm bytes ml ret Q kc ks h cells slots (mkF m pc ls st) :=
  o_pure hd (fun T locs X hx hd t kk => XS.goto X.here hx rfl (pc0 := pc) rfl hd ho hp kk) k
theorem o_irem {x y : Int32} (hd : decode bytes pc = .ok (.irem, 1)) (hy : y ≠ 0) (hp : pc + 1 = pc')
    (k : OG p l e R s m args below meth c Z own nm bytes ml ret Q kc ks h cells slots (mkF m pc' ls (.int (x % y) :: rest))) : OG p l e R s m args below meth c Z own nm bytes ml ret Q kc ks h cells slots (mkF m pc ls (.int y :: .int x :: rest)) :=
  o_pure hd (fun T locs X hx hd t kk => iremM X hx rfl hd rfl hy (by subst hp; exact kk)) k
theorem o_idiv {x y : Int32} (hd : decode bytes pc = .ok (.idiv, 1)) (hy : y ≠ 0) (hp : pc + 1 = pc')
    (k : OG p l e R s m args below meth c Z own nm bytes ml ret Q kc ks h cells slots (mkF m pc' ls (.int (x / y) :: rest))) : OG p l e R s m args below meth c Z own nm bytes ml ret Q kc ks h cells slots (mkF m pc ls (.int y :: .int x :: rest)) :=
  o_pure hd (fun T locs X hx hd t kk => XS.idiv X.here hx rfl hd rfl hy (by subst hp; exact kk)) k
/-! constants, statics -/
theorem o_ldc {index : Nat} {v : Int32} (w : (Cond.constant own index v).before a0 Z = true) (hd : decode bytes pc = .ok (.ldc index, 2)) (hp : pc + 2 = pc')
    (k : OG p l e R s m args below meth c Z own nm bytes ml ret Q kc ks h cells slots (mkF m pc' ls (.int v :: st))) : OG p l e R s m args below meth c Z own nm bytes ml ret Q kc ks h cells slots (mkF m pc ls st) := by
  intro C T locs X eT N
  refine OGoal.via (fun t kk => X.ldcInt C.1 C.2.2.1 (mvT C.2.1 w) (g := mkF m pc ls st) rfl (hb C.2.2.2.1 hd) t ?_) (k C T locs X eT N)
  subst hp
  exact kk
theorem o_ldc2 {index : Nat} {v : Int64} (w : (Cond.constantLong own index v).before a0 Z = true) (hd : decode bytes pc = .ok (.ldc2_w index, 3)) (hp : pc + 3 = pc')
    (k : OG p l e R s m args below meth c Z own nm bytes ml ret Q kc ks h cells slots (mkF m pc' ls (.long v :: st))) : OG p l e R s m args below meth c Z own nm bytes ml ret Q kc ks h cells slots (mkF m pc ls st) := by
  intro C T locs X eT N
  refine OGoal.via (fun t kk => X.ldc2Long C.1 C.2.2.1 (mvT C.2.1 w) (g := mkF m pc ls st) rfl (hb C.2.2.2.1 hd) t ?_) (k C T locs X eT N)
  subst hp
  exact kk
theorem o_getS {O n d : String} {index : Nat} {v : Value} (w : (Cond.fieldLink own index O n d).before a0 Z = true) (F : Sta Z Z.heap O n d v) (hd : decode bytes pc = .ok (.getstatic index, 3)) (hp : pc + 3 = pc')
    (k : OG p l e R s m args below meth c Z own nm bytes ml ret Q kc ks h cells slots (mkF m pc' ls (v :: st))) : OG p l e R s m args below meth c Z own nm bytes ml ret Q kc ks h cells slots (mkF m pc ls st) := by
  intro C T locs X eT N
  obtain ⟨T', X', e', stp⟩ := getS (host := "") X C.1 C.2.1 C.2.2.1 w Via.refl eT (F.ext (eT ▸ own_ext X C.2.2.2.2.2.2.2.2 N)) (g := mkF m pc ls st) rfl (hb C.2.2.2.1 hd)
  subst hp
  exact OGoal.via stp (k C T' locs X' e' N)
/-! returns -/
theorem own_end {v : Option Value} {S : State} (X : Stand p l e R s m args below meth c T locs cells slots) (hlk : meth.locks = false) (hv : meth.sig.returnType = none → v = none) (hc : cells ≤ kc) (hs : slots ≤ ks) (N : Fr Z.heap.size locs) (eT : T.heap = h) (hq : Q v h)
    (stp : ∀ fs, (∀ (f : JFrame) (acts : List Action), f.method = m → f.locked = none → f.entered = [] → (doReturn e (T.setTop f) acts v).1 = T.setFrames fs) → Steps p.tables e below S (T.setFrames fs)) : OGoal p e below s kc ks Z.heap.size Q S := by
  obtain ⟨fs, hr, hrun, hended, hW, hsame⟩ := X.leave (v := v) hv hlk
  exact ⟨_, _, stp fs hr, hrun, hended, v, locs, rfl, ⟨⟨by rw [show (T.setFrames fs).heap = h from eT]; exact hq, X.same.2.1⟩, N⟩, ⟨v, rfl⟩, hW, hsame.mono hc hs⟩
theorem o_retI {z : Int32} (hd : decode bytes pc = .ok (.ireturn, 1)) (hc : cells ≤ kc) (hs : slots ≤ ks) (hr : ret = some .int) (hq : Q (some (.int z)) h) : OG p l e R s m args below meth c Z own nm bytes ml ret Q kc ks h cells slots (mkF m pc ls (.int z :: rest)) := by
  intro C T locs X eT N
  have hR : meth.sig.returnType = some .int := C.2.2.2.2.2.1.trans hr
  exact own_end X C.2.2.2.2.2.2.1 (fun q => by rw [hR] at q; cases q) hc hs N eT hq (fun fs hl => retOut X C.1 hR rfl (Or.inl ⟨rfl, Or.inl rfl, z, rfl⟩) (hb C.2.2.2.1 hd) hl)
theorem o_retZ {z w : Int32} (hd : decode bytes pc = .ok (.ireturn, 1)) (hc : cells ≤ kc) (hs : slots ≤ ks) (hr : ret = some .boolean) (hz : z = 0 ∨ z = 1) (hq : Q (some (.int z)) h) : OG p l e R s m args below meth c Z own nm bytes ml ret Q kc ks h cells slots (mkF m pc ls (.int z :: rest)) := by
  intro C T locs X eT N
  have hR : meth.sig.returnType = some .boolean := C.2.2.2.2.2.1.trans hr
  have hn : nar .boolean z = z := by rcases hz with rfl | rfl <;> rfl
  exact own_end X C.2.2.2.2.2.2.1 (fun q => by rw [hR] at q; cases q) hc hs N eT hq (fun fs hl => retN X C.1 hR (Or.inl rfl) (hb C.2.2.2.1 hd) (by rw [hn]; exact hl))
theorem o_retL {z : Int64} (hd : decode bytes pc = .ok (.lreturn, 1)) (hc : cells ≤ kc) (hs : slots ≤ ks) (hr : ret = some .long) (hq : Q (some (.long z)) h) : OG p l e R s m args below meth c Z own nm bytes ml ret Q kc ks h cells slots (mkF m pc ls (.long z :: rest)) := by
  intro C T locs X eT N
  have hR : meth.sig.returnType = some .long := C.2.2.2.2.2.1.trans hr
  exact own_end X C.2.2.2.2.2.2.1 (fun q => by rw [hR] at q; cases q) hc hs N eT hq (fun fs hl => retOut X C.1 hR rfl (Or.inr (Or.inl ⟨rfl, rfl, z, rfl⟩)) (hb C.2.2.2.1 hd) hl)
theorem o_retA {w : Value} {t : FieldType} (hd : decode bytes pc = .ok (.areturn, 1)) (hc : cells ≤ kc) (hs : slots ≤ ks) (hr : ret = some t) (ht : t.isReference = true) (hw : w.isRef = true) (hq : Q (some w) h) : OG p l e R s m args below meth c Z own nm bytes ml ret Q kc ks h cells slots (mkF m pc ls (w :: rest)) := by
  intro C T locs X eT N
  have hR : meth.sig.returnType = some t := C.2.2.2.2.2.1.trans hr
  have hn : narrow t w = w := by cases t <;> first | rfl | (cases ht; done)
  exact own_end X C.2.2.2.2.2.2.1 (fun q => by rw [hR] at q; cases q) hc hs N eT hq (fun fs hl => retOut X C.1 hR hn (Or.inr (Or.inr (Or.inr (Or.inr ⟨rfl, ht, hw⟩)))) (hb C.2.2.2.1 hd) hl)
theorem o_retV (hd : decode bytes pc = .ok (.return_, 1)) (hc : cells ≤ kc) (hs : slots ≤ ks) (hr : ret = none) (hq : Q none h) : OG p l e R s m args below meth c Z own nm bytes ml ret Q kc ks h cells slots (mkF m pc ls []) := by
  intro C T locs X eT N
  exact own_end X C.2.2.2.2.2.2.1 (fun _ => rfl) hc hs N eT hq (fun fs hl => X.returnOut C.1 (C.2.2.2.2.2.1.trans hr) (hb C.2.2.2.1 hd) hl)
/-! calls -/
theorem o_callS {index yl W : Nat} {y : MethodName} {yb : ByteArray} {yr : Option FieldType} {rm : Room} {yQ : Option Value → Heap → Prop} {argsL : List Value} {ps : List FieldType} {yr' : Option FieldType}
    (w1 : (Cond.methodLink own index y).before a0 Z = true) (w2 : (Cond.static y).before a0 Z = true) (w3 : (Cond.initialized y.cls).before a0 Z = true) (w4 : (Cond.code y yb yl yr).before a0 Z = true)
    (hy : y.cls ≠ "java/lang/invoke/MethodHandle" ∧ y.cls ≠ "java/lang/invoke/VarHandle") (K : Ext Z.heap h → OCtr l Z y yb yl yr rm argsL.toArray h yQ) (hd : decode bytes pc = .ok (.invokestatic index, 3))
    (hpd : parseMethodDescriptor y.desc = some ⟨ps, yr'⟩) (hpl : argsL.length = ps.length) (hsz : ls.size = ml) (hst : st = argsL.reverse ++ rest) (hW : (rest.map fun v => v.category).sum ≤ W)
    (hf : rm.frames + 1 ≤ R.frames) (hl : W + (yl + 11) + rm.locals ≤ R.locals) (hcc : cells + rm.cells ≤ R.cells) (hss : slots + rm.slots ≤ R.slots) (hp : pc + 3 = pc')
    (k : ∀ v h', yQ v h' → h.size ≤ h'.size → OG p l e R s m args below meth c Z own nm bytes ml ret Q kc ks h' (cells + rm.cells) (slots + rm.slots) (mkF m pc' ls (v.toList ++ rest))) : OG p l e R s m args below meth c Z own nm bytes ml ret Q kc ks h cells slots (mkF m pc ls st) := by
  intro C T locs X eT N
  have hE : Ext Z.heap h := eT ▸ own_ext X C.2.2.2.2.2.2.2.2 N
  obtain ⟨v, vm₁, ⟨T', L', k', n'⟩, -, X', ⟨L, ⟨hQ, hN⟩, e1, e2, e3⟩, stp⟩ := Jvm.LawKit.callS X C.1 (y := y) C.2.2.1 (mvT C.2.1 w1) (mvT C.2.1 w2) (mvT C.2.1 w3) (mvT C.2.1 w4) hy
    (backOf (W := W) (Q := fun v h2 L => (yQ v h2 ∧ h.size ≤ h2.size) ∧ Fr Z.heap.size L) (K hE []) C.2.1 w4 w3 hf hl) (g := mkF m pc ls st) rfl (hsz.trans C.2.2.2.2.1.symm) (argsL := argsL) (rest := rest) (lenOf hpd hpl) hst (by show 2 * 0 + _ ≤ _; rw [Nat.mul_zero, Nat.zero_add]; exact hW) (hb C.2.2.2.1 hd) (fun _ _ => ⟨rfl, eT, hcc, hss⟩)
  dsimp only [Pt.U, Pt.locs, Pt.cells, Pt.slots] at X' e1 e2 e3 hQ stp
  subst e1 e2 e3 hp
  exact OGoal.via stp (k v T'.heap hQ.1 hQ.2 C T' _ X' rfl (Fr.app N hN))
theorem o_callV {index yl W : Nat} {C0 C1 : String} {y z : MethodName} {yb : ByteArray} {yr : Option FieldType} {rm : Room} {yQ : Option Value → Heap → Prop} {a : Addr} {argsL : List Value} {ps : List FieldType} {yr' : Option FieldType}
    (w1 : (Cond.methodLink own index y).before a0 Z = true) (w2 : (Cond.declares y).before a0 Z = true) (w3 : (Cond.selects C0 y z).before a0 Z = true) (wf : (Cond.selects C1 y y).before a0 Z = true) (w4 : (Cond.instanceMethod z).before a0 Z = true) (w5 : (Cond.code z yb yl yr).before a0 Z = true) (w6 : (Cond.initialized z.cls).before a0 Z = true)
    (hy : y.cls ≠ "java/lang/invoke/MethodHandle" ∧ y.cls ≠ "java/lang/invoke/VarHandle") (E : Exa Z h a C0) (K : Ext Z.heap h → OCtr l Z z yb yl yr rm (.ref a :: argsL).toArray h yQ) (hd : decode bytes pc = .ok (.invokevirtual index, 3))
    (hpd : parseMethodDescriptor y.desc = some ⟨ps, yr'⟩) (hpl : argsL.length = ps.length) (hsz : ls.size = ml) (hst : st = argsL.reverse ++ .ref a :: rest) (hW : (rest.map fun v => v.category).sum ≤ W)
    (hf : rm.frames + 1 ≤ R.frames) (hl : W + (yl + 11) + rm.locals ≤ R.locals) (hcc : cells + rm.cells ≤ R.cells) (hss : slots + rm.slots ≤ R.slots) (hp : pc + 3 = pc')
    (k : ∀ v h', yQ v h' → h.size ≤ h'.size → OG p l e R s m args below meth c Z own nm bytes ml ret Q kc ks h' (cells + rm.cells) (slots + rm.slots) (mkF m pc' ls (v.toList ++ rest))) : OG p l e R s m args below meth c Z own nm bytes ml ret Q kc ks h cells slots (mkF m pc ls st) := by
  intro C T locs X eT N
  have hE : Ext Z.heap h := eT ▸ own_ext X C.2.2.2.2.2.2.2.2 N
  obtain ⟨cq, kq, qa, qb, qc⟩ := isOf C.2.1 eT E
  obtain ⟨v, vm₁, ⟨T', L', k', n'⟩, -, X', ⟨L, ⟨hQ, hN⟩, e1, e2, e3⟩, stp⟩ := X.virtualBack C.1 (y := y) (z := z) C.2.2.1 (mvT C.2.1 w1) (mvT C.2.1 w2) (notFace_of_selects (args := #[]) (mvT C.2.1 wf)) (mvT C.2.1 w3) (mvT C.2.1 w4) hy
    (backOf (W := W) (Q := fun v h2 L => (yQ v h2 ∧ h.size ≤ h2.size) ∧ Fr Z.heap.size L) (K hE []) C.2.1 w5 w6 hf hl) qa qc (g := mkF m pc ls st) rfl (hsz.trans C.2.2.2.2.1.symm) (Steps.refl _) (argsL := argsL) (rest := rest) (lenOf hpd hpl) hst (by show 2 * 0 + _ ≤ _; rw [Nat.mul_zero, Nat.zero_add]; exact hW) (hb C.2.2.2.1 hd) (fun _ _ => ⟨rfl, eT, hcc, hss⟩)
  dsimp only [Pt.U, Pt.locs, Pt.cells, Pt.slots] at X' e1 e2 e3 hQ stp
  subst e1 e2 e3 hp
  exact OGoal.via (fun t kk => stp.trans kk) (k v T'.heap hQ.1 hQ.2 C T' _ X' rfl (Fr.app N hN))
theorem o_callI {index yl W : Nat} {y : MethodName} {yb : ByteArray} {rm : Room} {yQ : Option Value → Heap → Prop} {a : Addr} {argsL : List Value} {ps : List FieldType} {yr' : Option FieldType}
    (hyn : y.name = "<init>") (w1 : (Cond.methodLink own index y).before a0 Z = true) (w4 : (Cond.instanceMethod y).before a0 Z = true) (w5 : (Cond.code y yb yl none).before a0 Z = true) (w6 : (Cond.initialized y.cls).before a0 Z = true)
    (hy : y.cls ≠ "java/lang/invoke/MethodHandle" ∧ y.cls ≠ "java/lang/invoke/VarHandle") (K : Ext Z.heap h → OCtr l Z y yb yl none rm (.ref a :: argsL).toArray h yQ) (hd : decode bytes pc = .ok (.invokespecial index, 3))
    (hpd : parseMethodDescriptor y.desc = some ⟨ps, yr'⟩) (hpl : argsL.length = ps.length) (hsz : ls.size = ml) (hst : st = argsL.reverse ++ .ref a :: rest) (hW : (rest.map fun v => v.category).sum ≤ W)
    (hf : rm.frames + 1 ≤ R.frames) (hl : W + (yl + 11) + rm.locals ≤ R.locals) (hcc : cells + rm.cells ≤ R.cells) (hss : slots + rm.slots ≤ R.slots) (hp : pc + 3 = pc')
    (k : ∀ v h', yQ v h' → h.size ≤ h'.size → OG p l e R s m args below meth c Z own nm bytes ml ret Q kc ks h' (cells + rm.cells) (slots + rm.slots) (mkF m pc' ls (v.toList ++ rest))) : OG p l e R s m args below meth c Z own nm bytes ml ret Q kc ks h cells slots (mkF m pc ls st) := by
  intro C T locs X eT N
  have hE : Ext Z.heap h := eT ▸ own_ext X C.2.2.2.2.2.2.2.2 N
  obtain ⟨v, vm₁, ⟨T', L', k', n'⟩, -, X', ⟨L, ⟨hQ, hN⟩, e1, e2, e3⟩, stp⟩ := X.specialBack C.1 (y := y) hyn C.2.2.1 (mvT C.2.1 w1) (mvT C.2.1 w4) (mvT C.2.1 w5) hy
    (backOf (W := W) (Q := fun v h2 L => (yQ v h2 ∧ h.size ≤ h2.size) ∧ Fr Z.heap.size L) (K hE []) C.2.1 w5 w6 hf hl) (g := mkF m pc ls st) rfl (hsz.trans C.2.2.2.2.1.symm) (Steps.refl _) (a := a) (argsL := argsL) (rest := rest) (lenOf hpd hpl) hst (by show 2 * 0 + _ ≤ _; rw [Nat.mul_zero, Nat.zero_add]; exact hW) (hb C.2.2.2.1 hd) (fun _ _ => ⟨rfl, eT, hcc, hss⟩)
  dsimp only [Pt.U, Pt.locs, Pt.cells, Pt.slots] at X' e1 e2 e3 hQ stp
  subst e1 e2 e3 hp
  exact OGoal.via (fun t kk => stp.trans kk) (k v T'.heap hQ.1 hQ.2 C T' _ X' rfl (Fr.app N hN))
theorem o_initO {index W : Nat} {a : Addr} (w1 : (Cond.methodLink own index Lib.objectInit).before a0 Z = true) (w2 : (Cond.instanceMethod Lib.objectInit).before a0 Z = true) (w3 : (Cond.code Lib.objectInit ⟨#[0xb1]⟩ 1 none).before a0 Z = true)
    (hd : decode bytes pc = .ok (.invokespecial index, 3)) (hsz : ls.size = ml) (hW : (rest.map fun v => v.category).sum ≤ W) (hf : 1 ≤ R.frames) (hl : W + 12 ≤ R.locals) (hp : pc + 3 = pc')
    (k : OG p l e R s m args below meth c Z own nm bytes ml ret Q kc ks h cells slots (mkF m pc' ls rest)) : OG p l e R s m args below meth c Z own nm bytes ml ret Q kc ks h cells slots (mkF m pc ls (.ref a :: rest)) := by
  intro C T locs X eT N
  obtain ⟨T', X', e', stp⟩ := initO X C.1 C.2.1 C.2.2.1 w1 w2 w3 eT (g := mkF m pc ls (.ref a :: rest)) rfl (hsz.trans C.2.2.2.2.1.symm) rfl (hb C.2.2.2.1 hd) hf (W := W) (by show 2 * 0 + _ ≤ _; rw [Nat.mul_zero, Nat.zero_add]; exact hW) hl
  subst hp
  exact OGoal.via stp (k C T' locs X' e' N)
/-! objects -/
theorem o_getF {O n d host : String} {index : Nat} {a : Addr} {v : Value} (w : (Cond.fieldLink own index O n d).before a0 Z = true ∨ (Cond.fieldLinkNest own index O n d host).before a0 Z = true) (F : Fld Z h a O n d v) (hd : decode bytes pc = .ok (.getfield index, 3)) (hp : pc + 3 = pc')
    (k : OG p l e R s m args below meth c Z own nm bytes ml ret Q kc ks h cells slots (mkF m pc' ls (v :: rest))) : OG p l e R s m args below meth c Z own nm bytes ml ret Q kc ks h cells slots (mkF m pc ls (.ref a :: rest)) := by
  intro C T locs X eT N
  obtain ⟨T', X', e', stp⟩ := getF X C.1 C.2.1 C.2.2.1 w Via.refl eT F (g := mkF m pc ls (.ref a :: rest)) rfl rfl (hb C.2.2.2.1 hd)
  subst hp
  exact OGoal.via stp (k C T' locs X' e' N)
theorem o_putF {O n d host C0 : String} {index kk : Nat} {ty : FieldType} {a : Addr} {v old : Value} (w : (Cond.fieldLink own index O n d).before a0 Z = true ∨ (Cond.fieldLinkNest own index O n d host).before a0 Z = true) (F : Fld Z h a O n d old) (E : Exa Z h a C0)
    (L : (Cond.lays C0 O n d).before a0 Z = true ∨ ((Cond.laysFinal C0 O n d).before a0 Z = true ∧ own = O ∧ nm = "<init>")) (wi : (Cond.instantiable C0 kk).before a0 Z = true) (hty : parseFieldDescriptor d = some ty) (hn : narrow ty v = v) (hf : fits ty v = true) (ha : Z.heap.size ≤ a)
    (hd : decode bytes pc = .ok (.putfield index, 3)) (hp : pc + 3 = pc')
    (k : ∀ h', Wr h h' a (Jvm.RoadKit.slotOf Z O n d) v → OG p l e R s m args below meth c Z own nm bytes ml ret Q kc ks h' cells slots (mkF m pc' ls rest)) : OG p l e R s m args below meth c Z own nm bytes ml ret Q kc ks h cells slots (mkF m pc ls (v :: .ref a :: rest)) := by
  intro C T locs X eT N
  obtain ⟨T', h', X', e', W', stp⟩ := putF X C.1 C.2.1 C.2.2.1 w Via.refl eT F E (L.imp id fun q => ⟨q.1, q.2.1, C.2.2.2.2.2.2.2.1.trans q.2.2⟩) wi hty hn hf (g := mkF m pc ls (v :: .ref a :: rest)) rfl rfl (hb C.2.2.2.1 hd)
  subst hp
  exact OGoal.via stp (k h' W' C T' _ X' e' (Fr.snoc X' N ha))
theorem o_newO {C0 : String} {index n : Nat} (w : (Cond.classLink own index C0).before a0 Z = true) (wi : (Cond.instantiable C0 n).before a0 Z = true) (wz : (Cond.initialized C0).before a0 Z = true) (hd : decode bytes pc = .ok (.new index, 3)) (hc : cells + 1 ≤ R.cells) (hl : slots + n ≤ R.slots) (hp : pc + 3 = pc')
    (k : ∀ h' a, a = h.size → Z.heap.size ≤ a → Ext h h' → Exa Z h' a C0 → (∀ {O nm d : String} {ty : FieldType}, Laid Z a0 C0 O nm d → parseFieldDescriptor d = some ty → Fld Z h' a O nm d (defaultValue ty)) → OG p l e R s m args below meth c Z own nm bytes ml ret Q kc ks h' (cells + 1) (slots + n) (mkF m pc' ls (.ref a :: st))) : OG p l e R s m args below meth c Z own nm bytes ml ret Q kc ks h cells slots (mkF m pc ls st) := by
  intro C T locs X eT N
  have hE : Ext Z.heap h := eT ▸ own_ext X C.2.2.2.2.2.2.2.2 N
  obtain ⟨T', h', X', e', E', A', D', -, stp⟩ := newO X C.1 C.2.1 C.2.2.1 w wi wz eT (g := mkF m pc ls st) rfl (hb C.2.2.2.1 hd) hc hl
  subst hp
  exact OGoal.via stp (k h' h.size rfl hE.1 E' A' D' C T' _ X' e' N)
theorem own_word {L : List Jvm.Cond} {dc : Jvm.Cond} (hw : ∀ d ∈ L, d.before a0 Z = true) (i : Nat) (q : L[i]? = some dc) : dc.before a0 Z = true := hw _ (List.mem_of_getElem? q)
end OwnKit
section ArrKit
variable {p : Program} {l : Launch} {e : Env} {R : Room} {s : State} {m : MethodId} {args : Array Value} {below : List Frame} {meth : Method} {c : Code} {T : State} {locs : List Loc} {cells slots kc ks : Nat} {Z : State} {a0 : Array Value} {own nm : String} {bytes : ByteArray} {ml : Nat} {ret : Option FieldType} {Q : Option Value → Heap → Prop} {h h' : Heap} {pc pc' : Nat} {ls ls' : Array Slot} {st st' rest : List Value} {a b : Addr} {ty : FieldType} {vs : List Value} {k0 : ClassId}
/-- an array, by what it holds -/
def OArr (Z : State) (h : Heap) (a : Addr) (k0 : ClassId) (ty : FieldType) (vs : List Value) : Prop := ∃ cl : Cell, Arr Z h a cl ty ∧ cl.cls = k0 ∧ cl.slots.toList = vs ∧ vs.length < 2 ^ 31
theorem OArr.lt (F : OArr Z h a k0 ty vs) : a < h.size := by obtain ⟨c, A, -⟩ := F; exact A.lt
theorem OArr.ext (F : OArr Z h a k0 ty vs) (E : Ext h h') : OArr Z h' a k0 ty vs := by obtain ⟨c, A, r⟩ := F; exact ⟨c, A.ext E, r⟩
theorem OArr.other {sl : Nat} {v : Value} (F : OArr Z h b k0 ty vs) (W : Wr h h' a sl v) (q : b ≠ a) : OArr Z h' b k0 ty vs := by obtain ⟨c, A, r⟩ := F; exact ⟨c, A.other W q, r⟩
theorem OArr.keep {ws : List Addr} (F : OArr Z h a k0 ty vs) (K : Keep h h' ws) (q : a ∉ ws) : OArr Z h' a k0 ty vs := by obtain ⟨c, A, r⟩ := F; exact ⟨c, ⟨K.2.1 a c A.1 q, A.2⟩, r⟩
theorem OArr.set {i : Nat} {v : Value} (F : OArr Z h a k0 ty vs) (W : Wr h h' a i v) : OArr Z h' a k0 ty (vs.set i v) := by
  obtain ⟨c, A, q0, q1, q2⟩ := F
  refine ⟨_, A.same W, q0, ?_, by rw [List.length_set]; exact q2⟩
  subst q1
  show (c.slots.setIfInBounds i v).toList = _
  rw [Array.toList_setIfInBounds]
theorem own_clamp {i : Nat} (hi : i < 2 ^ 31) : ¬ (Int32.ofNat i < 0) ∧ (Int32.ofNat i).toNatClampNeg = i := by
  have h1 : (Int32.ofNat i).toInt = i := by
    have : (Int32.ofNat i).toInt = Int.bmod i (2 ^ 32) := Int32.toInt_ofNat'
    rw [this, Int.bmod_def]
    omega
  refine ⟨?_, ?_⟩
  · rw [Int32.lt_iff_toInt_lt, h1]
    show ¬ (i : Int) < 0
    omega
  · show (Int32.ofNat i).toInt.toNat = i
    rw [h1]
    rfl
theorem OArr.at {i : Nat} {v : Value} (F : OArr Z h a k0 ty vs) (hv : vs[i]? = some v) : ∃ cl : Cell, Arr Z h a cl ty ∧ ¬ (Int32.ofNat i < 0 ∨ cl.slots.size ≤ (Int32.ofNat i).toNatClampNeg) ∧ cl.slots[(Int32.ofNat i).toNatClampNeg]? = some v ∧ (Int32.ofNat i).toNatClampNeg = i := by
  obtain ⟨c, A, q0, q1, q2⟩ := F
  subst q1
  have hi : i < c.slots.toList.length := (List.getElem?_eq_some_iff.mp hv).1
  obtain ⟨e1, e2⟩ := own_clamp (i := i) (by omega)
  refine ⟨c, A, ?_, ?_, e2⟩
  · rw [e2]
    intro z
    rcases z with z | z
    · exact e1 z
    · rw [Array.length_toList] at hi; omega
  · rw [e2, ← Array.getElem?_toList]; exact hv
theorem own_inn {i n : Nat} {cl : Cell} (hs : cl.slots.toList.length = n) (hn : n < 2 ^ 31) (hi : i < n) : ¬ (Int32.ofNat i < 0 ∨ cl.slots.size ≤ (Int32.ofNat i).toNatClampNeg) ∧ (Int32.ofNat i).toNatClampNeg = i := by
  obtain ⟨e1, e2⟩ := own_clamp (i := i) (by omega)
  refine ⟨?_, e2⟩
  rw [e2]
  intro z
  rcases z with z | z
  · exact e1 z
  · rw [Array.length_toList] at hs; omega
theorem o_len (F : OArr Z h a k0 ty vs) (hd : decode bytes pc = .ok (.arraylength, 1)) (hp : pc + 1 = pc')
    (k : OG p l e R s m args below meth c Z own nm bytes ml ret Q kc ks h cells slots (mkF m pc' ls (.int (Int32.ofNat vs.length) :: rest))) : OG p l e R s m args below meth c Z own nm bytes ml ret Q kc ks h cells slots (mkF m pc ls (.ref a :: rest)) := by
  intro C T locs X eT N
  obtain ⟨cl, A, q0, q1, q2⟩ := F
  subst hp q1
  refine OGoal.via (fun t kk => X.arraylength C.1 (by rw [eT]; exact A.1) (State.isArrayOf_alike C.2.1.alike A.2.1) (g := mkF m pc ls (.ref a :: rest)) rfl rfl (hb C.2.2.2.1 hd) t ?_) (k C T locs X eT N)
  rw [Array.length_toList] at kk
  exact kk
theorem o_iald {i : Nat} {j : Int32} {v : Value} (F : OArr Z h a k0 .int vs) (hj : j = Int32.ofNat i) (hv : vs[i]? = some v) (hd : decode bytes pc = .ok (.iaload, 1)) (hp : pc + 1 = pc')
    (k : OG p l e R s m args below meth c Z own nm bytes ml ret Q kc ks h cells slots (mkF m pc' ls (v :: rest))) : OG p l e R s m args below meth c Z own nm bytes ml ret Q kc ks h cells slots (mkF m pc ls (.int j :: .ref a :: rest)) := by
  intro C T locs X eT N
  subst hj hp
  obtain ⟨cl, A, e1, e2, -⟩ := F.at hv
  exact OGoal.via (fun t kk => X.iaload C.1 (by rw [eT]; exact A.1) (State.isArrayOf_alike C.2.1.alike A.2.1) A.2.2 e1 e2 (g := mkF m pc ls (.int (Int32.ofNat i) :: .ref a :: rest)) rfl rfl (hb C.2.2.2.1 hd) t kk) (k C T locs X eT N)
theorem o_bald {i : Nat} {j : Int32} {v : Value} (F : OArr Z h a k0 .byte vs) (hj : j = Int32.ofNat i) (hv : vs[i]? = some v) (hd : decode bytes pc = .ok (.baload, 1)) (hp : pc + 1 = pc')
    (k : OG p l e R s m args below meth c Z own nm bytes ml ret Q kc ks h cells slots (mkF m pc' ls (v :: rest))) : OG p l e R s m args below meth c Z own nm bytes ml ret Q kc ks h cells slots (mkF m pc ls (.int j :: .ref a :: rest)) := by
  intro C T locs X eT N
  subst hj hp
  obtain ⟨cl, A, e1, e2, -⟩ := F.at hv
  exact OGoal.via (fun t kk => X.baloadBytes C.1 (by rw [eT]; exact A.1) (State.isArrayOf_alike C.2.1.alike A.2.1) A.2.2 e1 e2 (g := mkF m pc ls (.int (Int32.ofNat i) :: .ref a :: rest)) rfl rfl (hb C.2.2.2.1 hd) t kk) (k C T locs X eT N)
theorem o_zald {i : Nat} {j : Int32} {v : Value} (F : OArr Z h a k0 .boolean vs) (hj : j = Int32.ofNat i) (hv : vs[i]? = some v) (hd : decode bytes pc = .ok (.baload, 1)) (hp : pc + 1 = pc')
    (k : OG p l e R s m args below meth c Z own nm bytes ml ret Q kc ks h cells slots (mkF m pc' ls (v :: rest))) : OG p l e R s m args below meth c Z own nm bytes ml ret Q kc ks h cells slots (mkF m pc ls (.int j :: .ref a :: rest)) := by
  intro C T locs X eT N
  subst hj hp
  obtain ⟨cl, A, e1, e2, -⟩ := F.at hv
  exact OGoal.via (fun t kk => X.baloadBooleans C.1 (by rw [eT]; exact A.1) (State.isArrayOf_alike C.2.1.alike A.2.1) A.2.2 e1 e2 (g := mkF m pc ls (.int (Int32.ofNat i) :: .ref a :: rest)) rfl rfl (hb C.2.2.2.1 hd) t kk) (k C T locs X eT N)
theorem o_aald {i : Nat} {j : Int32} {v : Value} (F : OArr Z h a k0 ty vs) (hty : ty.isReference = true) (hj : j = Int32.ofNat i) (hv : vs[i]? = some v) (hd : decode bytes pc = .ok (.aaload, 1)) (hp : pc + 1 = pc')
    (k : OG p l e R s m args below meth c Z own nm bytes ml ret Q kc ks h cells slots (mkF m pc' ls (v :: rest))) : OG p l e R s m args below meth c Z own nm bytes ml ret Q kc ks h cells slots (mkF m pc ls (.int j :: .ref a :: rest)) := by
  intro C T locs X eT N
  subst hj hp
  obtain ⟨cl, A, e1, e2, -⟩ := F.at hv
  exact OGoal.via (fun t kk => X.aaload C.1 (by rw [eT]; exact A.1) (State.isArrayOf_alike C.2.1.alike A.2.1) hty A.2.2 e1 e2 (g := mkF m pc ls (.int (Int32.ofNat i) :: .ref a :: rest)) rfl rfl (hb C.2.2.2.1 hd) t kk) (k C T locs X eT N)
theorem o_aaldJ {j : Int32} {v : Value} {cl : Cell} (A : Arr Z h a cl ty) (hty : ty.isReference = true) (hj : ¬ (j < 0 ∨ cl.slots.size ≤ j.toNatClampNeg)) (hv : cl.slots[j.toNatClampNeg]? = some v) (hd : decode bytes pc = .ok (.aaload, 1)) (hp : pc + 1 = pc')
    (k : OG p l e R s m args below meth c Z own nm bytes ml ret Q kc ks h cells slots (mkF m pc' ls (v :: rest))) : OG p l e R s m args below meth c Z own nm bytes ml ret Q kc ks h cells slots (mkF m pc ls (.int j :: .ref a :: rest)) := by
  intro C T locs X eT N
  subst hp
  exact OGoal.via (fun t kk => X.aaload C.1 (by rw [eT]; exact A.1) (State.isArrayOf_alike C.2.1.alike A.2.1) hty A.2.2 hj hv (g := mkF m pc ls (.int j :: .ref a :: rest)) rfl rfl (hb C.2.2.2.1 hd) t kk) (k C T locs X eT N)
theorem o_iast {i : Nat} {j x : Int32} (F : OArr Z h a k0 .int vs) (hj : j = Int32.ofNat i) (hi : i < vs.length) (ha : Z.heap.size ≤ a) (hd : decode bytes pc = .ok (.iastore, 1)) (hp : pc + 1 = pc')
    (k : ∀ h', Wr h h' a i (.int x) → OG p l e R s m args below meth c Z own nm bytes ml ret Q kc ks h' cells slots (mkF m pc' ls rest)) : OG p l e R s m args below meth c Z own nm bytes ml ret Q kc ks h cells slots (mkF m pc ls (.int x :: .int j :: .ref a :: rest)) := by
  intro C T locs X eT N
  subst hj hp
  obtain ⟨cl, A, q0, q1, q2⟩ := F
  obtain ⟨e1, e2⟩ := own_inn (i := i) (cl := cl) (by rw [q1]) q2 hi
  obtain ⟨T', h', X', e', W', stp⟩ := stI X C.1 C.2.1 eT A e1 (g := mkF m pc ls (.int x :: .int (Int32.ofNat i) :: .ref a :: rest)) rfl rfl (hb C.2.2.2.1 hd)
  exact OGoal.via stp (k h' (by rw [e2] at W'; exact W') C T' _ X' e' (Fr.snoc X' N ha))
theorem o_bast {i : Nat} {j x : Int32} (F : OArr Z h a k0 .byte vs) (hj : j = Int32.ofNat i) (hi : i < vs.length) (ha : Z.heap.size ≤ a) (hd : decode bytes pc = .ok (.bastore, 1)) (hp : pc + 1 = pc')
    (k : ∀ h', Wr h h' a i (.int (nar .byte x)) → OG p l e R s m args below meth c Z own nm bytes ml ret Q kc ks h' cells slots (mkF m pc' ls rest)) : OG p l e R s m args below meth c Z own nm bytes ml ret Q kc ks h cells slots (mkF m pc ls (.int x :: .int j :: .ref a :: rest)) := by
  intro C T locs X eT N
  subst hj hp
  obtain ⟨cl, A, q0, q1, q2⟩ := F
  obtain ⟨e1, e2⟩ := own_inn (i := i) (cl := cl) (by rw [q1]) q2 hi
  obtain ⟨T', h', X', e', W', stp⟩ := stB X C.1 C.2.1 eT A e1 (g := mkF m pc ls (.int x :: .int (Int32.ofNat i) :: .ref a :: rest)) rfl rfl (hb C.2.2.2.1 hd)
  exact OGoal.via stp (k h' (by rw [e2] at W'; exact W') C T' _ X' e' (Fr.snoc X' N ha))
theorem o_zast {i : Nat} {j x : Int32} (F : OArr Z h a k0 .boolean vs) (hj : j = Int32.ofNat i) (hi : i < vs.length) (ha : Z.heap.size ≤ a) (hd : decode bytes pc = .ok (.bastore, 1)) (hp : pc + 1 = pc')
    (k : ∀ h', Wr h h' a i (.int (nar .boolean x)) → OG p l e R s m args below meth c Z own nm bytes ml ret Q kc ks h' cells slots (mkF m pc' ls rest)) : OG p l e R s m args below meth c Z own nm bytes ml ret Q kc ks h cells slots (mkF m pc ls (.int x :: .int j :: .ref a :: rest)) := by
  intro C T locs X eT N
  subst hj hp
  obtain ⟨cl, A, q0, q1, q2⟩ := F
  obtain ⟨e1, e2⟩ := own_inn (i := i) (cl := cl) (by rw [q1]) q2 hi
  obtain ⟨T', h', X', e', W', stp⟩ := stZ X C.1 C.2.1 eT A e1 (g := mkF m pc ls (.int x :: .int (Int32.ofNat i) :: .ref a :: rest)) rfl rfl (hb C.2.2.2.1 hd)
  exact OGoal.via stp (k h' (by rw [e2] at W'; exact W') C T' _ X' e' (Fr.snoc X' N ha))
theorem o_aast {i : Nat} {j : Int32} {v : Value} (F : OArr Z h a k0 ty vs) (hty : ty.isReference = true) (S : Sto Z h a v) (hj : j = Int32.ofNat i) (hi : i < vs.length) (ha : Z.heap.size ≤ a) (hd : decode bytes pc = .ok (.aastore, 1)) (hp : pc + 1 = pc')
    (k : ∀ h', Wr h h' a i v → OG p l e R s m args below meth c Z own nm bytes ml ret Q kc ks h' cells slots (mkF m pc' ls rest)) : OG p l e R s m args below meth c Z own nm bytes ml ret Q kc ks h cells slots (mkF m pc ls (v :: .int j :: .ref a :: rest)) := by
  intro C T locs X eT N
  subst hj hp
  obtain ⟨cl, A, q0, q1, q2⟩ := F
  obtain ⟨e1, e2⟩ := own_inn (i := i) (cl := cl) (by rw [q1]) q2 hi
  obtain ⟨T', h', X', e', W', stp⟩ := stR X C.1 C.2.1 eT A e1 hty S (g := mkF m pc ls (v :: .int (Int32.ofNat i) :: .ref a :: rest)) rfl rfl (hb C.2.2.2.1 hd)
  exact OGoal.via stp (k h' (by rw [e2] at W'; exact W') C T' _ X' e' (Fr.snoc X' N ha))
theorem own_newA {cA : ClassId} {n : Nat} (hn : n < 2 ^ 31) (A : Arr Z h a (newA cA ty (Int32.ofNat n)) ty) : OArr Z h a cA ty (List.replicate n (defaultValue ty)) := by
  refine ⟨_, A, rfl, ?_, by rw [List.length_replicate]; exact hn⟩
  show (Array.replicate (Int32.ofNat n).toNatClampNeg (defaultValue ty)).toList = _
  rw [(own_clamp hn).2, Array.toList_replicate]
theorem o_newP {aty : ArrayType} {n cap : Nat} {j : Int32} (w : (Cond.arrayClass (newarray.typeOf aty)).before a0 Z = true) (hj : j = Int32.ofNat n) (hn : n ≤ cap) (hcap : cap < 60000000) (hd : decode bytes pc = .ok (.newarray aty, 2)) (hc : cells + 1 ≤ R.cells) (hl : slots + cap ≤ R.slots) (hp : pc + 2 = pc')
    (k : ∀ h' a k0, a = h.size → Z.heap.size ≤ a → Ext h h' → OArr Z h' a k0 (newarray.typeOf aty) (List.replicate n (defaultValue (newarray.typeOf aty))) → OG p l e R s m args below meth c Z own nm bytes ml ret Q kc ks h' (cells + 1) (slots + cap) (mkF m pc' ls (.ref a :: rest))) : OG p l e R s m args below meth c Z own nm bytes ml ret Q kc ks h cells slots (mkF m pc ls (.int j :: rest)) := by
  intro C T locs X eT N
  subst hj hp
  have hE : Ext Z.heap h := eT ▸ own_ext X C.2.2.2.2.2.2.2.2 N
  obtain ⟨e1, e2⟩ := own_clamp (i := n) (by omega)
  obtain ⟨T', h', cA, X', e', E', A', stp⟩ := newP X C.1 C.2.1 w eT (g := mkF m pc ls (.int (Int32.ofNat n) :: rest)) rfl (hb C.2.2.2.1 hd) rfl e1 (cap := cap) (by rw [e2]; exact hn) (by omega) hc hl
  exact OGoal.via stp (k h' h.size cA rfl hE.1 E' (own_newA (by omega) A') C T' _ X' e' N)
theorem o_newR {C0 : String} {index n cap : Nat} {j : Int32} (w1 : (Cond.classLink own index C0).before a0 Z = true) (w2 : (Cond.arrayOver (.object C0)).before a0 Z = true) (hj : j = Int32.ofNat n) (hn : n ≤ cap) (hcap : cap < 60000000) (hd : decode bytes pc = .ok (.anewarray index, 3)) (hc : cells + 1 ≤ R.cells) (hl : slots + cap ≤ R.slots) (hp : pc + 3 = pc')
    (k : ∀ h' a k0, a = h.size → Z.heap.size ≤ a → Ext h h' → OArr Z h' a k0 (.object C0) (List.replicate n .null) → Ovr Z k0 C0 → OG p l e R s m args below meth c Z own nm bytes ml ret Q kc ks h' (cells + 1) (slots + cap) (mkF m pc' ls (.ref a :: rest))) : OG p l e R s m args below meth c Z own nm bytes ml ret Q kc ks h cells slots (mkF m pc ls (.int j :: rest)) := by
  intro C T locs X eT N
  subst hj hp
  have hE : Ext Z.heap h := eT ▸ own_ext X C.2.2.2.2.2.2.2.2 N
  obtain ⟨e1, e2⟩ := own_clamp (i := n) (by omega)
  obtain ⟨T', h', cA, X', e', E', A', O', stp⟩ := newR X C.1 C.2.1 C.2.2.1 w1 w2 eT (g := mkF m pc ls (.int (Int32.ofNat n) :: rest)) rfl (hb C.2.2.2.1 hd) rfl e1 (cap := cap) (by rw [e2]; exact hn) (by omega) hc hl
  exact OGoal.via stp (k h' h.size cA rfl hE.1 E' (own_newA (by omega) A') O' C T' _ X' e' N)
theorem own_sto {y : Addr} {C0 : String} (F : OArr Z h a k0 ty vs) (O : Ovr Z k0 C0) (I : Ins Z h y C0 true) : Sto Z h a (.ref y) := by
  obtain ⟨cl, A, q0, q1, q2⟩ := F
  exact Sto.ofV A q0 O I
end ArrKit
section ObjKit
variable {p : Program} {l : Launch} {e : Env} {R : Room} {s : State} {m : MethodId} {args : Array Value} {below : List Frame} {meth : Method} {c : Code} {T : State} {locs : List Loc} {cells slots kc ks : Nat} {Z : State} {a0 : Array Value} {own nm : String} {bytes : ByteArray} {ml : Nat} {ret : Option FieldType} {Q : Option Value → Heap → Prop} {h h' : Heap} {pc pc' : Nat} {ls ls' : Array Slot} {st st' rest : List Value} {a b : Addr}
theorem o_instY {K : String} {index : Nat} (w : (Cond.classLink own index K).before a0 Z = true) (F : Ins Z h a K true) (hd : decode bytes pc = .ok (.instanceof index, 3)) (hp : pc + 3 = pc')
    (k : OG p l e R s m args below meth c Z own nm bytes ml ret Q kc ks h cells slots (mkF m pc' ls (.int 1 :: rest))) : OG p l e R s m args below meth c Z own nm bytes ml ret Q kc ks h cells slots (mkF m pc ls (.ref a :: rest)) := by
  intro C T locs X eT N
  obtain ⟨T', X', e', stp⟩ := instY X C.1 C.2.1 C.2.2.1 w eT F (g := mkF m pc ls (.ref a :: rest)) rfl rfl (hb C.2.2.2.1 hd)
  subst hp
  exact OGoal.via stp (k C T' locs X' e' N)
theorem o_instNo {K C0 : String} {index : Nat} (w : (Cond.classLink own index K).before a0 Z = true) (E : Exa Z h a C0) (F : ∃ c t, Z.vm.findClass C0 = some c ∧ Z.vm.findClass K = some t ∧ Z.vm.assignable c t = false) (hd : decode bytes pc = .ok (.instanceof index, 3)) (hp : pc + 3 = pc')
    (k : OG p l e R s m args below meth c Z own nm bytes ml ret Q kc ks h cells slots (mkF m pc' ls (.int 0 :: rest))) : OG p l e R s m args below meth c Z own nm bytes ml ret Q kc ks h cells slots (mkF m pc ls (.ref a :: rest)) := by
  intro C T locs X eT N
  obtain ⟨T', X', e', stp⟩ := instNo X C.1 C.2.1 C.2.2.1 w eT E F (g := mkF m pc ls (.ref a :: rest)) rfl rfl (hb C.2.2.2.1 hd)
  subst hp
  exact OGoal.via stp (k C T' locs X' e' N)
theorem o_instNull {index : Nat} (hd : decode bytes pc = .ok (.instanceof index, 3)) (hp : pc + 3 = pc')
    (k : OG p l e R s m args below meth c Z own nm bytes ml ret Q kc ks h cells slots (mkF m pc' ls (.int 0 :: rest))) : OG p l e R s m args below meth c Z own nm bytes ml ret Q kc ks h cells slots (mkF m pc ls (.null :: rest)) := by
  intro C T locs X eT N
  subst hp
  exact OGoal.via (X.instanceofNull C.1 (g := mkF m pc ls (.null :: rest)) rfl rfl (hb C.2.2.2.1 hd)) (k C T locs X eT N)
theorem o_cast {K : String} {index : Nat} (w : (Cond.classLink own index K).before a0 Z = true) (F : Ins Z h a K true) (hd : decode bytes pc = .ok (.checkcast index, 3)) (hp : pc + 3 = pc')
    (k : OG p l e R s m args below meth c Z own nm bytes ml ret Q kc ks h cells slots (mkF m pc' ls (.ref a :: rest))) : OG p l e R s m args below meth c Z own nm bytes ml ret Q kc ks h cells slots (mkF m pc ls (.ref a :: rest)) := by
  intro C T locs X eT N
  obtain ⟨T', X', e', stp⟩ := castY X C.1 C.2.1 C.2.2.1 w eT F (g := mkF m pc ls (.ref a :: rest)) rfl rfl (hb C.2.2.2.1 hd)
  subst hp
  exact OGoal.via stp (k C T' locs X' e' N)
theorem own_root {O K : String} {n : Nat} (w : (Cond.noSuperclass O).before a0 Z = true) (wi : (Cond.instantiable K n).before a0 Z = true) (hn : O ≠ K) : NS Z O K := by
  obtain ⟨c, k, h1, h2, h3, -, -⟩ := Cond.noSuperclass_spec w
  obtain ⟨t, k', g1, -⟩ := Cond.instantiable_spec wi
  have ne := ids_ne h1 g1 hn
  refine ⟨c, t, h1, g1, fun fuel => ?_⟩
  cases fuel with
  | zero => rfl
  | succ f => simp [Vm.isSubclassAux, ne, h2, h3]
theorem own_no {C0 S K : String} {n : Nat} (w : (Cond.superclass C0 S).before a0 Z = true) (wi : (Cond.instantiable K n).before a0 Z = true) (q : NS Z C0 K) (hn : C0 ≠ K) : ∃ c t, Z.vm.findClass C0 = some c ∧ Z.vm.findClass K = some t ∧ Z.vm.assignable c t = false := by
  obtain ⟨c, t, h0, g0, n3⟩ := q
  obtain ⟨p, k, kp, h1, h2, h3, h4, h5, -, h7⟩ := Cond.superclass_spec h0 w
  obtain ⟨t', k', g1, g2, g3, g4, -⟩ := Cond.instantiable_spec wi
  cases g0.symm.trans g1
  have ne := ids_ne h0 g0 hn
  have gi : k'.isInterface = false := (Bool.or_eq_false_iff.mp g4).1
  refine ⟨c, t, h0, g0, ?_⟩
  show Z.vm.assignableAux (255 + 1) c t = false
  simp [Vm.assignableAux, ne, h2, g2, h5, g3, gi, Vm.isSubclass, n3]
end ObjKit
section JdkKit
variable {p : Program} {l : Launch} {e : Env} {R : Room} {s : State} {m : MethodId} {args : Array Value} {below : List Frame} {meth : Method} {c : Code} {T : State} {locs : List Loc} {cells slots kc ks : Nat} {Z : State} {a0 : Array Value} {own nm : String} {bytes : ByteArray} {ml : Nat} {ret : Option FieldType} {Q : Option Value → Heap → Prop} {h h' : Heap} {pc pc' : Nat} {ls ls' : Array Slot} {st st' rest : List Value} {a b : Addr} {ty : FieldType} {vs : List Value} {k0 : ClassId}
theorem o_getFV {R0 O n d host : String} {index : Nat} {v : Value} (w : (Cond.fieldLink own index R0 n d).before a0 Z = true ∨ (Cond.fieldLinkNest own index R0 n d host).before a0 Z = true) (via : (Cond.sameField R0 O n d).before a0 Z = true) (F : Fld Z h a O n d v) (hd : decode bytes pc = .ok (.getfield index, 3)) (hp : pc + 3 = pc')
    (k : OG p l e R s m args below meth c Z own nm bytes ml ret Q kc ks h cells slots (mkF m pc' ls (v :: rest))) : OG p l e R s m args below meth c Z own nm bytes ml ret Q kc ks h cells slots (mkF m pc ls (.ref a :: rest)) := by
  intro C T locs X eT N
  obtain ⟨T', X', e', stp⟩ := getF X C.1 C.2.1 C.2.2.1 w (Via.of via) eT F (g := mkF m pc ls (.ref a :: rest)) rfl rfl (hb C.2.2.2.1 hd)
  subst hp
  exact OGoal.via stp (k C T' locs X' e' N)
theorem o_putFV {R0 O n d host C0 : String} {index kk : Nat} {v old : Value} (w : (Cond.fieldLink own index R0 n d).before a0 Z = true ∨ (Cond.fieldLinkNest own index R0 n d host).before a0 Z = true) (via : (Cond.sameField R0 O n d).before a0 Z = true) (F : Fld Z h a O n d old) (E : Exa Z h a C0)
    (L : (Cond.lays C0 O n d).before a0 Z = true) (wi : (Cond.instantiable C0 kk).before a0 Z = true) (hty : parseFieldDescriptor d = some ty) (hn : narrow ty v = v) (hf : fits ty v = true) (ha : Z.heap.size ≤ a)
    (hd : decode bytes pc = .ok (.putfield index, 3)) (hp : pc + 3 = pc')
    (k : ∀ h', Wr h h' a (Jvm.RoadKit.slotOf Z O n d) v → OG p l e R s m args below meth c Z own nm bytes ml ret Q kc ks h' cells slots (mkF m pc' ls rest)) : OG p l e R s m args below meth c Z own nm bytes ml ret Q kc ks h cells slots (mkF m pc ls (v :: .ref a :: rest)) := by
  intro C T locs X eT N
  obtain ⟨T', h', X', e', W', stp⟩ := putF X C.1 C.2.1 C.2.2.1 w (Via.of via) eT F E (Or.inl L) wi hty hn hf (g := mkF m pc ls (v :: .ref a :: rest)) rfl rfl (hb C.2.2.2.1 hd)
  subst hp
  exact OGoal.via stp (k h' W' C T' _ X' e' (Fr.snoc X' N ha))
theorem own_wide (C : OCtx p s m meth c Z own nm bytes ml ret) (X : Stand p l e R s m args below meth c T locs cells slots) : Z.Warmed39 T.vm := wtrans C.2.1 X.warmed
/-- a field whose entry is resolved already -/
theorem o_getFR {O n d : String} {index : Nat} {v : Value} (w : (Cond.fieldRef own index O n d).before a0 Z = true) (F : Fld Z h a O n d v) (hd : decode bytes pc = .ok (.getfield index, 3)) (hp : pc + 3 = pc')
    (k : OG p l e R s m args below meth c Z own nm bytes ml ret Q kc ks h cells slots (mkF m pc' ls (v :: rest))) : OG p l e R s m args below meth c Z own nm bytes ml ret Q kc ks h cells slots (mkF m pc ls (.ref a :: rest)) := by
  intro C T locs X eT N
  have hZ := own_wide C X
  have w' := Cond.fieldRef_warmed39 hZ w
  have hcur : (Z.setVm T.vm).vm.findClass own = some m.cls := by
    show T.vm.findClass own = some m.cls
    rw [X.warmed.alike.findClass]; exact C.2.2.1
  obtain ⟨cf, k1, i1, f1, q1, q2⟩ := Cond.fieldRef_spec hcur w'
  obtain ⟨cell, cf', k', i', f', h1, h2, h3, h4, -, -, h7⟩ := F
  obtain ⟨k2, hi, -⟩ := State.fieldFound?_setVm (s := Z) hZ.alike h2
  cases hi.symm.trans q1
  subst hp eT
  refine OGoal.via (fun t kk => ?_) (k C T locs X rfl N)
  have hdc := hb C.2.2.2.1 hd
  have hx := C.1
  show Steps p.tables e below (T.setTop { method := m, pc := pc, locals := ls, stack := .ref a :: rest, locked := none }) _
  jvm_step X.here [hx, hdc, getfield.wp_ready (e := e) (s := T) (f := mkF m pc ls (.ref a :: rest)) X.here.top q2 h3 rfl h1 h4 h7]
  exact kk
theorem own_ref (C : OCtx p s m meth c Z own nm bytes ml ret) (X : Stand p l e R s m args below meth c T locs cells slots) {index : Nat} {y : MethodName} {mk : MethodId} (hn : s.methodNamed? y = some mk)
    (hy : y.cls ≠ "java/lang/invoke/MethodHandle" ∧ y.cls ≠ "java/lang/invoke/VarHandle") (w : (Cond.methodRef own index y).before a0 Z = true) : T.vm.methodReady m.cls index mk ∧ namesResolved T.vm m.cls index mk.cls := by
  have hZ := own_wide C X
  have hnZ : Z.methodNamed? y = some mk := by rw [← State.methodNamed?_setVm C.2.1.alike (s := Z)]; exact hn
  have w' := Cond.methodRef_warmed39 hZ hnZ hy w
  have hcur : (Z.setVm T.vm).vm.findClass own = some m.cls := by
    show T.vm.findClass own = some m.cls
    rw [X.warmed.alike.findClass]; exact C.2.2.1
  obtain ⟨m', c', q1, q2, q3, q4⟩ := Cond.methodRef_named e hcur w'
  have hnT : (Z.setVm T.vm).methodNamed? y = some mk := by rw [State.methodNamed?_setVm hZ.alike (s := Z)]; exact hnZ
  have e1 : m' = mk := Option.some.inj (q1.symm.trans (State.methodFound?_of_named hnT hy))
  subst e1
  have e2 : c' = m'.cls := Option.some.inj (q3.symm.trans (findClass_of_methodNamed hnT))
  subst e2
  exact ⟨q2, q4⟩
/-- a constructor whose entry is resolved already -/
theorem o_callIR {index yl W : Nat} {y : MethodName} {yb : ByteArray} {rm : Room} {yQ : Option Value → Heap → Prop} {argsL : List Value} {ps : List FieldType} {yr' : Option FieldType} (hyn : y.name = "<init>") (w1 : (Cond.methodRef own index y).before a0 Z = true) (w4 : (Cond.instanceMethod y).before a0 Z = true) (w5 : (Cond.code y yb yl none).before a0 Z = true) (w6 : (Cond.initialized y.cls).before a0 Z = true)
    (hy : y.cls ≠ "java/lang/invoke/MethodHandle" ∧ y.cls ≠ "java/lang/invoke/VarHandle") (K : Ext Z.heap h → OCtr l Z y yb yl none rm (.ref a :: argsL).toArray h yQ) (hd : decode bytes pc = .ok (.invokespecial index, 3))
    (hpd : parseMethodDescriptor y.desc = some ⟨ps, yr'⟩) (hpl : argsL.length = ps.length) (hsz : ls.size = ml) (hst : st = argsL.reverse ++ .ref a :: rest) (hW : (rest.map fun v => v.category).sum ≤ W)
    (hf : rm.frames + 1 ≤ R.frames) (hl : W + (yl + 11) + rm.locals ≤ R.locals) (hcc : cells + rm.cells ≤ R.cells) (hss : slots + rm.slots ≤ R.slots) (hp : pc + 3 = pc')
    (k : ∀ v h', yQ v h' → h.size ≤ h'.size → OG p l e R s m args below meth c Z own nm bytes ml ret Q kc ks h' (cells + rm.cells) (slots + rm.slots) (mkF m pc' ls (v.toList ++ rest))) : OG p l e R s m args below meth c Z own nm bytes ml ret Q kc ks h cells slots (mkF m pc ls st) := by
  intro C T locs X eT N
  have hE : Ext Z.heap h := eT ▸ own_ext X C.2.2.2.2.2.2.2.2 N
  have w4' : (Cond.instanceMethod y).before args s = true := mvT C.2.1 w4
  have w5' : (Cond.code y yb yl none).before args s = true := mvT C.2.1 w5
  obtain ⟨mk, methM, hnamed, hmethM, hstM, habM⟩ := Cond.instanceMethod_spec w4'
  obtain ⟨methM', cM, hmethM', -, -, -, -, -, -, hsigM⟩ := Cond.code_spec hnamed w5'
  cases hmethM.symm.trans hmethM'
  obtain ⟨hready, hnames⟩ := own_ref C X hnamed hy w1
  obtain ⟨kP, hkP, -⟩ := className_of_methodNamed hnamed
  obtain ⟨hnameM, hdescM⟩ := name_of_methodNamed hnamed hmethM
  have alike := X.warmed.alike
  obtain ⟨kP2, hkP2, -⟩ := alike.2.2 _ _ hkP
  have hm2 : T.vm.method? mk = some methM := by rw [alike.method?]; exact hmethM
  have hfound : lookupSpecial T.vm mk.cls "<init>" methM.desc = .method mk := by
    rw [alike.lookupSpecial, hdescM, ← hyn]; exact lookupSpecial_of_named hnamed hmethM hstM
  have hx := C.1
  have hdc := hb C.2.2.2.1 hd
  have stp : ∀ target, (∀ acts, Steps p.tables e below (doInvoke e (T.setTop { mkF m pc ls st with stack := rest }) acts mk (.ref a :: argsL).toArray).1 target) → Steps p.tables e below (T.setTop (mkF m pc ls st)) target := by
    intro target hrest
    show Steps p.tables e below (T.setTop { method := m, pc := pc, locals := ls, stack := st, locked := none }) _
    jvm_step X.here [hx, hdc, invokespecial.wp_init (e := e) (s := T) (k := kP2) (meth := methM) (m := mk) (a := a) (args := argsL) (rest := rest) (f := mkF m pc ls st) X.here.top hnames hready hkP2 hm2 (by rw [hnameM]; exact hyn) hstM habM hfound (lenOf hpd hpl _ hsigM) hst]
    exact hrest
  have hK : Back l R p e below s args y 3 W _ _ := backOf (W := W) (Q := fun v h2 L => (yQ v h2 ∧ h.size ≤ h2.size) ∧ Fr Z.heap.size L) (K hE []) C.2.1 w5 w6 hf hl
  obtain ⟨v, ⟨T', L', k', n'⟩, X', ⟨L, ⟨hQ, hN⟩, e1, e2, e3⟩, stp2⟩ := hK m meth c ⟨T, locs, cells, slots⟩ { mkF m pc ls st with stack := rest } (.invokespecial index) mk (.ref a :: argsL).toArray X rfl (hsz.trans C.2.2.2.2.1.symm) hdc (by show 2 * 0 + _ ≤ _; rw [Nat.mul_zero, Nat.zero_add]; exact hW) (X.named hnamed) ⟨rfl, eT, hcc, hss⟩
  dsimp only [Pt.U, Pt.locs, Pt.cells, Pt.slots] at X' e1 e2 e3 hQ stp2
  subst e1 e2 e3 hp
  exact OGoal.via (fun t kk => (stp _ fun acts => by rw [doInvoke_state]; exact Steps.refl _).trans (stp2.trans kk)) (k v T'.heap hQ.1 hQ.2 C T' _ X' rfl (Fr.app N hN))
/-- a private method, its entry resolved already -/
theorem o_callPR {index yl W : Nat} {y : MethodName} {yb : ByteArray} {yr : Option FieldType} {rm : Room} {yQ : Option Value → Heap → Prop} {argsL : List Value} {ps : List FieldType} {yr' : Option FieldType} {nn : Nat} (w1 : (Cond.methodRef own index y).before a0 Z = true) (w4 : (Cond.instanceMethod y).before a0 Z = true) (wp : (Cond.privateMethod y).before a0 Z = true) (wi : (Cond.instantiable y.cls nn).before a0 Z = true) (w5 : (Cond.code y yb yl yr).before a0 Z = true) (w6 : (Cond.initialized y.cls).before a0 Z = true)
    (hy : y.cls ≠ "java/lang/invoke/MethodHandle" ∧ y.cls ≠ "java/lang/invoke/VarHandle") {C0 : String} (E : Exa Z h a C0) (K : Ext Z.heap h → OCtr l Z y yb yl yr rm (.ref a :: argsL).toArray h yQ) (hd : decode bytes pc = .ok (.invokevirtual index, 3))
    (hpd : parseMethodDescriptor y.desc = some ⟨ps, yr'⟩) (hpl : argsL.length = ps.length) (hsz : ls.size = ml) (hst : st = argsL.reverse ++ .ref a :: rest) (hW : (rest.map fun v => v.category).sum ≤ W)
    (hf : rm.frames + 1 ≤ R.frames) (hl : W + (yl + 11) + rm.locals ≤ R.locals) (hcc : cells + rm.cells ≤ R.cells) (hss : slots + rm.slots ≤ R.slots) (hp : pc + 3 = pc')
    (k : ∀ v h', yQ v h' → h.size ≤ h'.size → OG p l e R s m args below meth c Z own nm bytes ml ret Q kc ks h' (cells + rm.cells) (slots + rm.slots) (mkF m pc' ls (v.toList ++ rest))) : OG p l e R s m args below meth c Z own nm bytes ml ret Q kc ks h cells slots (mkF m pc ls st) := by
  intro C T locs X eT N
  have hE : Ext Z.heap h := eT ▸ own_ext X C.2.2.2.2.2.2.2.2 N
  have w4' : (Cond.instanceMethod y).before args s = true := mvT C.2.1 w4
  have w5' : (Cond.code y yb yl yr).before args s = true := mvT C.2.1 w5
  have wi' : (Cond.instantiable y.cls nn).before args s = true := mvT C.2.1 wi
  have hpriv : s.PrivateAt y := Cond.privateMethod_at (args := args) (mvT C.2.1 wp)
  obtain ⟨mk, methM, hnamed, hmethM, hstM, habM⟩ := Cond.instanceMethod_spec w4'
  obtain ⟨methM', cM, hmethM', -, -, -, -, -, -, hsigM⟩ := Cond.code_spec hnamed w5'
  cases hmethM.symm.trans hmethM'
  obtain ⟨cI, kI, i1, i2, -, i4, -⟩ := Cond.instantiable_spec wi'
  have hcI : cI = mk.cls := Option.some.inj (i1.symm.trans (findClass_of_methodNamed hnamed))
  subst hcI
  have hni : kI.isInterface = false := (Bool.or_eq_false_iff.mp i4).1
  obtain ⟨cell, kc0, c1, -, -, c4, -⟩ := E
  have hcell : T.heap[a]? = some cell := by rw [eT]; exact c1
  have hobj : ∀ q, cell.vm ≠ .statics q := fun q z => by rw [z] at c4; cases c4
  have hx := C.1
  have hdc := hb C.2.2.2.1 hd
  obtain ⟨hready, hnames⟩ := own_ref C X hnamed hy w1
  obtain ⟨kP, hkP, hnameP⟩ := className_of_methodNamed hnamed
  cases i2.symm.trans hkP
  have alike := X.warmed.alike
  obtain ⟨kP2, hkP2, eP2⟩ := alike.2.2 _ _ hkP
  have hm2 : T.vm.method? mk = some methM := by rw [alike.method?]; exact hmethM
  have hni2 : kP2.isInterface = false := by rw [eP2]; exact hni
  have hpoly : signaturePolymorphic kP2 methM = false := by
    have : kP2.name = y.cls := by rw [eP2]; exact hnameP
    simp [signaturePolymorphic, this, hy.1, hy.2]
  have hsel : selectMethod e.platform T.vm cell.cls mk = .method mk := selectMethod_private hm2 (hpriv mk methM hnamed hmethM)
  have stp : ∀ target, (∀ acts, Steps p.tables e below (doInvoke e (T.setTop { mkF m pc ls st with stack := rest }) acts mk (.ref a :: argsL).toArray).1 target) → Steps p.tables e below (T.setTop (mkF m pc ls st)) target := by
    intro target hrest
    show Steps p.tables e below (T.setTop { method := m, pc := pc, locals := ls, stack := st, locked := none }) _
    jvm_step X.here [hx, hdc, invokevirtual.wp_named (e := e) (s := T) (f := mkF m pc ls st) (a := a) (args := argsL) (rest := rest) (cell := cell) X.here.top hnames hkP2 hni2 hready hkP2 hm2 hpoly hstM (lenOf hpd hpl _ hsigM) hst hcell hobj hsel hm2 habM hkP2 hni2]
    exact hrest
  have hK : Back l R p e below s args y 3 W _ _ := backOf (W := W) (Q := fun v h2 L => (yQ v h2 ∧ h.size ≤ h2.size) ∧ Fr Z.heap.size L) (K hE []) C.2.1 w5 w6 hf hl
  obtain ⟨v, ⟨T', L', k', n'⟩, X', ⟨L, ⟨hQ, hN⟩, e1, e2, e3⟩, stp2⟩ := hK m meth c ⟨T, locs, cells, slots⟩ { mkF m pc ls st with stack := rest } (.invokevirtual index) mk (.ref a :: argsL).toArray X rfl (hsz.trans C.2.2.2.2.1.symm) hdc (by show 2 * 0 + _ ≤ _; rw [Nat.mul_zero, Nat.zero_add]; exact hW) (X.named hnamed) ⟨rfl, eT, hcc, hss⟩
  dsimp only [Pt.U, Pt.locs, Pt.cells, Pt.slots] at X' e1 e2 e3 hQ stp2
  subst e1 e2 e3 hp
  exact OGoal.via (fun t kk => (stp _ fun acts => by rw [doInvoke_state]; exact Steps.refl _).trans (stp2.trans kk)) (k v T'.heap hQ.1 hQ.2 C T' _ X' rfl (Fr.app N hN))
/-- a private method -/
theorem o_callP {index yl W : Nat} {y : MethodName} {yb : ByteArray} {yr : Option FieldType} {rm : Room} {yQ : Option Value → Heap → Prop} {argsL : List Value} {ps : List FieldType} {yr' : Option FieldType} {nn : Nat} (w1 : (Cond.methodLink own index y).before a0 Z = true) (w4 : (Cond.instanceMethod y).before a0 Z = true) (wp : (Cond.privateMethod y).before a0 Z = true) (wi : (Cond.instantiable y.cls nn).before a0 Z = true) (w5 : (Cond.code y yb yl yr).before a0 Z = true) (w6 : (Cond.initialized y.cls).before a0 Z = true)
    (hy : y.cls ≠ "java/lang/invoke/MethodHandle" ∧ y.cls ≠ "java/lang/invoke/VarHandle") {C0 : String} (E : Exa Z h a C0) (K : Ext Z.heap h → OCtr l Z y yb yl yr rm (.ref a :: argsL).toArray h yQ) (hd : decode bytes pc = .ok (.invokevirtual index, 3))
    (hpd : parseMethodDescriptor y.desc = some ⟨ps, yr'⟩) (hpl : argsL.length = ps.length) (hsz : ls.size = ml) (hst : st = argsL.reverse ++ .ref a :: rest) (hW : (rest.map fun v => v.category).sum ≤ W)
    (hf : rm.frames + 1 ≤ R.frames) (hl : W + (yl + 11) + rm.locals ≤ R.locals) (hcc : cells + rm.cells ≤ R.cells) (hss : slots + rm.slots ≤ R.slots) (hp : pc + 3 = pc')
    (k : ∀ v h', yQ v h' → h.size ≤ h'.size → OG p l e R s m args below meth c Z own nm bytes ml ret Q kc ks h' (cells + rm.cells) (slots + rm.slots) (mkF m pc' ls (v.toList ++ rest))) : OG p l e R s m args below meth c Z own nm bytes ml ret Q kc ks h cells slots (mkF m pc ls st) := by
  intro C T locs X eT N
  have hE : Ext Z.heap h := eT ▸ own_ext X C.2.2.2.2.2.2.2.2 N
  have w4' : (Cond.instanceMethod y).before args s = true := mvT C.2.1 w4
  have w5' : (Cond.code y yb yl yr).before args s = true := mvT C.2.1 w5
  have wi' : (Cond.instantiable y.cls nn).before args s = true := mvT C.2.1 wi
  have hpriv : s.PrivateAt y := Cond.privateMethod_at (args := args) (mvT C.2.1 wp)
  obtain ⟨mk, methM, hnamed, hmethM, hstM, habM⟩ := Cond.instanceMethod_spec w4'
  obtain ⟨methM', cM, hmethM', -, -, -, -, -, -, hsigM⟩ := Cond.code_spec hnamed w5'
  cases hmethM.symm.trans hmethM'
  obtain ⟨cI, kI, i1, i2, -, i4, -⟩ := Cond.instantiable_spec wi'
  have hcI : cI = mk.cls := Option.some.inj (i1.symm.trans (findClass_of_methodNamed hnamed))
  subst hcI
  have hni : kI.isInterface = false := (Bool.or_eq_false_iff.mp i4).1
  obtain ⟨cell, kc0, c1, -, -, c4, -⟩ := E
  have hcell : T.heap[a]? = some cell := by rw [eT]; exact c1
  have hobj : ∀ q, cell.vm ≠ .statics q := fun q z => by rw [z] at c4; cases c4
  have hx := C.1
  have hdc := hb C.2.2.2.1 hd
  have hsel : selectMethod e.platform s.vm cell.cls mk = .method mk := selectMethod_private hmethM (hpriv mk methM hnamed hmethM)
  obtain ⟨vm₁, X₁, hstep₁⟩ := X.invokevirtual C.1 C.2.2.1 (mvT C.2.1 w1) hnamed hmethM hstM i2 hni hy (a := a) (cell := cell) hcell hobj hsel hmethM habM i2 hni (g := mkF m pc ls st) rfl (argsL := argsL) (rest := rest) (lenOf hpd hpl _ hsigM) hst hdc
  have hK : Back l R p e below s args y 3 W _ _ := backOf (W := W) (Q := fun v h2 L => (yQ v h2 ∧ h.size ≤ h2.size) ∧ Fr Z.heap.size L) (K hE []) C.2.1 w5 w6 hf hl
  obtain ⟨v, ⟨T', L', k', n'⟩, X', ⟨L, ⟨hQ, hN⟩, e1, e2, e3⟩, stp2⟩ := hK m meth c ⟨T.setVm vm₁, locs, cells, slots⟩ { mkF m pc ls st with stack := rest } (.invokevirtual index) mk (.ref a :: argsL).toArray X₁ rfl (hsz.trans C.2.2.2.2.1.symm) hdc (by show 2 * 0 + _ ≤ _; rw [Nat.mul_zero, Nat.zero_add]; exact hW) (X₁.named hnamed) ⟨rfl, eT, hcc, hss⟩
  dsimp only [Pt.U, Pt.locs, Pt.cells, Pt.slots] at X' e1 e2 e3 hQ stp2
  subst e1 e2 e3 hp
  exact OGoal.via (fun t kk => (hstep₁ _ fun acts => by rw [doInvoke_state]; exact Steps.refl _).trans (stp2.trans kk)) (k v T'.heap hQ.1 hQ.2 C T' _ X' rfl (Fr.app N hN))
/-- a call through an interface -/
theorem o_callF {index yl W : Nat} {y : MethodName} {yb : ByteArray} {yr : Option FieldType} {rm : Room} {yQ : Option Value → Heap → Prop} {argsL : List Value} {ps : List FieldType} {yr' : Option FieldType} {count : Nat} {C0 : String} {xi : MethodName} (w1 : (Cond.methodLink own index xi).before a0 Z = true) (w2 : (Cond.declares xi).before a0 Z = true) (wf : (Cond.interfaceMethod xi.cls xi.cls xi.name xi.desc).before a0 Z = true) (hkf : ((Cond.interfaceMethod xi.cls xi.cls xi.name xi.desc).onTables && (Cond.interfaceMethod xi.cls xi.cls xi.name xi.desc).keepsFace) = true) (w3 : (Cond.selects C0 xi y).before a0 Z = true) (w4 : (Cond.instanceMethod y).before a0 Z = true)
    (wp : (Cond.publicMethod y).before a0 Z = true) (wu : (Cond.unhidden C0 xi.name xi.desc).before a0 Z = true) (wc : (Cond.castable C0 xi.cls).before a0 Z = true) (w5 : (Cond.code y yb yl yr).before a0 Z = true) (w6 : (Cond.initialized y.cls).before a0 Z = true)
    (hy : xi.cls ≠ "java/lang/invoke/MethodHandle" ∧ xi.cls ≠ "java/lang/invoke/VarHandle") (E : Exa Z h a C0) (K : Ext Z.heap h → OCtr l Z y yb yl yr rm (.ref a :: argsL).toArray h yQ) (hd : decode bytes pc = .ok (.invokeinterface index count, 5))
    (hpd : parseMethodDescriptor xi.desc = some ⟨ps, yr'⟩) (hpl : argsL.length = ps.length) (hsz : ls.size = ml) (hst : st = argsL.reverse ++ .ref a :: rest) (hW : (rest.map fun v => v.category).sum ≤ W)
    (hf : rm.frames + 1 ≤ R.frames) (hl : W + (yl + 11) + rm.locals ≤ R.locals) (hcc : cells + rm.cells ≤ R.cells) (hss : slots + rm.slots ≤ R.slots) (hp : pc + 5 = pc')
    (k : ∀ v h', yQ v h' → h.size ≤ h'.size → OG p l e R s m args below meth c Z own nm bytes ml ret Q kc ks h' (cells + rm.cells) (slots + rm.slots) (mkF m pc' ls (v.toList ++ rest))) : OG p l e R s m args below meth c Z own nm bytes ml ret Q kc ks h cells slots (mkF m pc ls st) := by
  intro C T locs X eT N
  have hE : Ext Z.heap h := eT ▸ own_ext X C.2.2.2.2.2.2.2.2 N
  obtain ⟨cq, kq, qa, qb, qc⟩ := isOf C.2.1 eT E
  obtain ⟨v, vm₁, ⟨T', L', k', n'⟩, -, X', ⟨L, ⟨hQ, hN⟩, e1, e2, e3⟩, stp⟩ := X.interfaceBack C.1 (xi := xi) (y := y) C.2.2.1 (mvT C.2.1 w1) (mvT C.2.1 w2) (mvT C.2.1 wf hkf) (mvT C.2.1 w3) (mvT C.2.1 w4) (mvT C.2.1 wp) (mvT C.2.1 wu) (mvT C.2.1 wc) hy
    (backOf (W := W) (Q := fun v h2 L => (yQ v h2 ∧ h.size ≤ h2.size) ∧ Fr Z.heap.size L) (K hE []) C.2.1 w5 w6 hf hl) qa qb qc (g := mkF m pc ls st) rfl (hsz.trans C.2.2.2.2.1.symm) (Steps.refl _) (argsL := argsL) (rest := rest) (lenOf hpd hpl) hst (by show 2 * 0 + _ ≤ _; rw [Nat.mul_zero, Nat.zero_add]; exact hW) (hb C.2.2.2.1 hd) (fun _ _ => ⟨rfl, eT, hcc, hss⟩)
  dsimp only [Pt.U, Pt.locs, Pt.cells, Pt.slots] at X' e1 e2 e3 hQ stp
  subst e1 e2 e3 hp
  exact OGoal.via (fun t kk => stp.trans kk) (k v T'.heap hQ.1 hQ.2 C T' _ X' rfl (Fr.app N hN))
/-- a static method of a nest mate -/
theorem o_callSN {index yl W : Nat} {y : MethodName} {host : String} {yb : ByteArray} {yr : Option FieldType} {rm : Room} {yQ : Option Value → Heap → Prop} {argsL : List Value} {ps : List FieldType} {yr' : Option FieldType}
    (w1 : (Cond.methodLinkNest own index y host).before a0 Z = true) (w2 : (Cond.static y).before a0 Z = true) (w3 : (Cond.initialized y.cls).before a0 Z = true) (w4 : (Cond.code y yb yl yr).before a0 Z = true)
    (hy : y.cls ≠ "java/lang/invoke/MethodHandle" ∧ y.cls ≠ "java/lang/invoke/VarHandle") (K : Ext Z.heap h → OCtr l Z y yb yl yr rm argsL.toArray h yQ) (hd : decode bytes pc = .ok (.invokestatic index, 3))
    (hpd : parseMethodDescriptor y.desc = some ⟨ps, yr'⟩) (hpl : argsL.length = ps.length) (hsz : ls.size = ml) (hst : st = argsL.reverse ++ rest) (hW : (rest.map fun v => v.category).sum ≤ W)
    (hf : rm.frames + 1 ≤ R.frames) (hl : W + (yl + 11) + rm.locals ≤ R.locals) (hcc : cells + rm.cells ≤ R.cells) (hss : slots + rm.slots ≤ R.slots) (hp : pc + 3 = pc')
    (k : ∀ v h', yQ v h' → h.size ≤ h'.size → OG p l e R s m args below meth c Z own nm bytes ml ret Q kc ks h' (cells + rm.cells) (slots + rm.slots) (mkF m pc' ls (v.toList ++ rest))) : OG p l e R s m args below meth c Z own nm bytes ml ret Q kc ks h cells slots (mkF m pc ls st) := by
  intro C T locs X eT N
  have hE : Ext Z.heap h := eT ▸ own_ext X C.2.2.2.2.2.2.2.2 N
  have w1' : (Cond.methodLinkNest own index y host).before args s = true := (Cond.methodLinkNest_wide C.2.1 w1 :)
  obtain ⟨v, vm₁, ⟨T', L', k', n'⟩, -, X', ⟨L, ⟨hQ, hN⟩, e1, e2, e3⟩, stp⟩ := callSN X C.1 (y := y) C.2.2.1 w1' (mvT C.2.1 w2) (mvT C.2.1 w3) (mvT C.2.1 w4) hy
    (backOf (W := W) (Q := fun v h2 L => (yQ v h2 ∧ h.size ≤ h2.size) ∧ Fr Z.heap.size L) (K hE []) C.2.1 w4 w3 hf hl) (g := mkF m pc ls st) rfl (hsz.trans C.2.2.2.2.1.symm) (argsL := argsL) (rest := rest) (lenOf hpd hpl) hst (by show 2 * 0 + _ ≤ _; rw [Nat.mul_zero, Nat.zero_add]; exact hW) (hb C.2.2.2.1 hd) (fun _ _ => ⟨rfl, eT, hcc, hss⟩)
  dsimp only [Pt.U, Pt.locs, Pt.cells, Pt.slots] at X' e1 e2 e3 hQ stp
  subst e1 e2 e3 hp
  exact OGoal.via (fun t kk => stp.trans kk) (k v T'.heap hQ.1 hQ.2 C T' _ X' rfl (Fr.app N hN))
theorem OArr.arv {d : Value} (F : OArr Z h a k0 ty vs) (hf : ∀ v ∈ vs, fits ty v = true) : Arv Z h a k0 ty (Int32.ofNat vs.length) vs d := by
  obtain ⟨cl, A, q0, q1, q2⟩ := F
  obtain ⟨e1, e2⟩ := own_clamp q2
  subst q1
  have hsz : cl.slots.size = cl.slots.toList.length := Array.length_toList.symm
  refine ⟨cl, A, q0, by rw [e2, hsz], e1, fun i hi => ?_, fun i hi => ?_⟩
  · rw [hsz] at hi
    rw [← Array.getElem?_toList, List.getElem?_eq_getElem hi, List.getD_eq_getElem?_getD, List.getElem?_eq_getElem hi]
    rfl
  · rw [hsz] at hi
    rw [List.getD_eq_getElem?_getD, List.getElem?_eq_getElem hi]
    exact hf _ (List.getElem_mem hi)
theorem own_oarr {n : Nat} {d : Value} (F : Arv Z h a k0 ty (Int32.ofNat n) vs d) (hn : n < 2 ^ 31) (hl : vs.length = n) : OArr Z h a k0 ty vs := by
  obtain ⟨cl, A, q0, q1, -, H, -⟩ := F
  rw [(own_clamp hn).2] at q1
  refine ⟨cl, A, q0, ?_, by omega⟩
  apply List.ext_getElem?
  intro i
  by_cases hi : i < n
  · have := H i (by omega)
    rw [Array.getElem?_toList, this, List.getD_eq_getElem?_getD, List.getElem?_eq_getElem (by omega)]
    rfl
  · rw [List.getElem?_eq_none (by rw [Array.length_toList]; omega), List.getElem?_eq_none (by omega)]
theorem own_fitI {xs : List Int32} : ∀ v ∈ xs.map Value.int, fits .int v = true := by
  intro v hv
  obtain ⟨x, -, rfl⟩ := List.mem_map.mp hv
  rfl
/-- System.arraycopy of ints, from one array into another -/
theorem o_cpyI {index W i j n : Nat} {k1 : ClassId} {xs ys : List Int32} {zi zj zn : Int32} (w1 : (Cond.methodLink own index Jvm.Stand.acN).before a0 Z = true) (w2 : (Cond.native Jvm.Stand.acN).before a0 Z = true) (w3 : (Cond.static Jvm.Stand.acN).before a0 Z = true) (w4 : (Cond.initialized "java/lang/System").before a0 Z = true)
    (A : OArr Z h a k0 .int (xs.map Value.int)) (B : OArr Z h b k1 .int (ys.map Value.int)) (hi : zi = Int32.ofNat i) (hj : zj = Int32.ofNat j) (hn : zn = Int32.ofNat n) (h4 : i + n ≤ xs.length) (h5 : j + n ≤ ys.length) (ha : Z.heap.size ≤ b)
    (hd : decode bytes pc = .ok (.invokestatic index, 3)) (hsz : ls.size = ml) (hW : (rest.map fun v => v.category).sum ≤ W) (hf : 1 ≤ R.frames) (hl : W + 18 ≤ R.locals) (hp : pc + 3 = pc')
    (k : ∀ h', Keep h h' [b] → OArr Z h' b k1 .int ((ys.take j ++ (xs.drop i).take n ++ ys.drop (j + n)).map Value.int) → OG p l e R s m args below meth c Z own nm bytes ml ret Q kc ks h' cells slots (mkF m pc' ls rest)) : OG p l e R s m args below meth c Z own nm bytes ml ret Q kc ks h cells slots (mkF m pc ls (.int zn :: .int zj :: .ref b :: .int zi :: .ref a :: rest)) := by
  intro C T locs X eT N
  subst hi hj hn hp
  have lx : xs.length < 2 ^ 31 := by obtain ⟨_, _, _, _, q⟩ := A; rwa [List.length_map] at q
  have ly : ys.length < 2 ^ 31 := by obtain ⟨_, _, _, _, q⟩ := B; rwa [List.length_map] at q
  have A' := A.arv (d := .int 0) own_fitI
  have B' := B.arv (d := .int 0) own_fitI
  rw [List.length_map] at A' B'
  obtain ⟨i1, i2⟩ := own_clamp (i := i) (by omega)
  obtain ⟨j1, j2⟩ := own_clamp (i := j) (by omega)
  obtain ⟨n1, n2⟩ := own_clamp (i := n) (by omega)
  have us_eq : (((xs.drop i).take n).map Value.int) = (List.range (Int32.ofNat n).toNatClampNeg).map fun t => (xs.map Value.int).getD ((Int32.ofNat i).toNatClampNeg + t) (.int 0) := by
    rw [n2, i2]
    apply List.ext_getElem?
    intro t
    by_cases ht : t < n
    · rw [List.getElem?_map, List.getElem?_take_of_lt ht, List.getElem?_drop, List.getElem?_map, List.getElem?_range ht, List.getElem?_eq_getElem (by omega)]
      simp only [Option.map_some, List.getD_eq_getElem?_getD, List.getElem?_map]
      rw [List.getElem?_eq_getElem (by omega)]
      rfl
    · rw [List.getElem?_eq_none (by simp; omega), List.getElem?_eq_none (by simp; omega)]
  obtain ⟨T', h', L, X', e', N', K', B2, stp⟩ := cpA X C.1 C.2.1 C.2.2.1 w1 w2 w3 w4 eT A' B' (Or.inl ⟨rfl, rfl⟩) i1 j1 n1 (by rw [i2, n2, (own_clamp lx).2]; exact h4) (by rw [j2, n2, (own_clamp ly).2]; exact h5) us_eq (by rw [j2, n2, List.length_map]; exact h5) N ha
    (g := mkF m pc ls (.int (Int32.ofNat n) :: .int (Int32.ofNat j) :: .ref b :: .int (Int32.ofNat i) :: .ref a :: rest)) rfl (hsz.trans C.2.2.2.2.1.symm) rfl (hb C.2.2.2.1 hd) hf (W := W) (by show 2 * 0 + _ ≤ _; rw [Nat.mul_zero, Nat.zero_add]; exact hW) (by rw [show nativeFrameWords "java/lang/System" "arraycopy" 5 + 11 = 18 from by rw [nativeFrameWords_plain 5 (by decide)]]; exact hl)
  rw [j2, n2] at B2
  have B3 : OArr Z h' b k1 .int ((ys.take j ++ (xs.drop i).take n ++ ys.drop (j + n)).map Value.int) := by
    rw [List.map_append, List.map_append, List.map_take (l := ys), List.map_drop (l := ys)]
    exact own_oarr B2 ly (by simp; omega)
  exact OGoal.via stp (k h' K' B3 C T' L X' e' N')
theorem o_newPE {aty : ArrayType} {n cap : Nat} {j : Int32} {ad : String} (w : (Cond.arrayClass (newarray.typeOf aty)).before a0 Z = true) (had : "[" ++ (newarray.typeOf aty).toString = ad) (hj : j = Int32.ofNat n) (hn : n ≤ cap) (hcap : cap < 60000000) (hd : decode bytes pc = .ok (.newarray aty, 2)) (hc : cells + 1 ≤ R.cells) (hl : slots + cap ≤ R.slots) (hp : pc + 2 = pc')
    (k : ∀ h' a k0, a = h.size → Z.heap.size ≤ a → Ext h h' → OArr Z h' a k0 (newarray.typeOf aty) (List.replicate n (defaultValue (newarray.typeOf aty))) → Exa Z h' a ad → OG p l e R s m args below meth c Z own nm bytes ml ret Q kc ks h' (cells + 1) (slots + cap) (mkF m pc' ls (.ref a :: rest))) : OG p l e R s m args below meth c Z own nm bytes ml ret Q kc ks h cells slots (mkF m pc ls (.int j :: rest)) := by
  intro C T locs X eT N
  subst hj hp
  have hE : Ext Z.heap h := eT ▸ own_ext X C.2.2.2.2.2.2.2.2 N
  obtain ⟨e1, e2⟩ := own_clamp (i := n) (by omega)
  obtain ⟨T', h', cA, X', e', E', A', G', stp⟩ := newPE X C.1 C.2.1 w eT (g := mkF m pc ls (.int (Int32.ofNat n) :: rest)) rfl (hb C.2.2.2.1 hd) rfl e1 (cap := cap) (by rw [e2]; exact hn) (by omega) hc hl had
  exact OGoal.via stp (k h' h.size cA rfl hE.1 E' (own_newA (by omega) A') G' C T' _ X' e' N)
theorem own_fitC {cl : Cell} {xs : List Int32} (A : Arr Z h a cl .int) (q : cl.slots.toList = xs.map Value.int) : FitC Z cl := by
  intro i v hv
  obtain ⟨-, k, h1, comp, h2⟩ := A.2.1
  have hm : v ∈ xs.map Value.int := by
    rw [← q]
    exact List.mem_of_getElem? (by rw [Array.getElem?_toList]; exact hv)
  have hf := own_fitI v hm
  simp [State.fitsSlot, State.slotType?, h1, h2, hf]
/-- clone() of an int[] -/
theorem o_cloneI {index W cap : Nat} {xs : List Int32} (w1 : (Cond.methodLink own index ⟨"[I", "clone", "()Ljava/lang/Object;"⟩).before a0 Z = true) (w2 : (Cond.sameMethod "[I" "java/lang/Object" "clone" "()Ljava/lang/Object;").before a0 Z = true) (w3 : (Cond.native ⟨"java/lang/Object", "clone", "()Ljava/lang/Object;"⟩).before a0 Z = true)
    (w4 : (Cond.instanceMethod ⟨"java/lang/Object", "clone", "()Ljava/lang/Object;"⟩).before a0 Z = true) (w5 : (Cond.selects "[I" ⟨"[I", "clone", "()Ljava/lang/Object;"⟩ ⟨"java/lang/Object", "clone", "()Ljava/lang/Object;"⟩).before a0 Z = true) (w6 : (Cond.castable "[I" "java/lang/Cloneable").before a0 Z = true)
    (A : OArr Z h a k0 .int (xs.map Value.int)) (E : Exa Z h a "[I") (hd : decode bytes pc = .ok (.invokevirtual index, 3)) (hsz : ls.size = ml) (hW : (rest.map fun v => v.category).sum ≤ W) (hf : 1 ≤ R.frames) (hl : W + 14 ≤ R.locals) (hcap : xs.length ≤ cap) (hc : cells + 1 ≤ R.cells) (hsl : slots + cap ≤ R.slots) (hp : pc + 3 = pc')
    (k : ∀ h' b, b = h.size → Z.heap.size ≤ b → Ext h h' → OArr Z h' b k0 .int (xs.map Value.int) → Exa Z h' b "[I" → OG p l e R s m args below meth c Z own nm bytes ml ret Q kc ks h' (cells + 1) (slots + cap) (mkF m pc' ls (.ref b :: rest))) : OG p l e R s m args below meth c Z own nm bytes ml ret Q kc ks h cells slots (mkF m pc ls (.ref a :: rest)) := by
  intro C T locs X eT N
  subst hp
  have hE : Ext Z.heap h := eT ▸ own_ext X C.2.2.2.2.2.2.2.2 N
  obtain ⟨cl, A1, q0, q1, q2⟩ := A
  have hsz2 : cl.slots.size = xs.length := by rw [← Array.length_toList, q1, List.length_map]
  obtain ⟨T', h', X', e', E', A', G', stp⟩ := cloneA X C.1 C.2.1 C.2.2.1 w1 w2 w3 w4 w5 w6 eT A1 E (own_fitC A1 q1) (g := mkF m pc ls (.ref a :: rest)) rfl (hsz.trans C.2.2.2.2.1.symm) rfl (hb C.2.2.2.1 hd) hf (W := W) (cap := cap) (by show 2 * 0 + _ ≤ _; rw [Nat.mul_zero, Nat.zero_add]; exact hW) hl (by rw [hsz2]; exact hcap) hc hsl
  exact OGoal.via stp (k h' h.size rfl hE.1 E' ⟨_, A', q0, q1, q2⟩ G' C T' _ X' e' N)
end JdkKit
section FaceKit
variable {p : Program} {l : Launch} {e : Env} {R : Room} {s : State} {m : MethodId} {args : Array Value} {below : List Frame} {meth : Method} {c : Code} {T : State} {locs : List Loc} {cells slots kc ks : Nat} {Z : State} {a0 : Array Value} {own nm : String} {bytes : ByteArray} {ml : Nat} {ret : Option FieldType} {Q : Option Value → Heap → Prop} {h h' : Heap} {pc pc' : Nat} {ls ls' : Array Slot} {st st' rest : List Value} {a b : Addr}
theorem own_plain {vm : Vm} {flags : Nat} {c1 t d : ClassId} {ck dk : Class} (q : plainAccess vm flags c1 ck t d dk = true) : vm.Plain flags c1 ck t d dk := by
  simp only [plainAccess, Bool.or_eq_true, Bool.and_eq_true, beq_iff_eq, Bool.not_eq_true'] at q
  rcases q with ((q | q) | q) | q
  · exact Or.inl q
  · exact Or.inr (Or.inl q)
  · exact Or.inr (Or.inr (Or.inl q))
  · exact Or.inr (Or.inr (Or.inr ⟨q.1.1.1, q.1.1.2, q.1.2, by rcases q.2 with (r | r) | r <;> simp [r]⟩))
/-- a reference to a method that a superinterface declares: no word on its flags is asked (the link word holds the access) -/
theorem own_link {cls : String} {x : MethodName} {index d c1 : Nat} {ck ok : Class} {mt : Method} {mf : MethodId} (hd : s.vm.findClass cls = some d) (hc : s.vm.findClass x.cls = some c1) (hck : s.vm.classes[c1]? = some ck) (hvi : ck.isInterface = true) (hnone : ck.findMethod x.name x.desc = none)
    (hf : s.methodFound? x.cls x.name x.desc = some mf) (hok : s.vm.classes[mf.cls]? = some ok) (hm : ok.methods[mf.idx]? = some mt) (hx : x.cls ≠ "java/lang/invoke/MethodHandle" ∧ x.cls ≠ "java/lang/invoke/VarHandle") (hcl : x.name ≠ "clone")
    (hw : (Cond.methodLink cls index x).before args s = true) (pl : Platform) (hpl : pl.magicAccessors = ({} : Platform).magicAccessors) : ∃ ci, s.vm.MethodLinksFF pl d index ci c1 mf ∧ s.rightAt d index (.method mf) = true := by
  obtain ⟨k0, hk0, hname⟩ := Vm.findClass_spec hc
  cases hck.symm.trans hk0
  have hpoly : ∀ y, signaturePolymorphic ck y = false := fun y => by simp [signaturePolymorphic, hname, hx.1, hx.2]
  have hmt : s.vm.method? mf = some mt := by simp [Vm.method?, hok, hm]
  have hcln : (x.name == "clone") = false := by simpa using hcl
  have hw' : (Cond.methodLink cls index x).value args s none s [] = some true := Cond.before_iff.mp hw
  rw [show (Cond.methodLink cls index x).value args s none s [] = (match s.memberEntry? cls index, s.vm.findClass cls, s.vm.findClass x.cls, s.methodFound? x.cls x.name x.desc with
    | some (ci, viaInterface), some d, some c, some m => do
      let linked ← s.classLinks cls ci x.cls
      let dk ← s.vm.classes[d]?
      let ck ← s.vm.classes[c]?
      let mk ← s.vm.classes[m.cls]?
      let meth ← s.vm.method? m
      pure (linked && s.names cls index (.method x.cls x.name x.desc) && s.openOr cls index (.method m) && ck.isInterface == viaInterface &&
        x.cls != "java/lang/invoke/MethodHandle" && x.cls != "java/lang/invoke/VarHandle" && mk.loader.isNone && (plainAccess s.vm meth.accessFlags m.cls mk c d dk || (ck.isArray && x.name == "clone" && m.cls != c)))
    | _, _, _, _ => none) from rfl, hd, hc, hf] at hw'
  rcases hme : s.memberEntry? cls index with _ | ⟨ci, via⟩
  · rw [hme] at hw'; cases hw'
  rw [hme] at hw'
  rcases hcl2 : s.classLinks cls ci x.cls with _ | linked
  · simp [hcl2] at hw'
  rcases hdk : s.vm.classes[d]? with _ | dk
  · simp [hcl2, hdk] at hw'
  simp [hcl2, hdk, hck, hok, hmt, hcln, hvi] at hw'
  obtain ⟨⟨⟨⟨⟨⟨⟨rfl, hnm⟩, hopen⟩, hvia⟩, -⟩, -⟩, hml⟩, hacc⟩ := hw'
  subst hvia
  obtain ⟨cr, hcr, hlinks⟩ := State.classLinks_spec hd hcl2 pl hpl
  cases hc.symm.trans hcr
  obtain ⟨cp, hcp, hnames⟩ := State.names_spec hnm
  obtain ⟨dk', cf, hdk', hcf, rfl⟩ := State.poolOf?_spec hd hcp
  cases hdk.symm.trans hdk'
  obtain ⟨ci', nt, hent, hnt, -⟩ := namesOf?_method hnames
  have hent' : ci' = ci ∧ cf.constantPool[index]? = some (.interfaceMethodref ci nt) := by
    rcases hent with hent | hent <;> simp [State.memberEntry?, hcp, hent] at hme
    exact ⟨hme, hme ▸ hent⟩
  obtain ⟨rfl, hent2⟩ := hent'
  obtain ⟨dk2, cf2, nm2, _, hd2, hcf2, hld2, hname2, -⟩ := hlinks.here
  cases hdk.symm.trans hd2
  cases hcf.symm.trans hcf2
  have hne : ci' ≠ index := by
    intro he
    subst he
    simp [ConstantPool.className?, hent2] at hname2
  refine ⟨ci', ⟨dk, cf, nt, x.name, x.desc, ck, ok, mt, hdk, hcf, hent2, hnt, hlinks, hne, hck, hvi, hpoly, hnone, State.faceFind_of_found hc hck hvi hpoly hnone hf, hok, hm, hld2.trans hml.symm, own_plain hacc, State.openOr_spec hd hdk hopen⟩, ?_⟩
  simp [State.rightAt, hdk, hcf, hnames, hf]
/-- a call through an interface, of a method that a superinterface declares -/
theorem o_callFU {index yl W count : Nat} {y xi : MethodName} {C0 J : String} {yb : ByteArray} {yr : Option FieldType} {rm : Room} {yQ : Option Value → Heap → Prop} {argsL : List Value} {ps : List FieldType} {yr' : Option FieldType}
    (w1 : (Cond.methodLink own index xi).before a0 Z = true) (w2 : (Cond.declares ⟨J, xi.name, xi.desc⟩).before a0 Z = true) (wf : (Cond.interfaceMethod xi.cls J xi.name xi.desc).before a0 Z = true) (hxo : xi.cls ≠ J) (hcl : xi.name ≠ "clone")
    (w3 : (Cond.selects C0 xi y).before a0 Z = true) (w4 : (Cond.instanceMethod y).before a0 Z = true) (wp : (Cond.publicMethod y).before a0 Z = true) (wu : (Cond.unhidden C0 xi.name xi.desc).before a0 Z = true) (wc : (Cond.castable C0 xi.cls).before a0 Z = true) (w5 : (Cond.code y yb yl yr).before a0 Z = true) (w6 : (Cond.initialized y.cls).before a0 Z = true)
    (hy : xi.cls ≠ "java/lang/invoke/MethodHandle" ∧ xi.cls ≠ "java/lang/invoke/VarHandle") (E : Exa Z h a C0) (K : Ext Z.heap h → OCtr l Z y yb yl yr rm (.ref a :: argsL).toArray h yQ) (hd : decode bytes pc = .ok (.invokeinterface index count, 5))
    (hpd : parseMethodDescriptor xi.desc = some ⟨ps, yr'⟩) (hpl : argsL.length = ps.length) (hsz : ls.size = ml) (hst : st = argsL.reverse ++ .ref a :: rest) (hW : (rest.map fun v => v.category).sum ≤ W)
    (hf : rm.frames + 1 ≤ R.frames) (hl : W + (yl + 11) + rm.locals ≤ R.locals) (hcc : cells + rm.cells ≤ R.cells) (hss : slots + rm.slots ≤ R.slots) (hp : pc + 5 = pc')
    (k : ∀ v h', yQ v h' → h.size ≤ h'.size → OG p l e R s m args below meth c Z own nm bytes ml ret Q kc ks h' (cells + rm.cells) (slots + rm.slots) (mkF m pc' ls (v.toList ++ rest))) : OG p l e R s m args below meth c Z own nm bytes ml ret Q kc ks h cells slots (mkF m pc ls st) := by
  intro C T locs X eT N
  have hE : Ext Z.heap h := eT ▸ own_ext X C.2.2.2.2.2.2.2.2 N
  have v2 : (Cond.declares ⟨J, xi.name, xi.desc⟩).before args s = true := mvT C.2.1 w2
  have v3 : (Cond.selects C0 xi y).before args s = true := mvT C.2.1 w3
  have v4 : (Cond.instanceMethod y).before args s = true := mvT C.2.1 w4
  have vp : (Cond.publicMethod y).before args s = true := mvT C.2.1 wp
  have vu : (Cond.unhidden C0 xi.name xi.desc).before args s = true := mvT C.2.1 wu
  have vc : (Cond.castable C0 xi.cls).before args s = true := mvT C.2.1 wc
  have v1 : (Cond.methodLink own index xi).before args s = true := mvT C.2.1 w1
  obtain ⟨cB, kB, hcB, hkB, cellB, hcell, hclsB, hstatB⟩ := isOf C.2.1 eT E
  obtain ⟨r0, r, hn, hrm, hstR, hsigR⟩ := Cond.declares_spec v2
  obtain ⟨cI, kIz, r1, hcIz, hkIz, hiIz, hfz, hnz⟩ := Cond.interfaceMethod_spec wf
  have alZ := C.2.1.alike
  have hcI : s.vm.findClass xi.cls = some cI := by rw [alZ.findClass]; exact hcIz
  obtain ⟨kI, hkI, ekI⟩ := alZ.2.2 _ _ hkIz
  have hiI : kI.isInterface = true := by rw [ekI]; exact hiIz
  have hfound : s.methodFound? xi.cls xi.name xi.desc = some r1 := (State.methodFound?_setVm alZ (s := Z) xi.cls xi.name xi.desc).trans hfz
  have hn1 : s.methodNamed? ⟨J, xi.name, xi.desc⟩ = some r1 := (State.methodNamed?_setVm alZ (s := Z) _).trans hnz
  cases hn.symm.trans hn1
  obtain ⟨hnameR, hdescR⟩ := name_of_methodNamed hn hrm
  obtain ⟨mk, methM, hnamed, hmethM, -, habM⟩ := Cond.instanceMethod_spec v4
  obtain ⟨c2, r2, m2, q1, q2, q3, q4, -⟩ := Cond.selects_spec v3
  cases hcB.symm.trans q1
  cases hfound.symm.trans q2
  cases hnamed.symm.trans q3
  obtain ⟨c3, t3, u1, u2, u3⟩ := Cond.castable_spec vc
  cases hcB.symm.trans u1
  cases hcI.symm.trans u2
  obtain ⟨ok, hok, hokn⟩ := className_of_methodNamed hn
  obtain ⟨kI2, hkI2, hnI⟩ := Vm.findClass_spec hcI
  cases hkI.symm.trans hkI2
  have hpolyI : ∀ z, signaturePolymorphic kI z = false := fun z => by simp [signaturePolymorphic, hnI, hy.1, hy.2]
  have hnone : kI.findMethod xi.name xi.desc = none := by
    rcases hj : kI.findMethod xi.name xi.desc with _ | j
    · rfl
    · exfalso
      obtain ⟨hlt, -, -⟩ := Array.findIdx?_eq_some_iff_getElem.mp hj
      have e1 : r0 = ⟨cI, j⟩ := Option.some.inj (hfound.symm.trans (State.methodFound?_declared hcI hkI hpolyI hj (by simp [hlt])))
      rw [e1] at hok
      cases hkI.symm.trans hok
      exact hxo (hnI.symm.trans hokn)
  have hmO : ok.methods[r0.idx]? = some r := by simpa [Vm.method?, hok] using hrm
  have hpl2 : e.platform.magicAccessors = ({} : Platform).magicAccessors := by rw [X.admits.platform]
  obtain ⟨ci, hlk, hright⟩ := own_link C.2.2.1 hcI hkI hiI hnone hfound hok hmO hy hcl v1 e.platform hpl2
  have hEn : s.MethodEntryUp e T.vm m.cls index cI r0 ci := State.methodEntryFF X.warmed hlk hright
  obtain ⟨dk, cfile, nt, _, _, ck, _, _, hdk, hcf, hcp, -, -, -, hck, hvia, -⟩ := hlk.here
  cases hkI.symm.trans hck
  have al := hEn.warmed.alike
  obtain ⟨dk2, hdk2, hres⟩ := hEn.classReady
  obtain ⟨dk3, hdk3, hed⟩ := al.2.2 _ _ hdk
  cases hdk2.symm.trans hdk3
  obtain ⟨kI3, hkI3, hec⟩ := al.2.2 _ _ hkI
  obtain ⟨kB2, hkB2, -⟩ := al.2.2 _ _ (by rw [hclsB]; exact hkB : s.vm.classes[cellB.cls]? = some kB)
  have hX2 := X.noted hEn.warmed
  generalize hvm : T.vm.calledUp m.cls ci index cI r0 = vm2 at hEn al hdk2 hres hdk3 hkI3 hkB2 hX2
  have hx := C.1
  have hdc := hb C.2.2.2.1 hd
  have hready := hEn.ready
  have hobj : ∀ q, cellB.vm ≠ .statics q := fun q z => by rw [z] at hstatB; cases hstatB
  have hway : ((cellB.cls :: vm2.superclasses cellB.cls).any fun k => (declaredIn vm2 r.name r.desc k).any fun (_, z) => z.isPrivate || z.isStatic) = false := by
    simp only [al.superclasses, al.declaredIn]
    rw [hnameR, hdescR, hclsB]
    exact Cond.unhidden_spec hcB vu
  have hsel2 : selectMethod e.platform vm2 cellB.cls r0 = .method mk := by
    rw [al.selectMethod, Launch.admits_selectMethod X.admits, hclsB]
    exact q4
  have stp : ∀ target, (∀ acts, Steps p.tables e below (doInvoke e ((T.setVm vm2).setTop { mkF m pc ls st with stack := rest }) acts mk (.ref a :: argsL).toArray).1 target) → Steps p.tables e below (T.setTop (mkF m pc ls st)) target := by
    intro target hrest
    show Steps p.tables e below (T.setTop { method := m, pc := pc, locals := ls, stack := st, locked := none }) _
    subst hvm
    jvm_step X.here [hx, hdc, invokeinterface.wp_coldFace (e := e) (s := T) (s₀ := s) (f := mkF m pc ls st) (count := count) X.here.top X.warmed hEn hdk hcf (Or.inr hcp) hck hvia,
      invokeinterface.wp_ready (e := e) (s := T.setVm (T.vm.calledUp m.cls ci index cI r0)) (f := mkF m pc ls st) (count := count) (r := r) (meth := methM) (m := mk) (args := argsL) (rest := rest) (cell := cellB) (kcell := kB2) (ck := dk2) (nk := kI3) (cf := cfile) (ci := ci) (nt := nt) (named := cI)
        X.here.top hready (by rw [State.vm_setVm, al.method?]; exact hrm) hstR (lenOf hpd hpl _ hsigR) hst hcell hobj hkB2 hdk2 (by rw [hed]; exact hcf) hcp hres hkI3 (by rw [hec]; exact hvia) (by rw [State.vm_setVm, al.assignable, hclsB]; exact u3) hsel2 (by rw [State.vm_setVm, al.method?]; exact hmethM) (Or.inr (Or.inr hway)) (Or.inl (Cond.publicMethod_spec hnamed hmethM vp)) habM]
    exact hrest
  have hK : Back l R p e below s args y 5 W _ _ := backOf (W := W) (Q := fun v h2 L => (yQ v h2 ∧ h.size ≤ h2.size) ∧ Fr Z.heap.size L) (K hE []) C.2.1 w5 w6 hf hl
  obtain ⟨v, ⟨T', L', k', n'⟩, X', ⟨L, ⟨hQ, hN⟩, e1, e2, e3⟩, stp2⟩ := hK m meth c ⟨T.setVm vm2, locs, cells, slots⟩ { mkF m pc ls st with stack := rest } (.invokeinterface index count) mk (.ref a :: argsL).toArray hX2 rfl (hsz.trans C.2.2.2.2.1.symm) hdc (by show 2 * 0 + _ ≤ _; rw [Nat.mul_zero, Nat.zero_add]; exact hW) (hX2.named hnamed) ⟨rfl, eT, hcc, hss⟩
  dsimp only [Pt.U, Pt.locs, Pt.cells, Pt.slots] at X' e1 e2 e3 hQ stp2
  subst e1 e2 e3 hp
  exact OGoal.via (fun t kk => (stp _ fun acts => by rw [doInvoke_state]; exact Steps.refl _).trans (stp2.trans kk)) (k v T'.heap hQ.1 hQ.2 C T' _ X' rfl (Fr.app N hN))
end FaceKit
section ModKit
variable {p : Program} {l : Launch} {e : Env} {R : Room} {s : State} {m : MethodId} {args : Array Value} {below : List Frame} {meth : Method} {c : Code} {T : State} {locs : List Loc} {cells slots kc ks : Nat} {Z : State} {a0 : Array Value} {own nm : String} {bytes : ByteArray} {ml : Nat} {ret : Option FieldType} {Q : Option Value → Heap → Prop} {h h' : Heap} {pc pc' : Nat} {ls ls' : Array Slot} {st st' rest : List Value} {a b : Addr} {ca : Nat → Addr}
/-- an object of the model: its kind (0 int[], 1 boolean[], 2 int[][], 3 Object[], 4 and 5 objects), its ints, its references -/
abbrev AO := Nat × List Int32 × List Nat
def nth {α : Type} : List α → Nat → Option α
  | [], _ => none
  | a :: _, 0 => some a
  | _ :: l, n + 1 => nth l n
theorem nth_eq {α : Type} : ∀ (l : List α) (n : Nat), nth l n = l[n]?
  | [], _ => by simp [nth]
  | a :: _, 0 => by simp [nth]
  | _ :: l, n + 1 => by simp [nth, nth_eq l n]
def hget (H : List AO) (r : Nat) : Option AO := match r with
  | 0 => none
  | k + 1 => nth H k
def gt (xs : List Int32) (j : Int32) : Option Int32 := if j < 0 then none else nth xs j.toNatClampNeg
def gr (rs : List Nat) (j : Int32) : Option Nat := if j < 0 then none else nth rs j.toNatClampNeg
def ad (Z : State) (ca : Nat → Addr) (r : Nat) : Addr := if r < 1000 then Z.heap.size + (r - 1) else ca (r - 1000)
def rv (Z : State) (ca : Nat → Addr) (r : Nat) : Value := if r = 0 then .null else .ref (ad Z ca r)
theorem rv_ref {r : Nat} (q : r ≠ 0) : rv Z ca r = .ref (ad Z ca r) := if_neg q
def oCEN : String := "com/example/mild_horn/mildhorn/translation/Centroids"
def oDEQ : String := "java/util/ArrayDeque"
def ocl (t : Nat) : String × List (String × String) × List (String × String) :=
  if t = 4 then ("com/example/mild_horn/mildhorn/translation/Centroids", [("parents", "[I"), ("children", "[[I"), ("neighbours", "[[I"), ("first", "[I"), ("last", "[I"), ("after", "[I")], [("top", "I")])
  else ("java/util/ArrayDeque", [("elements", "[Ljava/lang/Object;")], [("head", "I"), ("tail", "I")])
def RepO (Z : State) (ca : Nat → Addr) (h : Heap) (a : Addr) (o : AO) : Prop := match o with
  | (0, xs, _) => (∃ k0, OArr Z h a k0 .int (xs.map Value.int)) ∧ Exa Z h a "[I"
  | (1, xs, _) => ∃ k0, OArr Z h a k0 .boolean (xs.map Value.int)
  | (2, _, rs) => ∃ k0, OArr Z h a k0 (.array .int) (rs.map (rv Z ca)) ∧ OvrA Z k0 .int "[I"
  | (3, _, rs) => ∃ k0, OArr Z h a k0 (.object "java/lang/Object") (rs.map (rv Z ca)) ∧ Ovr Z k0 "java/lang/Object"
  | (t + 4, xs, rs) => Exa Z h a (ocl (t + 4)).1 ∧ (∀ i n d x, nth (ocl (t + 4)).2.1 i = some (n, d) → nth rs i = some x → Fld Z h a (ocl (t + 4)).1 n d (rv Z ca x)) ∧ (∀ i n d x, nth (ocl (t + 4)).2.2 i = some (n, d) → nth xs i = some x → Fld Z h a (ocl (t + 4)).1 n d (.int x))
theorem RepO.ext {o : AO} (F : RepO Z ca h a o) (E : Ext h h') : RepO Z ca h' a o := by
  obtain ⟨t, xs, rs⟩ := o
  match t, F with
  | 0, F => exact ⟨F.1.imp fun k q => q.ext E, F.2.ext E⟩
  | 1, F => exact F.imp fun k q => q.ext E
  | 2, F => exact F.imp fun k q => ⟨q.1.ext E, q.2⟩
  | 3, F => exact F.imp fun k q => ⟨q.1.ext E, q.2⟩
  | t + 4, F => exact ⟨F.1.ext E, fun i n d x h1 h2 => (F.2.1 i n d x h1 h2).ext E, fun i n d x h1 h2 => (F.2.2 i n d x h1 h2).ext E⟩
theorem RepO.other {o : AO} {sl : Nat} {v : Value} (F : RepO Z ca h a o) (W : Wr h h' b sl v) (q : a ≠ b) : RepO Z ca h' a o := by
  obtain ⟨t, xs, rs⟩ := o
  match t, F with
  | 0, F => exact ⟨F.1.imp fun k z => z.other W q, F.2.wr W⟩
  | 1, F => exact F.imp fun k z => z.other W q
  | 2, F => exact F.imp fun k z => ⟨z.1.other W q, z.2⟩
  | 3, F => exact F.imp fun k z => ⟨z.1.other W q, z.2⟩
  | t + 4, F => exact ⟨F.1.wr W, fun i n d x h1 h2 => (F.2.1 i n d x h1 h2).other W (Or.inl q), fun i n d x h1 h2 => (F.2.2 i n d x h1 h2).other W (Or.inl q)⟩
/-- the heap, behind Z's, is the model's -/
def Rep (Z : State) (ca : Nat → Addr) (h : Heap) (H : List AO) : Prop := Ext Z.heap h ∧ h.size = Z.heap.size + H.length ∧ H.length ≤ 500 ∧ ∀ k o, nth H k = some o → RepO Z ca h (Z.heap.size + k) o
theorem own_wrne {sl x : Nat} {v : Value} (W : Wr h h' b sl v) (q : x ≠ b) : h'[x]? = h[x]? := by
  obtain ⟨cell, _, _, _, rfl⟩ := W
  rw [Array.getElem?_setIfInBounds, if_neg (fun z => q z.symm)]
theorem Rep.put {H : List AO} {k sl : Nat} {o o' : AO} {v : Value} (F : Rep Z ca h H) (hk : nth H k = some o) (W : Wr h h' (Z.heap.size + k) sl v) (N : RepO Z ca h' (Z.heap.size + k) o') : Rep Z ca h' (H.set k o') := by
  refine ⟨⟨by rw [W.size]; exact F.1.1, fun x cl q => ?_⟩, by rw [W.size, List.length_set]; exact F.2.1, by rw [List.length_set]; exact F.2.2.1, fun j oj hj => ?_⟩
  · have hx : x < Z.heap.size := (Array.getElem?_eq_some_iff.mp q).1
    rw [own_wrne W (Nat.ne_of_lt (Nat.lt_of_lt_of_le hx (Nat.le_add_right _ _)))]
    exact F.1.2 x cl q
  · rw [nth_eq, List.getElem?_set] at hj
    by_cases e : k = j
    · subst e
      rw [if_pos rfl] at hj
      split at hj
      · cases hj; exact N
      · cases hj
    · rw [if_neg e, ← nth_eq] at hj
      exact (F.2.2.2 j oj hj).other W (fun z => e (Nat.add_left_cancel z).symm)
theorem Rep.add {H : List AO} {o : AO} (F : Rep Z ca h H) (hl : H.length < 500) (E : Ext h h') (hs : h'.size = h.size + 1) (N : RepO Z ca h' h.size o) : Rep Z ca h' (H ++ [o]) := by
  refine ⟨⟨Nat.le_trans F.1.1 E.1, fun x cl q => E.2 _ _ (F.1.2 x cl q)⟩, by rw [hs, F.2.1, List.length_append]; simp; omega, by rw [List.length_append]; simp; omega, fun j oj hj => ?_⟩
  rw [nth_eq, List.getElem?_append] at hj
  split at hj
  · rw [← nth_eq] at hj; exact (F.2.2.2 j oj hj).ext E
  · next q =>
    have : j = H.length := by
      rcases Nat.lt_or_ge (j - H.length) 1 with z | z
      · omega
      · rw [List.getElem?_eq_none (by simpa using z)] at hj; cases hj
    subst this
    rw [Nat.sub_self] at hj
    cases hj
    rw [← F.2.1]
    exact N
theorem Rep.get {H : List AO} {r : Nat} {o : AO} (F : Rep Z ca h H) (q : hget H r = some o) : r ≠ 0 ∧ ad Z ca r = Z.heap.size + (r - 1) ∧ nth H (r - 1) = some o ∧ RepO Z ca h (ad Z ca r) o := by
  cases r with
  | zero => cases q
  | succ k =>
    have q' : nth H k = some o := q
    have hk : k < H.length := by rw [nth_eq] at q'; exact (List.getElem?_eq_some_iff.mp q').1
    have := F.2.2.1
    have e : ad Z ca (k + 1) = Z.heap.size + k := if_pos (by omega)
    exact ⟨by omega, e, q', by rw [e]; exact F.2.2.2 k o q'⟩
theorem Rep.new {H : List AO} (F : Rep Z ca h H) (hl : H.length < 500) : ad Z ca (H.length + 1) = h.size := by
  rw [F.2.1]
  exact if_pos (by omega)
theorem own_bind {α β : Type} {o : Option α} {f : α → Option β} {r : β} (q : o.bind f = some r) : ∃ v, o = some v ∧ f v = some r := by
  cases o with
  | none => cases q
  | some v => exact ⟨v, rfl, q⟩
theorem own_ite {α : Type} {P : Prop} [Decidable P] {x : Option α} {r : α} (q : (if P then x else none) = some r) : P ∧ x = some r := by
  by_cases hp : P
  · rw [if_pos hp] at q; exact ⟨hp, q⟩
  · rw [if_neg hp] at q; cases q
theorem own_nite {α : Type} {P : Prop} [Decidable P] {x : Option α} {r : α} (q : (if P then none else x) = some r) : ¬ P ∧ x = some r := by
  by_cases hp : P
  · rw [if_pos hp] at q; cases q
  · rw [if_neg hp] at q; exact ⟨hp, q⟩
theorem own_back {j : Int32} (hj : ¬ j < 0) : j = Int32.ofNat j.toNatClampNeg ∧ j.toNatClampNeg < 2 ^ 31 := by
  have h1 : (0 : Int32).toInt = 0 := rfl
  rw [Int32.lt_iff_toInt_lt, h1] at hj
  have h2 := Int32.toInt_lt j
  have h3 : j.toNatClampNeg < 2 ^ 31 := by show j.toInt.toNat < _; omega
  refine ⟨Int32.toInt_inj.mp ?_, h3⟩
  have : (Int32.ofNat j.toNatClampNeg).toInt = Int.bmod j.toNatClampNeg (2 ^ 32) := Int32.toInt_ofNat'
  rw [this, Int.bmod_def]
  show j.toInt = _
  have h4 : j.toNatClampNeg = j.toInt.toNat := rfl
  rw [h4]
  omega
/-! reading and writing -/
def ilo (t : Nat) (H : List AO) (r : Nat) (j : Int32) : Option Int32 := (hget H r).bind fun o => if o.1 = t then gt o.2.1 j else none
def ist (t : Nat) (H : List AO) (r : Nat) (j v : Int32) : Option (List AO) := (hget H r).bind fun o => if o.1 = t then (if j < 0 then none else if j.toNatClampNeg < o.2.1.length then some (H.set (r - 1) (t, o.2.1.set j.toNatClampNeg v, o.2.2)) else none) else none
def aln (H : List AO) (r : Nat) : Option Int32 := (hget H r).bind fun o => if o.1 = 0 then some (Int32.ofNat o.2.1.length) else if o.1 = 2 then some (Int32.ofNat o.2.2.length) else if o.1 = 3 then some (Int32.ofNat o.2.2.length) else none
def rlo (H : List AO) (r : Nat) (j : Int32) : Option Nat := (hget H r).bind fun o => if o.1 = 2 ∨ o.1 = 3 then ((gr o.2.2 j).bind fun x => if x = 0 then none else some x) else none
/-- what an Object[] takes: an int[] or an Integer -/
def isO (H : List AO) (v : Nat) : Bool := if v < 1000 then ((hget H v).any fun o => o.1 == 0) else decide (v < 1256)
def rst (t : Nat) (H : List AO) (r : Nat) (j : Int32) (v : Nat) : Option (List AO) := (hget H r).bind fun o => if o.1 = t then (if j < 0 then none else if j.toNatClampNeg < o.2.2.length then some (H.set (r - 1) (t, o.2.1, o.2.2.set j.toNatClampNeg v)) else none) else none
def rst2 (H : List AO) (r : Nat) (j : Int32) (v : Nat) : Option (List AO) := if ((hget H v).any fun o => o.1 == 0) = true then rst 2 H r j v else none
def rst3 (H : List AO) (r : Nat) (j : Int32) (v : Nat) : Option (List AO) := if isO H v = true then rst 3 H r j v else none
theorem gt_spec {xs : List Int32} {j v : Int32} (q : gt xs j = some v) : j = Int32.ofNat j.toNatClampNeg ∧ (xs.map Value.int)[j.toNatClampNeg]? = some (.int v) := by
  obtain ⟨h1, h2⟩ := own_nite q
  rw [nth_eq] at h2
  exact ⟨(own_back h1).1, by rw [List.getElem?_map, h2]; rfl⟩
theorem m_iald {H : List AO} {r : Nat} {j v : Int32} (F : Rep Z ca h H) (hv : ilo 0 H r j = some v) (hd : decode bytes pc = .ok (.iaload, 1)) (hp : pc + 1 = pc')
    (k : OG p l e R s m args below meth c Z own nm bytes ml ret Q kc ks h cells slots (mkF m pc' ls (.int v :: rest))) : OG p l e R s m args below meth c Z own nm bytes ml ret Q kc ks h cells slots (mkF m pc ls (.int j :: .ref (ad Z ca r) :: rest)) := by
  obtain ⟨⟨t, xs, rs⟩, q1, q2⟩ := own_bind hv
  obtain ⟨q3, q4⟩ := own_ite q2
  dsimp only at q3 q4
  subst q3
  obtain ⟨-, -, -, ⟨⟨k0, G⟩, -⟩⟩ := F.get q1
  obtain ⟨e1, e2⟩ := gt_spec q4
  exact o_iald G e1 e2 hd hp k
theorem m_zald {H : List AO} {r : Nat} {j v : Int32} (F : Rep Z ca h H) (hv : ilo 1 H r j = some v) (hd : decode bytes pc = .ok (.baload, 1)) (hp : pc + 1 = pc')
    (k : OG p l e R s m args below meth c Z own nm bytes ml ret Q kc ks h cells slots (mkF m pc' ls (.int v :: rest))) : OG p l e R s m args below meth c Z own nm bytes ml ret Q kc ks h cells slots (mkF m pc ls (.int j :: .ref (ad Z ca r) :: rest)) := by
  obtain ⟨⟨t, xs, rs⟩, q1, q2⟩ := own_bind hv
  obtain ⟨q3, q4⟩ := own_ite q2
  dsimp only at q3 q4
  subst q3
  obtain ⟨-, -, -, ⟨k0, G⟩⟩ := F.get q1
  obtain ⟨e1, e2⟩ := gt_spec q4
  exact o_zald G e1 e2 hd hp k
theorem own_zle (Z : State) (k : Nat) : Z.heap.size ≤ Z.heap.size + k := Nat.le_add_right _ _
theorem m_iast {H H' : List AO} {r : Nat} {j x : Int32} (F : Rep Z ca h H) (hs : ist 0 H r j x = some H') (hd : decode bytes pc = .ok (.iastore, 1)) (hp : pc + 1 = pc')
    (k : ∀ h', Rep Z ca h' H' → OG p l e R s m args below meth c Z own nm bytes ml ret Q kc ks h' cells slots (mkF m pc' ls rest)) : OG p l e R s m args below meth c Z own nm bytes ml ret Q kc ks h cells slots (mkF m pc ls (.int x :: .int j :: .ref (ad Z ca r) :: rest)) := by
  obtain ⟨⟨t, xs, rs⟩, q1, q2⟩ := own_bind hs
  obtain ⟨q3, q4⟩ := own_ite q2
  dsimp only at q3 q4
  subst q3
  obtain ⟨q5, q6⟩ := own_nite q4
  obtain ⟨q7, q8⟩ := own_ite q6
  cases q8
  obtain ⟨r0, e0, n0, ⟨⟨k0, G⟩, E⟩⟩ := F.get q1
  rw [e0] at G E ⊢
  refine o_iast G (own_back q5).1 (by rw [List.length_map]; exact q7) (own_zle _ _) hd hp fun h' W => k h' ?_
  have G' := G.set W
  rw [← List.map_set] at G'
  exact F.put n0 W ⟨⟨k0, G'⟩, E.wr W⟩
theorem m_zast {H H' : List AO} {r : Nat} {j : Int32} (F : Rep Z ca h H) (hs : ist 1 H r j 1 = some H') (hd : decode bytes pc = .ok (.bastore, 1)) (hp : pc + 1 = pc')
    (k : ∀ h', Rep Z ca h' H' → OG p l e R s m args below meth c Z own nm bytes ml ret Q kc ks h' cells slots (mkF m pc' ls rest)) : OG p l e R s m args below meth c Z own nm bytes ml ret Q kc ks h cells slots (mkF m pc ls (.int 1 :: .int j :: .ref (ad Z ca r) :: rest)) := by
  obtain ⟨⟨t, xs, rs⟩, q1, q2⟩ := own_bind hs
  obtain ⟨q3, q4⟩ := own_ite q2
  dsimp only at q3 q4
  subst q3
  obtain ⟨q5, q6⟩ := own_nite q4
  obtain ⟨q7, q8⟩ := own_ite q6
  cases q8
  obtain ⟨r0, e0, n0, ⟨k0, G⟩⟩ := F.get q1
  rw [e0] at G ⊢
  refine o_zast G (own_back q5).1 (by rw [List.length_map]; exact q7) (own_zle _ _) hd hp fun h' W => k h' ?_
  have G' := G.set W
  rw [show nar .boolean (1 : Int32) = 1 from rfl, ← List.map_set] at G'
  exact F.put n0 W ⟨k0, G'⟩
theorem m_len {H : List AO} {r : Nat} {n : Int32} (F : Rep Z ca h H) (hv : aln H r = some n) (hd : decode bytes pc = .ok (.arraylength, 1)) (hp : pc + 1 = pc')
    (k : OG p l e R s m args below meth c Z own nm bytes ml ret Q kc ks h cells slots (mkF m pc' ls (.int n :: rest))) : OG p l e R s m args below meth c Z own nm bytes ml ret Q kc ks h cells slots (mkF m pc ls (.ref (ad Z ca r) :: rest)) := by
  obtain ⟨⟨t, xs, rs⟩, q1, q2⟩ := own_bind hv
  dsimp only at q2
  by_cases t0 : t = 0
  · subst t0
    cases q2
    obtain ⟨-, -, -, ⟨⟨k0, G⟩, -⟩⟩ := F.get q1
    refine o_len G hd hp ?_
    rw [List.length_map]; exact k
  · rw [if_neg t0] at q2
    by_cases t2 : t = 2
    · subst t2
      cases q2
      obtain ⟨-, -, -, ⟨k0, G, -⟩⟩ := F.get q1
      refine o_len G hd hp ?_
      rw [List.length_map]; exact k
    · rw [if_neg t2] at q2
      obtain ⟨rfl, q3⟩ := own_ite q2
      cases q3
      obtain ⟨-, -, -, ⟨k0, G, -⟩⟩ := F.get q1
      refine o_len G hd hp ?_
      rw [List.length_map]; exact k
theorem m_aald {H : List AO} {r x : Nat} {j : Int32} (F : Rep Z ca h H) (hv : rlo H r j = some x) (hd : decode bytes pc = .ok (.aaload, 1)) (hp : pc + 1 = pc')
    (k : OG p l e R s m args below meth c Z own nm bytes ml ret Q kc ks h cells slots (mkF m pc' ls (.ref (ad Z ca x) :: rest))) : OG p l e R s m args below meth c Z own nm bytes ml ret Q kc ks h cells slots (mkF m pc ls (.int j :: .ref (ad Z ca r) :: rest)) := by
  obtain ⟨⟨t, xs, rs⟩, q1, q2⟩ := own_bind hv
  obtain ⟨q3, q4⟩ := own_ite q2
  dsimp only at q3 q4
  obtain ⟨y, q5, q6⟩ := own_bind q4
  obtain ⟨q7, q8⟩ := own_nite q6
  cases q8
  obtain ⟨h1, h2⟩ := own_nite q5
  rw [nth_eq] at h2
  have e2 : (rs.map (rv Z ca))[j.toNatClampNeg]? = some (.ref (ad Z ca x)) := by rw [List.getElem?_map, h2]; exact congrArg some (rv_ref q7)
  rcases q3 with rfl | rfl
  · obtain ⟨-, -, -, ⟨k0, G, -⟩⟩ := F.get q1
    exact o_aald G rfl (own_back h1).1 e2 hd hp k
  · obtain ⟨-, -, -, ⟨k0, G, -⟩⟩ := F.get q1
    exact o_aald G rfl (own_back h1).1 e2 hd hp k
theorem own_any {H : List AO} {v : Nat} (q : ((hget H v).any fun o => o.1 == 0) = true) (F : Rep Z ca h H) : v ≠ 0 ∧ Exa Z h (ad Z ca v) "[I" := by
  cases hq : hget H v with
  | none => rw [hq] at q; cases q
  | some o =>
    obtain ⟨t, xs, rs⟩ := o
    rw [hq] at q
    have h3 : t = 0 := by simpa using q
    subst h3
    obtain ⟨r0, -, -, ⟨-, E⟩⟩ := F.get hq
    exact ⟨r0, E⟩
theorem m_aast2 {H H' : List AO} {r v : Nat} {j : Int32} (F : Rep Z ca h H) (hs : rst2 H r j v = some H') (hd : decode bytes pc = .ok (.aastore, 1)) (hp : pc + 1 = pc')
    (k : ∀ h', Rep Z ca h' H' → OG p l e R s m args below meth c Z own nm bytes ml ret Q kc ks h' cells slots (mkF m pc' ls rest)) : OG p l e R s m args below meth c Z own nm bytes ml ret Q kc ks h cells slots (mkF m pc ls (.ref (ad Z ca v) :: .int j :: .ref (ad Z ca r) :: rest)) := by
  obtain ⟨p1, p2⟩ := own_ite hs
  obtain ⟨v0, Ev⟩ := own_any p1 F
  obtain ⟨⟨t, xs, rs⟩, q1, q2⟩ := own_bind p2
  obtain ⟨q3, q4⟩ := own_ite q2
  dsimp only at q3 q4
  subst q3
  obtain ⟨q5, q6⟩ := own_nite q4
  obtain ⟨q7, q8⟩ := own_ite q6
  cases q8
  obtain ⟨r0, e0, n0, ⟨k0, G, O⟩⟩ := F.get q1
  rw [e0] at G ⊢
  have S : Sto Z h (Z.heap.size + (r - 1)) (.ref (ad Z ca v)) := by
    obtain ⟨cl, A, z0, -, -⟩ := G
    exact Sto.ofVA A z0 O (Ins.self Ev)
  refine o_aast G rfl S (own_back q5).1 (by rw [List.length_map]; exact q7) (own_zle _ _) hd hp fun h' W => k h' ?_
  have G' := G.set W
  rw [← rv_ref (Z := Z) (ca := ca) v0, ← List.map_set] at G'
  exact F.put n0 W ⟨k0, G', O⟩
/-- the Integers of the cache -/
def OCa (Z : State) (ca : Nat → Addr) : Prop := ∀ i, i < 256 → Exa Z Z.heap (ca i) "java/lang/Integer" ∧ Fld Z Z.heap (ca i) "java/lang/Integer" "value" "I" (.int (Int32.ofNat i - 128))
theorem m_aast3 {H H' : List AO} {r v : Nat} {j : Int32} (F : Rep Z ca h H) (hca : OCa Z ca) (w1 : (Cond.castable "[I" "java/lang/Object").before a0 Z = true) (w2 : (Cond.castable "java/lang/Integer" "java/lang/Object").before a0 Z = true) (hs : rst3 H r j v = some H') (hd : decode bytes pc = .ok (.aastore, 1)) (hp : pc + 1 = pc')
    (k : ∀ h', Rep Z ca h' H' → OG p l e R s m args below meth c Z own nm bytes ml ret Q kc ks h' cells slots (mkF m pc' ls rest)) : OG p l e R s m args below meth c Z own nm bytes ml ret Q kc ks h cells slots (mkF m pc ls (.ref (ad Z ca v) :: .int j :: .ref (ad Z ca r) :: rest)) := by
  obtain ⟨p1, p2⟩ := own_ite hs
  have hv : v ≠ 0 ∧ Ins Z h (ad Z ca v) "java/lang/Object" true := by
    unfold isO at p1
    split at p1
    · obtain ⟨v0, Ev⟩ := own_any p1 F
      exact ⟨v0, Ins.of_exa Ev w1⟩
    · next q =>
      have q2 : v < 1256 := of_decide_eq_true p1
      refine ⟨by omega, ?_⟩
      rw [show ad Z ca v = ca (v - 1000) from if_neg q]
      exact Ins.of_exa ((hca (v - 1000) (by omega)).1.ext F.1) w2
  obtain ⟨⟨t, xs, rs⟩, q1, q2⟩ := own_bind p2
  obtain ⟨q3, q4⟩ := own_ite q2
  dsimp only at q3 q4
  subst q3
  obtain ⟨q5, q6⟩ := own_nite q4
  obtain ⟨q7, q8⟩ := own_ite q6
  cases q8
  obtain ⟨r0, e0, n0, ⟨k0, G, O⟩⟩ := F.get q1
  rw [e0] at G ⊢
  refine o_aast G rfl (own_sto G O hv.2) (own_back q5).1 (by rw [List.length_map]; exact q7) (own_zle _ _) hd hp fun h' W => k h' ?_
  have G' := G.set W
  rw [← rv_ref (Z := Z) (ca := ca) hv.1, ← List.map_set] at G'
  exact F.put n0 W ⟨k0, G', O⟩
theorem m_aastN {H H' : List AO} {r : Nat} {j : Int32} (F : Rep Z ca h H) (hs : rst 3 H r j 0 = some H') (hd : decode bytes pc = .ok (.aastore, 1)) (hp : pc + 1 = pc')
    (k : ∀ h', Rep Z ca h' H' → OG p l e R s m args below meth c Z own nm bytes ml ret Q kc ks h' cells slots (mkF m pc' ls rest)) : OG p l e R s m args below meth c Z own nm bytes ml ret Q kc ks h cells slots (mkF m pc ls (.null :: .int j :: .ref (ad Z ca r) :: rest)) := by
  obtain ⟨⟨t, xs, rs⟩, q1, q2⟩ := own_bind hs
  obtain ⟨q3, q4⟩ := own_ite q2
  dsimp only at q3 q4
  subst q3
  obtain ⟨q5, q6⟩ := own_nite q4
  obtain ⟨q7, q8⟩ := own_ite q6
  cases q8
  obtain ⟨r0, e0, n0, ⟨k0, G, O⟩⟩ := F.get q1
  rw [e0] at G ⊢
  refine o_aast G rfl (Or.inl rfl) (own_back q5).1 (by rw [List.length_map]; exact q7) (own_zle _ _) hd hp fun h' W => k h' ?_
  have G' := G.set W
  rw [show (Value.null) = rv Z ca 0 from rfl, ← List.map_set] at G'
  exact F.put n0 W ⟨k0, G', O⟩
/-! objects -/
def hnew (H : List AO) (o : AO) : Option (List AO × Nat) := if H.length < 500 then some (H ++ [o], H.length + 1) else none
def newI (t : Nat) (H : List AO) (j : Int32) : Option (List AO × Nat) := if j < 0 then none else if j.toNatClampNeg ≤ 8 then hnew H (t, List.replicate j.toNatClampNeg 0, []) else none
def newQ (t cap : Nat) (H : List AO) (j : Int32) : Option (List AO × Nat) := if j < 0 then none else if j.toNatClampNeg ≤ cap then hnew H (t, [], List.replicate j.toNatClampNeg 0) else none
theorem own_push (h : Heap) (cl : Cell) : Ext h (h.push cl) ∧ (h.push cl).size = h.size + 1 ∧ (h.push cl)[h.size]? = some cl :=
  ⟨⟨by simp, fun a c q => by rw [Array.getElem?_push_lt (Array.getElem?_eq_some_iff.mp q).1]; exact (Array.getElem?_eq_getElem _).symm.trans q⟩, by simp, by simp⟩
theorem own_kind {cA : ClassId} {kA : Class} {n0 : String} {K : Kind} (hZ : Z.Warmed39 s.vm) (h1 : s.vm.findClass n0 = some cA) (h2 : s.vm.classes[cA]? = some kA) (h3 : kA.kind = K) : ∃ kZ, Z.vm.findClass n0 = some cA ∧ Z.vm.classes[cA]? = some kZ ∧ kZ.kind = K := by
  rw [hZ.alike.findClass] at h1
  obtain ⟨kZ, z1, -⟩ := Vm.findClass_spec h1
  obtain ⟨k', z2, z3⟩ := hZ.alike.2.2 _ _ z1
  cases h2.symm.trans z2
  exact ⟨kZ, h1, z1, by rw [← h3, z3]⟩
theorem own_arrP {cA comp : ClassId} {kZ : Class} {ty : FieldType} {n0 : String} {n : Nat} (hn : n < 2 ^ 31) (v : Value) (z0 : Z.vm.findClass n0 = some cA) (z1 : Z.vm.classes[cA]? = some kZ) (z2 : kZ.kind = .array comp ty) (h : Heap) :
    OArr Z (h.push { cls := cA, slots := Array.replicate n v, vm := .none }) h.size cA ty (List.replicate n v) ∧ Exa Z (h.push { cls := cA, slots := Array.replicate n v, vm := .none }) h.size n0 := by
  have hN := (own_push h { cls := cA, slots := Array.replicate n v, vm := .none }).2.2
  exact ⟨⟨_, ⟨hN, ⟨by simp, kZ, z1, comp, z2⟩, by simp⟩, rfl, by simp, by simpa using hn⟩, ⟨_, kZ, hN, z0, z1, rfl, fun q => by rw [z2] at q; cases q⟩⟩
theorem m_newI {H : List AO} {j : Int32} {o : List AO × Nat} (F : Rep Z ca h H) (w : (Cond.arrayClass .int).before a0 Z = true) (hv : newI 0 H j = some o) (hd : decode bytes pc = .ok (.newarray .int, 2)) (hc : cells + 1 ≤ R.cells) (hl : slots + 8 ≤ R.slots) (hp : pc + 2 = pc')
    (k : ∀ h', Rep Z ca h' o.1 → OG p l e R s m args below meth c Z own nm bytes ml ret Q kc ks h' (cells + 1) (slots + 8) (mkF m pc' ls (.ref (ad Z ca o.2) :: rest))) : OG p l e R s m args below meth c Z own nm bytes ml ret Q kc ks h cells slots (mkF m pc ls (.int j :: rest)) := by
  intro C T locs X eT N
  obtain ⟨q1, q2⟩ := own_nite hv
  obtain ⟨q3, q4⟩ := own_ite q2
  obtain ⟨q5, q6⟩ := own_ite q4
  cases q6
  obtain ⟨cA, kA, comp, h1, h2, h3, X', stp⟩ := X.newarrayPrim (atype := .int) C.1 (mvA C.2.1 w) (g := mkF m pc ls (.int j :: rest)) rfl (hb C.2.2.2.1 hd) rfl q1 (Nat.le_trans (Nat.mul_le_mul q3 (Nat.le_refl _)) (by decide)) hc (by omega)
  obtain ⟨kZ, z0, z1, z2⟩ := own_kind C.2.1 h1 h2 h3
  subst hp eT
  obtain ⟨A, E⟩ := own_arrP (own_back q1).2 (defaultValue .int) z0 z1 z2 T.heap
  have P := own_push T.heap { cls := cA, slots := Array.replicate j.toNatClampNeg (defaultValue .int), vm := .none }
  have F' := F.add q5 P.1 P.2.1 (o := (0, List.replicate j.toNatClampNeg 0, [])) ⟨⟨cA, by rw [List.map_replicate]; exact A⟩, E⟩
  exact OGoal.via stp (by rw [← F.new q5]; exact k _ F' C _ locs (X'.more (Nat.le_refl _) (by omega)) rfl N)
theorem m_newZ {H : List AO} {j : Int32} {o : List AO × Nat} (F : Rep Z ca h H) (w : (Cond.arrayClass .boolean).before a0 Z = true) (hv : newI 1 H j = some o) (hd : decode bytes pc = .ok (.newarray .boolean, 2)) (hc : cells + 1 ≤ R.cells) (hl : slots + 8 ≤ R.slots) (hp : pc + 2 = pc')
    (k : ∀ h', Rep Z ca h' o.1 → OG p l e R s m args below meth c Z own nm bytes ml ret Q kc ks h' (cells + 1) (slots + 8) (mkF m pc' ls (.ref (ad Z ca o.2) :: rest))) : OG p l e R s m args below meth c Z own nm bytes ml ret Q kc ks h cells slots (mkF m pc ls (.int j :: rest)) := by
  intro C T locs X eT N
  obtain ⟨q1, q2⟩ := own_nite hv
  obtain ⟨q3, q4⟩ := own_ite q2
  obtain ⟨q5, q6⟩ := own_ite q4
  cases q6
  obtain ⟨cA, kA, comp, h1, h2, h3, X', stp⟩ := X.newarrayPrim (atype := .boolean) C.1 (mvA C.2.1 w) (g := mkF m pc ls (.int j :: rest)) rfl (hb C.2.2.2.1 hd) rfl q1 (Nat.le_trans (Nat.mul_le_mul q3 (Nat.le_refl _)) (by decide)) hc (by omega)
  obtain ⟨kZ, z0, z1, z2⟩ := own_kind C.2.1 h1 h2 h3
  subst hp eT
  obtain ⟨A, E⟩ := own_arrP (own_back q1).2 (defaultValue .boolean) z0 z1 z2 T.heap
  have P := own_push T.heap { cls := cA, slots := Array.replicate j.toNatClampNeg (defaultValue .boolean), vm := .none }
  have F' := F.add q5 P.1 P.2.1 (o := (1, List.replicate j.toNatClampNeg 0, [])) ⟨cA, by rw [List.map_replicate]; exact A⟩
  exact OGoal.via stp (by rw [← F.new q5]; exact k _ F' C _ locs (X'.more (Nat.le_refl _) (by omega)) rfl N)
theorem m_newG {H : List AO} {j : Int32} {index : Nat} {o : List AO × Nat} (F : Rep Z ca h H) (w1 : (Cond.classLink own index "[I").before a0 Z = true) (w2 : (Cond.arrayOver (.array .int)).before a0 Z = true) (hv : newQ 2 8 H j = some o) (hd : decode bytes pc = .ok (.anewarray index, 3)) (hc : cells + 1 ≤ R.cells) (hl : slots + 8 ≤ R.slots) (hp : pc + 3 = pc')
    (k : ∀ h', Rep Z ca h' o.1 → OG p l e R s m args below meth c Z own nm bytes ml ret Q kc ks h' (cells + 1) (slots + 8) (mkF m pc' ls (.ref (ad Z ca o.2) :: rest))) : OG p l e R s m args below meth c Z own nm bytes ml ret Q kc ks h cells slots (mkF m pc ls (.int j :: rest)) := by
  intro C T locs X eT N
  obtain ⟨q1, q2⟩ := own_nite hv
  obtain ⟨q3, q4⟩ := own_ite q2
  obtain ⟨q5, q6⟩ := own_ite q4
  cases q6
  obtain ⟨vm1, cA, kA, comp, -, h1, h2, h3, h4, X', stp⟩ := X.anewarrayArrK (ty := .int) C.1 C.2.2.1 (mvT C.2.1 w1) (arrayOver_alikeB C.2.1.alike w2) (g := mkF m pc ls (.int j :: rest)) rfl (hb C.2.2.2.1 hd) rfl q1 (by omega) hc (by omega)
  obtain ⟨kZ, z0, z1, z2⟩ := own_kind C.2.1 h1 h2 h3
  subst hp eT
  obtain ⟨A, E⟩ := own_arrP (own_back q1).2 .null z0 z1 z2 T.heap
  have P := own_push T.heap { cls := cA, slots := Array.replicate j.toNatClampNeg .null, vm := .none }
  have F' := F.add q5 P.1 P.2.1 (o := (2, [], List.replicate j.toNatClampNeg 0)) ⟨cA, by rw [List.map_replicate]; exact A, kZ, comp, z1, z2, by rw [← C.2.1.alike.findClass]; exact h4⟩
  exact OGoal.via stp (by rw [← F.new q5]; exact k _ F' C _ locs (X'.more (Nat.le_refl _) (by omega)) rfl N)
theorem m_newR {H : List AO} {j : Int32} {index : Nat} {o : List AO × Nat} (F : Rep Z ca h H) (w1 : (Cond.classLink own index "java/lang/Object").before a0 Z = true) (w2 : (Cond.arrayOver (.object "java/lang/Object")).before a0 Z = true) (hv : newQ 3 17 H j = some o) (hd : decode bytes pc = .ok (.anewarray index, 3)) (hc : cells + 1 ≤ R.cells) (hl : slots + 17 ≤ R.slots) (hp : pc + 3 = pc')
    (k : ∀ h', Rep Z ca h' o.1 → OG p l e R s m args below meth c Z own nm bytes ml ret Q kc ks h' (cells + 1) (slots + 17) (mkF m pc' ls (.ref (ad Z ca o.2) :: rest))) : OG p l e R s m args below meth c Z own nm bytes ml ret Q kc ks h cells slots (mkF m pc ls (.int j :: rest)) := by
  intro C T locs X eT N
  obtain ⟨q1, q2⟩ := own_nite hv
  obtain ⟨q3, q4⟩ := own_ite q2
  obtain ⟨q5, q6⟩ := own_ite q4
  cases q6
  obtain ⟨vm1, cA, kA, comp, -, h1, h2, h3, h4, X', stp⟩ := X.anewarrayRefK C.1 C.2.2.1 (mvT C.2.1 w1) (Cond.arrayOver_alike C.2.1.alike w2) (g := mkF m pc ls (.int j :: rest)) rfl (hb C.2.2.2.1 hd) rfl q1 (by omega) hc (by omega)
  obtain ⟨kZ, z0, z1, z2⟩ := own_kind C.2.1 h1 h2 h3
  subst hp eT
  obtain ⟨A, E⟩ := own_arrP (own_back q1).2 .null z0 z1 z2 T.heap
  have P := own_push T.heap { cls := cA, slots := Array.replicate j.toNatClampNeg .null, vm := .none }
  have F' := F.add q5 P.1 P.2.1 (o := (3, [], List.replicate j.toNatClampNeg 0)) ⟨cA, by rw [List.map_replicate]; exact A, kZ, comp, z1, z2, by rw [← C.2.1.alike.findClass]; exact h4⟩
  exact OGoal.via stp (by rw [← F.new q5]; exact k _ F' C _ locs (X'.more (Nat.le_refl _) (by omega)) rfl N)
/-- the layout of the two classes -/
def Lay (Z : State) (a0 : Array Value) (t : Nat) : Prop := (∀ i n d, nth (ocl t).2.1 i = some (n, d) → Laid Z a0 (ocl t).1 (ocl t).1 n d ∧ ∃ ty, parseFieldDescriptor d = some ty ∧ defaultValue ty = .null ∧ ∀ a, narrow ty (.ref a) = .ref a ∧ fits ty (.ref a) = true) ∧ (∀ i n d, nth (ocl t).2.2 i = some (n, d) → Laid Z a0 (ocl t).1 (ocl t).1 n d ∧ parseFieldDescriptor d = some .int)
  ∧ (∀ i j n d n' d', nth (ocl t).2.1 i = some (n, d) → nth (ocl t).2.1 j = some (n', d') → i ≠ j → n ≠ n') ∧ (∀ i j n d n' d', nth (ocl t).2.2 i = some (n, d) → nth (ocl t).2.2 j = some (n', d') → i ≠ j → n ≠ n') ∧ (∀ i j n d n' d', nth (ocl t).2.1 i = some (n, d) → nth (ocl t).2.2 j = some (n', d') → n ≠ n')
def gfr (t : Nat) (H : List AO) (r i : Nat) : Option Nat := (hget H r).bind fun o => if o.1 = t then ((nth o.2.2 i).bind fun x => if x = 0 then none else some x) else none
def gfi (t : Nat) (H : List AO) (r i : Nat) : Option Int32 := (hget H r).bind fun o => if o.1 = t then nth o.2.1 i else none
def pfr (t : Nat) (H : List AO) (r i x : Nat) : Option (List AO) := (hget H r).bind fun o => if o.1 = t then ((nth o.2.2 i).bind fun _ => if x = 0 then none else some (H.set (r - 1) (t, o.2.1, o.2.2.set i x))) else none
def pfi (t : Nat) (H : List AO) (r i : Nat) (x : Int32) : Option (List AO) := (hget H r).bind fun o => if o.1 = t then ((nth o.2.1 i).bind fun _ => some (H.set (r - 1) (t, o.2.1.set i x, o.2.2))) else none
theorem m_getR {H : List AO} {t i r x index : Nat} {n d C0 : String} (F : Rep Z ca h H) (hv : gfr (t + 4) H r i = some x) (hi : nth (ocl (t + 4)).2.1 i = some (n, d)) (hC : (ocl (t + 4)).1 = C0) (w : (Cond.fieldLink own index C0 n d).before a0 Z = true) (hd : decode bytes pc = .ok (.getfield index, 3)) (hp : pc + 3 = pc')
    (k : OG p l e R s m args below meth c Z own nm bytes ml ret Q kc ks h cells slots (mkF m pc' ls (.ref (ad Z ca x) :: rest))) : OG p l e R s m args below meth c Z own nm bytes ml ret Q kc ks h cells slots (mkF m pc ls (.ref (ad Z ca r) :: rest)) := by
  obtain ⟨⟨t', xs, rs⟩, q1, q2⟩ := own_bind hv
  obtain ⟨q3, q4⟩ := own_ite q2
  dsimp only at q3 q4
  subst q3
  obtain ⟨y, q5, q6⟩ := own_bind q4
  obtain ⟨q7, q8⟩ := own_nite q6
  cases q8
  obtain ⟨-, -, -, G⟩ := F.get q1
  have D := G.2.1 i n d x hi q5
  rw [rv_ref q7, hC] at D
  exact o_getF (host := "") (Or.inl w) D hd hp k
theorem m_getI {H : List AO} {t i r index : Nat} {x : Int32} {n d C0 : String} (F : Rep Z ca h H) (hv : gfi (t + 4) H r i = some x) (hi : nth (ocl (t + 4)).2.2 i = some (n, d)) (hC : (ocl (t + 4)).1 = C0) (w : (Cond.fieldLink own index C0 n d).before a0 Z = true) (hd : decode bytes pc = .ok (.getfield index, 3)) (hp : pc + 3 = pc')
    (k : OG p l e R s m args below meth c Z own nm bytes ml ret Q kc ks h cells slots (mkF m pc' ls (.int x :: rest))) : OG p l e R s m args below meth c Z own nm bytes ml ret Q kc ks h cells slots (mkF m pc ls (.ref (ad Z ca r) :: rest)) := by
  obtain ⟨⟨t', xs, rs⟩, q1, q2⟩ := own_bind hv
  obtain ⟨q3, q4⟩ := own_ite q2
  dsimp only at q3 q4
  subst q3
  obtain ⟨-, -, -, G⟩ := F.get q1
  have D := G.2.2 i n d x hi q4
  rw [hC] at D
  exact o_getF (host := "") (Or.inl w) D hd hp k
theorem own_nset {α : Type} {xs : List α} {i j : Nat} {x y : α} (q : nth (xs.set i x) j = some y) : (i = j ∧ y = x) ∨ (i ≠ j ∧ nth xs j = some y) := by
  rw [nth_eq, List.getElem?_set] at q
  by_cases z : i = j
  · rw [if_pos z] at q
    split at q
    · cases q; exact Or.inl ⟨z, rfl⟩
    · cases q
  · rw [if_neg z, ← nth_eq] at q
    exact Or.inr ⟨z, q⟩
theorem m_putR {H H' : List AO} {t i r x index kk : Nat} {n d C0 : String} (F : Rep Z ca h H) (Y : Lay Z a0 (t + 4)) (hv : pfr (t + 4) H r i x = some H') (hi : nth (ocl (t + 4)).2.1 i = some (n, d)) (hC : (ocl (t + 4)).1 = C0) (w : (Cond.fieldLink own index C0 n d).before a0 Z = true)
    (L : (Cond.lays C0 C0 n d).before a0 Z = true ∨ ((Cond.laysFinal C0 C0 n d).before a0 Z = true ∧ own = C0 ∧ nm = "<init>")) (wi : (Cond.instantiable C0 kk).before a0 Z = true) (hd : decode bytes pc = .ok (.putfield index, 3)) (hp : pc + 3 = pc')
    (k : ∀ h', Rep Z ca h' H' → OG p l e R s m args below meth c Z own nm bytes ml ret Q kc ks h' cells slots (mkF m pc' ls rest)) : OG p l e R s m args below meth c Z own nm bytes ml ret Q kc ks h cells slots (mkF m pc ls (.ref (ad Z ca x) :: .ref (ad Z ca r) :: rest)) := by
  obtain ⟨⟨t', xs, rs⟩, q1, q2⟩ := own_bind hv
  obtain ⟨q3, q4⟩ := own_ite q2
  dsimp only at q3 q4
  subst q3 hC
  obtain ⟨old, q5, q6⟩ := own_bind q4
  obtain ⟨q7, q8⟩ := own_nite q6
  cases q8
  obtain ⟨r0, e0, n0, G⟩ := F.get q1
  rw [e0] at G ⊢
  obtain ⟨Ln, ty, t1, -, t3⟩ := Y.1 i n d hi
  have D := G.2.1 i n d old hi q5
  refine o_putF (host := "") (Or.inl w) D G.1 L wi t1 (t3 _).1 (t3 _).2 (own_zle _ _) hd hp fun h' W => k h' ?_
  refine F.put n0 W ⟨G.1.wr W, fun j n' d' y h1 h2 => ?_, fun j n' d' y h1 h2 => ?_⟩
  · rcases own_nset h2 with ⟨rfl, rfl⟩ | ⟨z1, z2⟩
    · cases hi.symm.trans h1
      rw [rv_ref q7]
      exact D.same W
    · obtain ⟨Ln', ty', u1, -⟩ := Y.1 j n' d' h1
      exact (G.2.1 j n' d' y h1 z2).other W (Or.inr (slot_ne Ln' Ln (Y.2.2.1 j i n' d' n d h1 hi (Ne.symm z1)) u1 t1))
  · obtain ⟨Ln', u1⟩ := Y.2.1 j n' d' h1
    exact (G.2.2 j n' d' y h1 h2).other W (Or.inr (slot_ne Ln' Ln (Ne.symm (Y.2.2.2.2 i j n d n' d' hi h1)) u1 t1))
theorem m_putI {H H' : List AO} {t i r index kk : Nat} {x : Int32} {n d C0 : String} (F : Rep Z ca h H) (Y : Lay Z a0 (t + 4)) (hv : pfi (t + 4) H r i x = some H') (hi : nth (ocl (t + 4)).2.2 i = some (n, d)) (hC : (ocl (t + 4)).1 = C0) (w : (Cond.fieldLink own index C0 n d).before a0 Z = true)
    (L : (Cond.lays C0 C0 n d).before a0 Z = true ∨ ((Cond.laysFinal C0 C0 n d).before a0 Z = true ∧ own = C0 ∧ nm = "<init>")) (wi : (Cond.instantiable C0 kk).before a0 Z = true) (hd : decode bytes pc = .ok (.putfield index, 3)) (hp : pc + 3 = pc')
    (k : ∀ h', Rep Z ca h' H' → OG p l e R s m args below meth c Z own nm bytes ml ret Q kc ks h' cells slots (mkF m pc' ls rest)) : OG p l e R s m args below meth c Z own nm bytes ml ret Q kc ks h cells slots (mkF m pc ls (.int x :: .ref (ad Z ca r) :: rest)) := by
  obtain ⟨⟨t', xs, rs⟩, q1, q2⟩ := own_bind hv
  obtain ⟨q3, q4⟩ := own_ite q2
  dsimp only at q3 q4
  subst q3 hC
  obtain ⟨old, q5, q6⟩ := own_bind q4
  cases q6
  obtain ⟨r0, e0, n0, G⟩ := F.get q1
  rw [e0] at G ⊢
  obtain ⟨Ln, t1⟩ := Y.2.1 i n d hi
  have D := G.2.2 i n d old hi q5
  refine o_putF (host := "") (ty := .int) (Or.inl w) D G.1 L wi t1 rfl rfl (own_zle _ _) hd hp fun h' W => k h' ?_
  refine F.put n0 W ⟨G.1.wr W, fun j n' d' y h1 h2 => ?_, fun j n' d' y h1 h2 => ?_⟩
  · obtain ⟨Ln', ty', u1, -⟩ := Y.1 j n' d' h1
    exact (G.2.1 j n' d' y h1 h2).other W (Or.inr (slot_ne Ln' Ln (Y.2.2.2.2 j i n' d' n d h1 hi) u1 t1))
  · rcases own_nset h2 with ⟨rfl, rfl⟩ | ⟨z1, z2⟩
    · cases hi.symm.trans h1
      exact D.same W
    · obtain ⟨Ln', u1⟩ := Y.2.1 j n' d' h1
      exact (G.2.2 j n' d' y h1 z2).other W (Or.inr (slot_ne Ln' Ln (Y.2.2.2.1 j i n' d' n d h1 hi (Ne.symm z1)) u1 t1))
theorem m_newO {H : List AO} {t index kk nr ni : Nat} {C0 : String} {o : List AO × Nat} (F : Rep Z ca h H) (Y : Lay Z a0 (t + 4)) (hC : (ocl (t + 4)).1 = C0) (w : (Cond.classLink own index C0).before a0 Z = true) (wi : (Cond.instantiable C0 kk).before a0 Z = true) (wz : (Cond.initialized C0).before a0 Z = true)
    (hv : hnew H (t + 4, List.replicate ni 0, List.replicate nr 0) = some o) (hd : decode bytes pc = .ok (.new index, 3)) (hc : cells + 1 ≤ R.cells) (hl : slots + kk ≤ R.slots) (hp : pc + 3 = pc')
    (k : ∀ h', Rep Z ca h' o.1 → OG p l e R s m args below meth c Z own nm bytes ml ret Q kc ks h' (cells + 1) (slots + kk) (mkF m pc' ls (.ref (ad Z ca o.2) :: st))) : OG p l e R s m args below meth c Z own nm bytes ml ret Q kc ks h cells slots (mkF m pc ls st) := by
  intro C T locs X eT N
  obtain ⟨q5, q6⟩ := own_ite hv
  cases q6
  obtain ⟨vm', cC, kC, h1, h2, h3, h4, X', stp⟩ := X.newCold C.1 C.2.2.1 (mvT C.2.1 w) (mvT C.2.1 wi) (mvT C.2.1 wz) (g := mkF m pc ls st) rfl (hb C.2.2.2.1 hd) hc hl
  subst hp eT hC
  rw [C.2.1.alike.findClass] at h1
  obtain ⟨kZ, z1, -⟩ := Vm.findClass_spec h1
  obtain ⟨k', z2, z3⟩ := C.2.1.alike.2.2 _ _ z1
  cases h2.symm.trans z2
  have ei : kC.instanceTypes = kZ.instanceTypes := by rw [z3]
  have P := own_push T.heap { cls := cC, slots := kC.instanceTypes.map defaultValue, vm := .none }
  have D : ∀ {nm0 d0 : String} {ty : FieldType}, Laid Z a0 (ocl (t + 4)).1 (ocl (t + 4)).1 nm0 d0 → parseFieldDescriptor d0 = some ty → Fld Z (T.heap.push { cls := cC, slots := kC.instanceTypes.map defaultValue, vm := .none }) T.heap.size (ocl (t + 4)).1 nm0 d0 (defaultValue ty) := by
    intro nm0 d0 ty L ht
    obtain ⟨c1, k1, cf, kf, i, f, a1, a2, a3, a4, a5, a6, -⟩ := L.spec
    cases h1.symm.trans a1
    cases z1.symm.trans a2
    exact ⟨_, cf, kf, i, f, P.2.2, a3, a4, by simp, rfl, a5, by simp [ei, a6, (State.fieldFound?_type a3 ht).2]⟩
  have hz : ∀ {α : Type} {n i : Nat} {v x : α}, nth (List.replicate n v) i = some x → x = v := by
    intro α n i v x q
    rw [nth_eq, List.getElem?_replicate] at q
    split at q
    · exact (Option.some.inj q).symm
    · cases q
  have F' := F.add q5 P.1 P.2.1 (o := (t + 4, List.replicate ni 0, List.replicate nr 0)) ⟨⟨_, kZ, P.2.2, h1, z1, rfl, fun _ => by simp [ei]⟩, fun j n' d' y h1 h2 => by
      obtain ⟨Ln, ty, t1, t2, -⟩ := Y.1 j n' d' h1
      rw [hz h2, show rv Z ca 0 = .null from rfl, ← t2]
      exact D Ln t1, fun j n' d' y h1 h2 => by
      obtain ⟨Ln, t1⟩ := Y.2.1 j n' d' h1
      rw [hz h2]
      exact D Ln t1⟩
  exact OGoal.via stp (by rw [← F.new q5]; exact k _ F' C _ locs X' rfl N)
theorem Rep.exa {H : List AO} {t r : Nat} (F : Rep Z ca h H) (q : ((hget H r).any fun o => o.1 == t + 4) = true) : Exa Z h (ad Z ca r) (ocl (t + 4)).1 := by
  cases hq : hget H r with
  | none => rw [hq] at q; cases q
  | some o =>
    obtain ⟨t', xs, rs⟩ := o
    rw [hq] at q
    have h3 : t' = t + 4 := by simpa using q
    subst h3
    obtain ⟨-, -, -, G⟩ := F.get hq
    exact G.1
def isA (t : Nat) (H : List AO) (r : Nat) : Bool := (hget H r).any fun o => o.1 == t
def ival (r : Nat) : Option Int32 := if 1000 ≤ r ∧ r < 1256 then some (Int32.ofNat (r - 1000) - 128) else none
def vof (z : Int32) : Option Nat := if z < -128 then none else if 127 < z then none else some (1000 + (z + 128).toNatClampNeg)
theorem m_castA {H : List AO} {r index : Nat} (F : Rep Z ca h H) (q : isA 0 H r = true) (w : (Cond.classLink own index "[I").before a0 Z = true) (hd : decode bytes pc = .ok (.checkcast index, 3)) (hp : pc + 3 = pc')
    (k : OG p l e R s m args below meth c Z own nm bytes ml ret Q kc ks h cells slots (mkF m pc' ls (.ref (ad Z ca r) :: rest))) : OG p l e R s m args below meth c Z own nm bytes ml ret Q kc ks h cells slots (mkF m pc ls (.ref (ad Z ca r) :: rest)) :=
  o_cast w (Ins.self (own_any q F).2) hd hp k
theorem own_int {r : Nat} (hca : OCa Z ca) (E : Ext Z.heap h) (q : 1000 ≤ r ∧ r < 1256) : Exa Z h (ad Z ca r) "java/lang/Integer" ∧ Fld Z h (ad Z ca r) "java/lang/Integer" "value" "I" (.int (Int32.ofNat (r - 1000) - 128)) := by
  rw [show ad Z ca r = ca (r - 1000) from if_neg (by omega)]
  obtain ⟨h1, h2⟩ := hca (r - 1000) (by omega)
  exact ⟨h1.ext E, h2.ext E⟩
theorem m_castI {r index : Nat} (hca : OCa Z ca) (E : Ext Z.heap h) (q : 1000 ≤ r ∧ r < 1256) (w : (Cond.classLink own index "java/lang/Integer").before a0 Z = true) (hd : decode bytes pc = .ok (.checkcast index, 3)) (hp : pc + 3 = pc')
    (k : OG p l e R s m args below meth c Z own nm bytes ml ret Q kc ks h cells slots (mkF m pc' ls (.ref (ad Z ca r) :: rest))) : OG p l e R s m args below meth c Z own nm bytes ml ret Q kc ks h cells slots (mkF m pc ls (.ref (ad Z ca r) :: rest)) :=
  o_cast w (Ins.self (own_int hca E q).1) hd hp k
theorem o_nnY {o : Int} (hd : decode bytes pc = .ok (.ifnonnull o, 3)) (ho : 0 ≤ (pc : Int) + o) (hp : ((pc : Int) + o).toNat = pc')
    (k : OG p l e R s m args below meth c Z own nm bytes ml ret Q kc ks h cells slots (mkF m pc' ls rest)) : OG p l e R s m args below meth c Z own nm bytes ml ret Q kc ks h cells slots (mkF m pc ls (.ref a :: rest)) :=
  o_pure hd (fun T locs X hx hd t kk => XT.ifnonnullYes X.here hx rfl (pc0 := pc) rfl hd rfl ho hp kk) k
theorem o_nuN {o : Int} (hd : decode bytes pc = .ok (.ifnull o, 3)) (hp : pc + 3 = pc')
    (k : OG p l e R s m args below meth c Z own nm bytes ml ret Q kc ks h cells slots (mkF m pc' ls rest)) : OG p l e R s m args below meth c Z own nm bytes ml ret Q kc ks h cells slots (mkF m pc ls (.ref a :: rest)) :=
  o_pure hd (fun T locs X hx hd t kk => XS.ifnullNo X.here hx rfl hd rfl (by subst hp; exact kk)) k
end ModKit
section ModKit2
variable {p : Program} {l : Launch} {e : Env} {R : Room} {s : State} {m : MethodId} {args : Array Value} {below : List Frame} {meth : Method} {c : Code} {T : State} {locs : List Loc} {cells slots kc ks : Nat} {Z : State} {a0 : Array Value} {own nm : String} {bytes : ByteArray} {ml : Nat} {ret : Option FieldType} {Q : Option Value → Heap → Prop} {h h' : Heap} {pc pc' : Nat} {ls ls' : Array Slot} {st st' rest : List Value} {a b : Addr} {ca : Nat → Addr}
/-- a slot that holds no half of a long -/
def Pl (x : Slot) : Prop := x = .unset ∨ (∃ v, x = .val (.int v)) ∨ ∃ v, x = .val (.ref v)
theorem Pl.u : Pl .unset := Or.inl rfl
theorem Pl.i (v : Int32) : Pl (.val (.int v)) := Or.inr (Or.inl ⟨v, rfl⟩)
theorem Pl.r (v : Addr) : Pl (.val (.ref v)) := Or.inr (Or.inr ⟨v, rfl⟩)
theorem own_stS {i : Nat} {x : Slot} {v : Value} (hx : ls[i]? = some x) (q : Pl x) (hv : v.category = 1) : storeLocals ls i v = some (ls.setIfInBounds i (.val v)) := by
  refine storeLocals_cat1 hx hv ?_
  rcases q with rfl | ⟨v', rfl⟩ | ⟨v', rfl⟩
  · trivial
  · rfl
  · rfl
theorem own_stI {i : Nat} {x : Slot} {v : Int32} (hx : ls[i]? = some x) (q : Pl x) : oStI i (.int v :: rest) ls = some (rest, ls.setIfInBounds i (.val (.int v))) := by
  show (storeLocals ls i (.int v)).map _ = _
  rw [own_stS hx q rfl]; rfl
theorem own_stA {i : Nat} {x : Slot} {v : Addr} (hx : ls[i]? = some x) (q : Pl x) : oStA i (.ref v :: rest) ls = some (rest, ls.setIfInBounds i (.val (.ref v))) := by
  show (storeLocals ls i (.ref v)).map _ = _
  rw [own_stS hx q rfl]; rfl
theorem o_stP {i : Instr} {n : Nat} (hd : decode bytes pc = .ok (i, n)) (hn : oLen i = n) (hp : pc + n = pc') (q : opS i st ls = some (st', ls'))
    (k : OG p l e R s m args below meth c Z own nm bytes ml ret Q kc ks h cells slots (mkF m pc' ls' st')) : OG p l e R s m args below meth c Z own nm bytes ml ret Q kc ks h cells slots (mkF m pc ls st) := by
  subst hn hp
  exact o_op hd q k
theorem o_bodyS {y : MethodName} {yb : ByteArray} {yl : Nat} {yr : Option FieldType} {rm : Room} {as' : Array Value} {h0 : Heap} {yQ : Option Value → Heap → Prop} {ls0 : Array Slot} (hpl : plainFor y = true) (hE : Ext Z.heap h0)
    (hef : ∀ m : MethodId, entryFrame m as' yl = mkF m 0 ls0 [])
    (k : ∀ (p : Program) (e : Env) (s : State) (m : MethodId) (below : List Frame) (meth : Method) (c : Code), s.heap = h0 → OG p l e rm s m as' below meth c Z y.cls y.name yb yl yr yQ rm.cells rm.slots h0 0 0 (mkF m 0 ls0 [])) : OCtr l Z y yb yl yr rm as' h0 yQ := by
  intro ws
  refine MetFree.of_bodySF hpl hisR ?_
  intro p e s m args below meth c s₁ Bd hml0 hP hK
  obtain ⟨rfl, hZ, hh⟩ := hP
  have X0 : Stand p l e rm s m args below meth c s₁ [] 0 0 := Stand.of_body Bd
  have e0 : s₁.heap = h0 := by rw [← hh, Bd.state]; rfl
  have g := k p e s m below meth c hh ⟨Bd.exec, hZ, findClass_of_methodNamed Bd.named, Bd.bytes, hml0, Bd.returns, Bd.notSynchronized, (name_of_methodNamed Bd.named Bd.method).1, by rw [hh]; exact hE⟩ s₁ [] X0 e0 (Fr.nil _)
  rw [hef]
  rw [← hh]
  exact g
theorem RepO.keep {o : AO} {ws : List Addr} (F : RepO Z ca h a o) (K : Keep h h' ws) (q : a ∉ ws) : RepO Z ca h' a o := by
  obtain ⟨t, xs, rs⟩ := o
  match t, F with
  | 0, F => exact ⟨F.1.imp fun k z => z.keep K q, F.2.keep K⟩
  | 1, F => exact F.imp fun k z => z.keep K q
  | 2, F => exact F.imp fun k z => ⟨z.1.keep K q, z.2⟩
  | 3, F => exact F.imp fun k z => ⟨z.1.keep K q, z.2⟩
  | t + 4, F => exact ⟨F.1.keep K, fun i n d x h1 h2 => (F.2.1 i n d x h1 h2).keep K q, fun i n d x h1 h2 => (F.2.2 i n d x h1 h2).keep K q⟩
theorem Rep.kput {H : List AO} {k : Nat} {o o' : AO} (F : Rep Z ca h H) (hk : nth H k = some o) (K : Keep h h' [Z.heap.size + k]) (hs : h'.size ≤ h.size) (N : RepO Z ca h' (Z.heap.size + k) o') : Rep Z ca h' (H.set k o') := by
  have e : h'.size = h.size := Nat.le_antisymm hs K.1
  refine ⟨⟨by rw [e]; exact F.1.1, fun x cl q => ?_⟩, by rw [e, List.length_set]; exact F.2.1, by rw [List.length_set]; exact F.2.2.1, fun j oj hj => ?_⟩
  · have hx : x < Z.heap.size := (Array.getElem?_eq_some_iff.mp q).1
    exact K.2.1 x cl (F.1.2 x cl q) (fun z => by
      rw [List.mem_singleton] at z
      exact absurd hx (by rw [z]; exact Nat.not_lt.mpr (Nat.le_add_right _ _)))
  · rcases own_nset hj with ⟨rfl, rfl⟩ | ⟨z1, z2⟩
    · exact N
    · exact (F.2.2.2 j oj z2).keep K (fun z => by
        rw [List.mem_singleton] at z
        exact z1 (Nat.add_left_cancel z).symm)
def cpy (H : List AO) (r x : Nat) (n : Int32) : Option (List AO) := (hget H r).bind fun o => (hget H x).bind fun o' => if o.1 = 0 then (if o'.1 = 0 then (if n < 0 then none else if n.toNatClampNeg ≤ o.2.1.length then (if n.toNatClampNeg ≤ o'.2.1.length then some (H.set (x - 1) (0, o.2.1.take n.toNatClampNeg ++ o'.2.1.drop n.toNatClampNeg, o'.2.2)) else none) else none) else none) else none
theorem m_cpy {H H' : List AO} {r x index W : Nat} {n : Int32} (F : Rep Z ca h H) (hz : h.size = s.heap.size + cells) (w1 : (Cond.methodLink own index Jvm.Stand.acN).before a0 Z = true) (w2 : (Cond.native Jvm.Stand.acN).before a0 Z = true) (w3 : (Cond.static Jvm.Stand.acN).before a0 Z = true) (w4 : (Cond.initialized "java/lang/System").before a0 Z = true)
    (hv : cpy H r x n = some H') (hd : decode bytes pc = .ok (.invokestatic index, 3)) (hsz : ls.size = ml) (hW : (rest.map fun v => v.category).sum ≤ W) (hf : 1 ≤ R.frames) (hl : W + 18 ≤ R.locals) (hp : pc + 3 = pc')
    (k : ∀ h', Rep Z ca h' H' → OG p l e R s m args below meth c Z own nm bytes ml ret Q kc ks h' cells slots (mkF m pc' ls rest)) : OG p l e R s m args below meth c Z own nm bytes ml ret Q kc ks h cells slots (mkF m pc ls (.int n :: .int 0 :: .ref (ad Z ca x) :: .int 0 :: .ref (ad Z ca r) :: rest)) := by
  obtain ⟨⟨t, xs, rs⟩, q1, q2⟩ := own_bind hv
  obtain ⟨⟨t', ys, rs'⟩, q3, q4⟩ := own_bind q2
  obtain ⟨q5, q6⟩ := own_ite q4
  obtain ⟨q7, q8⟩ := own_ite q6
  dsimp only at q5 q7 q8
  subst q5 q7
  obtain ⟨q9, q10⟩ := own_nite q8
  obtain ⟨q11, q12⟩ := own_ite q10
  obtain ⟨q13, q14⟩ := own_ite q12
  cases q14
  obtain ⟨r0, e0, n0, ⟨⟨k0, G⟩, E⟩⟩ := F.get q1
  obtain ⟨r1, e1, n1, ⟨⟨k1, G1⟩, E1⟩⟩ := F.get q3
  rw [e1] at G1 E1 ⊢
  refine o_cpyI (i := 0) (j := 0) (n := n.toNatClampNeg) w1 w2 w3 w4 G G1 rfl rfl (own_back q9).1 (by omega) (by omega) (own_zle _ _) hd hsz hW hf hl hp fun h' K A => ?_
  intro C T' locs' X' eT' N'
  have hs' : h'.size ≤ h.size := by
    have q := X'.same.2.2.1
    rw [hz, ← eT']
    exact q
  refine k h' (F.kput n1 K hs' ⟨⟨k1, ?_⟩, E1.keep K⟩) C T' locs' X' eT' N'
  simpa using A
theorem newI_len {t : Nat} {H : List AO} {j : Int32} {o : List AO × Nat} (q : newI t H j = some o) : o.1.length = H.length + 1 := by
  obtain ⟨-, q2⟩ := own_nite q
  obtain ⟨-, q4⟩ := own_ite q2
  obtain ⟨-, q6⟩ := own_ite q4
  cases q6
  simp
end ModKit2
theorem own_lay4 {Z : State} {a0 : Array Value} (hw : ∀ d ∈ tables_1, d.before a0 Z = true) : Lay Z a0 4 := by
  refine ⟨?_, ?_, ?_, ?_, ?_⟩
  · intro i n d q
    rcases i with _ | i
    · cases q; exact ⟨(Or.inr (own_word hw 15 rfl)), (.array .int), by decide, rfl, fun a => ⟨rfl, rfl⟩⟩
    rcases i with _ | i
    · cases q; exact ⟨(Or.inr (own_word hw 23 rfl)), (.array (.array .int)), by decide, rfl, fun a => ⟨rfl, rfl⟩⟩
    rcases i with _ | i
    · cases q; exact ⟨(Or.inr (own_word hw 40 rfl)), (.array (.array .int)), by decide, rfl, fun a => ⟨rfl, rfl⟩⟩
    rcases i with _ | i
    · cases q; exact ⟨(Or.inr (own_word hw 42 rfl)), (.array .int), by decide, rfl, fun a => ⟨rfl, rfl⟩⟩
    rcases i with _ | i
    · cases q; exact ⟨(Or.inr (own_word hw 44 rfl)), (.array .int), by decide, rfl, fun a => ⟨rfl, rfl⟩⟩
    rcases i with _ | i
    · cases q; exact ⟨(Or.inr (own_word hw 46 rfl)), (.array .int), by decide, rfl, fun a => ⟨rfl, rfl⟩⟩
    · cases q
  · intro i n d q
    rcases i with _ | i
    · cases q; exact ⟨(Or.inr (own_word hw 156 rfl)), by decide⟩
    · cases q
  · intro i j n d n' d' q1 q2 hne
    have h1 : (nth (ocl 4).2.1 i).isSome = true := by rw [q1]; rfl
    have h2 : (nth (ocl 4).2.1 j).isSome = true := by rw [q2]; rfl
    have hi : i < 6 := Nat.lt_of_not_le fun z => by rw [nth_eq, List.getElem?_eq_none (by exact z)] at h1; cases h1
    have hj : j < 6 := Nat.lt_of_not_le fun z => by rw [nth_eq, List.getElem?_eq_none (by exact z)] at h2; cases h2
    have e1 : n = ((nth (ocl 4).2.1 i).getD ("", "")).1 := by rw [q1]; rfl
    have e2 : n' = ((nth (ocl 4).2.1 j).getD ("", "")).1 := by rw [q2]; rfl
    rw [e1, e2]
    exact (by decide : ∀ i : Fin 6, ∀ j : Fin 6, i.val ≠ j.val → ((nth (ocl 4).2.1 i.val).getD ("", "")).1 ≠ ((nth (ocl 4).2.1 j.val).getD ("", "")).1) ⟨i, hi⟩ ⟨j, hj⟩ hne
  · intro i j n d n' d' q1 q2 hne
    have h1 : (nth (ocl 4).2.2 i).isSome = true := by rw [q1]; rfl
    have h2 : (nth (ocl 4).2.2 j).isSome = true := by rw [q2]; rfl
    have hi : i < 1 := Nat.lt_of_not_le fun z => by rw [nth_eq, List.getElem?_eq_none (by exact z)] at h1; cases h1
    have hj : j < 1 := Nat.lt_of_not_le fun z => by rw [nth_eq, List.getElem?_eq_none (by exact z)] at h2; cases h2
    have e1 : n = ((nth (ocl 4).2.2 i).getD ("", "")).1 := by rw [q1]; rfl
    have e2 : n' = ((nth (ocl 4).2.2 j).getD ("", "")).1 := by rw [q2]; rfl
    rw [e1, e2]
    exact (by decide : ∀ i : Fin 1, ∀ j : Fin 1, i.val ≠ j.val → ((nth (ocl 4).2.2 i.val).getD ("", "")).1 ≠ ((nth (ocl 4).2.2 j.val).getD ("", "")).1) ⟨i, hi⟩ ⟨j, hj⟩ hne
  · intro i j n d n' d' q1 q2
    have h1 : (nth (ocl 4).2.1 i).isSome = true := by rw [q1]; rfl
    have h2 : (nth (ocl 4).2.2 j).isSome = true := by rw [q2]; rfl
    have hi : i < 6 := Nat.lt_of_not_le fun z => by rw [nth_eq, List.getElem?_eq_none (by exact z)] at h1; cases h1
    have hj : j < 1 := Nat.lt_of_not_le fun z => by rw [nth_eq, List.getElem?_eq_none (by exact z)] at h2; cases h2
    have e1 : n = ((nth (ocl 4).2.1 i).getD ("", "")).1 := by rw [q1]; rfl
    have e2 : n' = ((nth (ocl 4).2.2 j).getD ("", "")).1 := by rw [q2]; rfl
    rw [e1, e2]
    exact (by decide : ∀ i : Fin 6, ∀ j : Fin 1, ((nth (ocl 4).2.1 i.val).getD ("", "")).1 ≠ ((nth (ocl 4).2.2 j.val).getD ("", "")).1) ⟨i, hi⟩ ⟨j, hj⟩
theorem own_lay5 {Z : State} {a0 : Array Value} (hw : ∀ d ∈ tables_1, d.before a0 Z = true) : Lay Z a0 5 := by
  refine ⟨?_, ?_, ?_, ?_, ?_⟩
  · intro i n d q
    rcases i with _ | i
    · cases q; exact ⟨(Or.inl (own_word hw 67 rfl)), (.array (.object "java/lang/Object")), by decide, rfl, fun a => ⟨rfl, rfl⟩⟩
    · cases q
  · intro i n d q
    rcases i with _ | i
    · cases q; exact ⟨(Or.inl (own_word hw 90 rfl)), by decide⟩
    rcases i with _ | i
    · cases q; exact ⟨(Or.inl (own_word hw 96 rfl)), by decide⟩
    · cases q
  · intro i j n d n' d' q1 q2 hne
    have h1 : (nth (ocl 5).2.1 i).isSome = true := by rw [q1]; rfl
    have h2 : (nth (ocl 5).2.1 j).isSome = true := by rw [q2]; rfl
    have hi : i < 1 := Nat.lt_of_not_le fun z => by rw [nth_eq, List.getElem?_eq_none (by exact z)] at h1; cases h1
    have hj : j < 1 := Nat.lt_of_not_le fun z => by rw [nth_eq, List.getElem?_eq_none (by exact z)] at h2; cases h2
    have e1 : n = ((nth (ocl 5).2.1 i).getD ("", "")).1 := by rw [q1]; rfl
    have e2 : n' = ((nth (ocl 5).2.1 j).getD ("", "")).1 := by rw [q2]; rfl
    rw [e1, e2]
    exact (by decide : ∀ i : Fin 1, ∀ j : Fin 1, i.val ≠ j.val → ((nth (ocl 5).2.1 i.val).getD ("", "")).1 ≠ ((nth (ocl 5).2.1 j.val).getD ("", "")).1) ⟨i, hi⟩ ⟨j, hj⟩ hne
  · intro i j n d n' d' q1 q2 hne
    have h1 : (nth (ocl 5).2.2 i).isSome = true := by rw [q1]; rfl
    have h2 : (nth (ocl 5).2.2 j).isSome = true := by rw [q2]; rfl
    have hi : i < 2 := Nat.lt_of_not_le fun z => by rw [nth_eq, List.getElem?_eq_none (by exact z)] at h1; cases h1
    have hj : j < 2 := Nat.lt_of_not_le fun z => by rw [nth_eq, List.getElem?_eq_none (by exact z)] at h2; cases h2
    have e1 : n = ((nth (ocl 5).2.2 i).getD ("", "")).1 := by rw [q1]; rfl
    have e2 : n' = ((nth (ocl 5).2.2 j).getD ("", "")).1 := by rw [q2]; rfl
    rw [e1, e2]
    exact (by decide : ∀ i : Fin 2, ∀ j : Fin 2, i.val ≠ j.val → ((nth (ocl 5).2.2 i.val).getD ("", "")).1 ≠ ((nth (ocl 5).2.2 j.val).getD ("", "")).1) ⟨i, hi⟩ ⟨j, hj⟩ hne
  · intro i j n d n' d' q1 q2
    have h1 : (nth (ocl 5).2.1 i).isSome = true := by rw [q1]; rfl
    have h2 : (nth (ocl 5).2.2 j).isSome = true := by rw [q2]; rfl
    have hi : i < 1 := Nat.lt_of_not_le fun z => by rw [nth_eq, List.getElem?_eq_none (by exact z)] at h1; cases h1
    have hj : j < 2 := Nat.lt_of_not_le fun z => by rw [nth_eq, List.getElem?_eq_none (by exact z)] at h2; cases h2
    have e1 : n = ((nth (ocl 5).2.1 i).getD ("", "")).1 := by rw [q1]; rfl
    have e2 : n' = ((nth (ocl 5).2.2 j).getD ("", "")).1 := by rw [q2]; rfl
    rw [e1, e2]
    exact (by decide : ∀ i : Fin 1, ∀ j : Fin 2, ((nth (ocl 5).2.1 i.val).getD ("", "")).1 ≠ ((nth (ocl 5).2.2 j.val).getD ("", "")).1) ⟨i, hi⟩ ⟨j, hj⟩
def OKa (Z : State) (ca : Nat → Addr) : Prop := OCa Z ca ∧ ∃ (cb : Addr) (cc : Cell), Sta Z Z.heap "java/lang/Integer$IntegerCache" "high" "I" (.int 127) ∧ Sta Z Z.heap "java/lang/Integer$IntegerCache" "cache" "[Ljava/lang/Integer;" (.ref cb) ∧ Arr Z Z.heap cb cc (.object "java/lang/Integer") ∧ cc.slots.size = 256 ∧ ∀ i, i < 256 → cc.slots[i]? = some (.ref (ca i))
theorem own_idx {x : Int32} (h1 : ¬ x < -128) (h2 : ¬ (127 : Int32) < x) {n : Nat} (hn : n = 256) : ¬ (x + 128 < 0 ∨ n ≤ (x + 128).toNatClampNeg) := by
  rw [Int32.lt_iff_toInt_lt] at h1 h2
  have e1 : (-128 : Int32).toInt = -128 := rfl
  have e2 : (127 : Int32).toInt = 127 := rfl
  have e3 : (128 : Int32).toInt = 128 := rfl
  have e4 : (x + 128).toInt = x.toInt + 128 := by
    rw [Int32.toInt_add, e3, Int.bmod_def]
    have := Int32.le_toInt x
    have := Int32.toInt_lt x
    omega
  subst hn
  rw [Int32.lt_iff_toInt_lt, e4]
  show ¬ (x.toInt + 128 < 0 ∨ 256 ≤ (x + 128).toInt.toNat)
  rw [e4]
  omega
theorem own_adc {Z : State} {ca : Nat → Addr} (k : Nat) : ad Z ca (1000 + k) = ca k := by
  unfold ad
  rw [if_neg (by omega), Nat.add_sub_cancel_left]
def M_vof (H : List AO) (i0 : Int32) : Option (List AO × Nat) := (vof i0).bind fun r => some (H, r)
def M_ival (H : List AO) (r0 : Nat) : Option (List AO × Int32) := (ival r0).bind fun z => some (H, z)

theorem b11_0_3 : oBlk jdk_33_method_22_code 0 [.iload_n 0, .bipush (-128)] = some 3 := by decide +kernel
theorem d11_3 : decode jdk_33_method_22_code 3 = .ok (.if_icmp .lt 20, 3) := by decide +kernel
theorem b11_6_7 : oBlk jdk_33_method_22_code 6 [.iload_n 0] = some 7 := by decide +kernel
theorem d11_7 : decode jdk_33_method_22_code 7 = .ok (.getstatic 191, 3) := by decide +kernel
theorem d11_10 : decode jdk_33_method_22_code 10 = .ok (.if_icmp .gt 13, 3) := by decide +kernel
theorem d11_13 : decode jdk_33_method_22_code 13 = .ok (.getstatic 195, 3) := by decide +kernel
theorem b11_16_21 : oBlk jdk_33_method_22_code 16 [.iload_n 0, .sipush 128, .iadd] = some 21 := by decide +kernel
theorem d11_21 : decode jdk_33_method_22_code 21 = .ok (.aaload, 1) := by decide +kernel
theorem d11_22 : decode jdk_33_method_22_code 22 = .ok (.areturn, 1) := by decide +kernel
theorem pn_0 : plainName "java/lang/Integer" = true := by first | (simp [plainName, overriddenIn]; done) | decide +kernel
theorem b21_0_1 : oBlk jdk_33_method_27_code 0 [.aload_n 0] = some 1 := by decide +kernel
theorem d21_1 : decode jdk_33_method_27_code 1 = .ok (.getfield 205, 3) := by decide +kernel
theorem d21_4 : decode jdk_33_method_27_code 4 = .ok (.ireturn, 1) := by decide +kernel
theorem b22_0_2 : oBlk jdk_29_method_65_code 0 [.iload_n 0, .iload_n 1] = some 2 := by decide +kernel
theorem d22_2 : decode jdk_29_method_65_code 2 = .ok (.if_icmp .lt 7, 3) := by decide +kernel
theorem b22_9_10 : oBlk jdk_29_method_65_code 9 [.iload_n 1] = some 10 := by decide +kernel
theorem d22_10 : decode jdk_29_method_65_code 10 = .ok (.ireturn, 1) := by decide +kernel
theorem b22_5_6 : oBlk jdk_29_method_65_code 5 [.iload_n 0] = some 6 := by decide +kernel
theorem d22_6 : decode jdk_29_method_65_code 6 = .ok (.goto 4, 3) := by decide +kernel
theorem b7_0_2 : oBlk jdk_29_method_69_code 0 [.iload_n 0, .iload_n 1] = some 2 := by decide +kernel
theorem d7_2 : decode jdk_29_method_69_code 2 = .ok (.if_icmp .gt 7, 3) := by decide +kernel
theorem b7_9_10 : oBlk jdk_29_method_69_code 9 [.iload_n 1] = some 10 := by decide +kernel
theorem d7_10 : decode jdk_29_method_69_code 10 = .ok (.ireturn, 1) := by decide +kernel
theorem b7_5_6 : oBlk jdk_29_method_69_code 5 [.iload_n 0] = some 6 := by decide +kernel
theorem d7_6 : decode jdk_29_method_69_code 6 = .ok (.goto 4, 3) := by decide +kernel
theorem b10_0_1 : oBlk jdk_22_method_1_code 0 [.aload_n 0] = some 1 := by decide +kernel
theorem d10_1 : decode jdk_22_method_1_code 1 = .ok (.invokespecial 1, 3) := by decide +kernel
theorem d10_4 : decode jdk_22_method_1_code 4 = .ok (.return_, 1) := by decide +kernel
theorem pn_1 : plainName "java/util/AbstractCollection" = true := by first | (simp [plainName, overriddenIn]; done) | decide +kernel
theorem b9_0_1 : oBlk jdk_21_method_3_code 0 [.aload_n 0] = some 1 := by decide +kernel
theorem d9_1 : decode jdk_21_method_3_code 1 = .ok (.invokespecial 42, 3) := by decide +kernel
theorem pd_0 : parseMethodDescriptor "()V" = some ⟨[], none⟩ := by decide +kernel
theorem b9_4_7 : oBlk jdk_21_method_3_code 4 [.aload_n 0, .bipush 17] = some 7 := by decide +kernel
theorem d9_7 : decode jdk_21_method_3_code 7 = .ok (.anewarray 47, 3) := by decide +kernel
theorem d9_10 : decode jdk_21_method_3_code 10 = .ok (.putfield 3, 3) := by decide +kernel
theorem d9_13 : decode jdk_21_method_3_code 13 = .ok (.return_, 1) := by decide +kernel
theorem pn_2 : plainName "java/util/ArrayDeque" = true := by first | (simp [plainName, overriddenIn]; done) | decide +kernel
theorem b14_0_3 : oBlk jdk_21_method_7_code 0 [.iinc 0 (-1)] = some 3 := by decide +kernel
theorem b14_3_4 : oBlk jdk_21_method_7_code 3 [.iload_n 0] = some 4 := by decide +kernel
theorem d14_4 : decode jdk_21_method_7_code 4 = .ok (.ifCond .ge 7, 3) := by decide +kernel
theorem b14_11_12 : oBlk jdk_21_method_7_code 11 [.iload_n 0] = some 12 := by decide +kernel
theorem d14_12 : decode jdk_21_method_7_code 12 = .ok (.ireturn, 1) := by decide +kernel
theorem b14_7_11 : oBlk jdk_21_method_7_code 7 [.iload_n 1, .iconst 1, .isub, .istore_n 0] = some 11 := by decide +kernel
theorem b20_0_3 : oBlk jdk_21_method_6_code 0 [.iinc 0 1] = some 3 := by decide +kernel
theorem b20_3_5 : oBlk jdk_21_method_6_code 3 [.iload_n 0, .iload_n 1] = some 5 := by decide +kernel
theorem d20_5 : decode jdk_21_method_6_code 5 = .ok (.if_icmp .lt 5, 3) := by decide +kernel
theorem b20_10_11 : oBlk jdk_21_method_6_code 10 [.iload_n 0] = some 11 := by decide +kernel
theorem d20_11 : decode jdk_21_method_6_code 11 = .ok (.ireturn, 1) := by decide +kernel
theorem b20_8_10 : oBlk jdk_21_method_6_code 8 [.iconst 0, .istore_n 0] = some 10 := by decide +kernel
theorem b19_0_2 : oBlk jdk_21_method_10_code 0 [.aload_n 0, .iload_n 1] = some 2 := by decide +kernel
theorem d19_2 : decode jdk_21_method_10_code 2 = .ok (.aaload, 1) := by decide +kernel
theorem d19_3 : decode jdk_21_method_10_code 3 = .ok (.areturn, 1) := by decide +kernel
theorem b15_0_1 : oBlk jdk_21_method_38_code 0 [.aload_n 0] = some 1 := by decide +kernel
theorem d15_1 : decode jdk_21_method_38_code 1 = .ok (.getfield 24, 3) := by decide +kernel
theorem b15_4_5 : oBlk jdk_21_method_38_code 4 [.aload_n 0] = some 5 := by decide +kernel
theorem d15_5 : decode jdk_21_method_38_code 5 = .ok (.getfield 20, 3) := by decide +kernel
theorem d15_8 : decode jdk_21_method_38_code 8 = .ok (.if_icmp .ne 7, 3) := by decide +kernel
theorem b15_15_16 : oBlk jdk_21_method_38_code 15 [.iconst 0] = some 16 := by decide +kernel
theorem d15_16 : decode jdk_21_method_38_code 16 = .ok (.ireturn, 1) := by decide +kernel
theorem b15_11_12 : oBlk jdk_21_method_38_code 11 [.iconst 1] = some 12 := by decide +kernel
theorem d15_12 : decode jdk_21_method_38_code 12 = .ok (.goto 4, 3) := by decide +kernel
theorem b13_0_1 : oBlk jdk_21_method_12_code 0 [.aload_n 1] = some 1 := by decide +kernel
theorem d13_1 : decode jdk_21_method_12_code 1 = .ok (.ifnonnull 11, 3) := by decide +kernel
theorem b13_12_13 : oBlk jdk_21_method_12_code 12 [.aload_n 0] = some 13 := by decide +kernel
theorem d13_13 : decode jdk_21_method_12_code 13 = .ok (.getfield 3, 3) := by decide +kernel
theorem b13_16_17 : oBlk jdk_21_method_12_code 16 [.astore_n 2] = some 17 := by decide +kernel
theorem b13_17_20 : oBlk jdk_21_method_12_code 17 [.aload_n 2, .aload_n 0, .aload_n 0] = some 20 := by decide +kernel
theorem d13_20 : decode jdk_21_method_12_code 20 = .ok (.getfield 24, 3) := by decide +kernel
theorem b13_23_24 : oBlk jdk_21_method_12_code 23 [.aload_n 2] = some 24 := by decide +kernel
theorem d13_24 : decode jdk_21_method_12_code 24 = .ok (.arraylength, 1) := by decide +kernel
theorem d13_25 : decode jdk_21_method_12_code 25 = .ok (.invokestatic 68, 3) := by decide +kernel
theorem pd_1 : parseMethodDescriptor "(II)I" = some ⟨[.int, .int], some .int⟩ := by decide +kernel
theorem b13_28_29 : oBlk jdk_21_method_12_code 28 [.dup_x1] = some 29 := by decide +kernel
theorem d13_29 : decode jdk_21_method_12_code 29 = .ok (.putfield 24, 3) := by decide +kernel
theorem b13_32_33 : oBlk jdk_21_method_12_code 32 [.aload_n 1] = some 33 := by decide +kernel
theorem d13_33 : decode jdk_21_method_12_code 33 = .ok (.aastore, 1) := by decide +kernel
theorem b13_34_35 : oBlk jdk_21_method_12_code 34 [.aload_n 0] = some 35 := by decide +kernel
theorem d13_35 : decode jdk_21_method_12_code 35 = .ok (.getfield 24, 3) := by decide +kernel
theorem b13_38_39 : oBlk jdk_21_method_12_code 38 [.aload_n 0] = some 39 := by decide +kernel
theorem d13_39 : decode jdk_21_method_12_code 39 = .ok (.getfield 20, 3) := by decide +kernel
theorem d13_42 : decode jdk_21_method_12_code 42 = .ok (.if_icmp .ne 8, 3) := by decide +kernel
theorem d13_50 : decode jdk_21_method_12_code 50 = .ok (.return_, 1) := by decide +kernel
theorem b12_0_2 : oBlk jdk_21_method_34_code 0 [.aload_n 0, .aload_n 1] = some 2 := by decide +kernel
theorem d12_2 : decode jdk_21_method_34_code 2 = .ok (.invokevirtual 86, 3) := by decide +kernel
theorem pd_2 : parseMethodDescriptor "(Ljava/lang/Object;)V" = some ⟨[(.object "java/lang/Object")], none⟩ := by decide +kernel
theorem d12_5 : decode jdk_21_method_34_code 5 = .ok (.return_, 1) := by decide +kernel
theorem b18_0_1 : oBlk jdk_21_method_20_code 0 [.aload_n 0] = some 1 := by decide +kernel
theorem d18_1 : decode jdk_21_method_20_code 1 = .ok (.getfield 3, 3) := by decide +kernel
theorem b18_4_6 : oBlk jdk_21_method_20_code 4 [.dup, .astore_n 1] = some 6 := by decide +kernel
theorem b18_6_7 : oBlk jdk_21_method_20_code 6 [.aload_n 0] = some 7 := by decide +kernel
theorem d18_7 : decode jdk_21_method_20_code 7 = .ok (.getfield 24, 3) := by decide +kernel
theorem b18_10_12 : oBlk jdk_21_method_20_code 10 [.dup, .istore_n 2] = some 12 := by decide +kernel
theorem d18_12 : decode jdk_21_method_20_code 12 = .ok (.invokestatic 103, 3) := by decide +kernel
theorem pd_3 : parseMethodDescriptor "([Ljava/lang/Object;I)Ljava/lang/Object;" = some ⟨[(.array (.object "java/lang/Object")), .int], some (.object "java/lang/Object")⟩ := by decide +kernel
theorem b18_15_16 : oBlk jdk_21_method_20_code 15 [.astore_n 3] = some 16 := by decide +kernel
theorem b18_16_17 : oBlk jdk_21_method_20_code 16 [.aload_n 3] = some 17 := by decide +kernel
theorem d18_17 : decode jdk_21_method_20_code 17 = .ok (.ifnull 17, 3) := by decide +kernel
theorem b18_20_23 : oBlk jdk_21_method_20_code 20 [.aload_n 1, .iload_n 2, .aconst_null] = some 23 := by decide +kernel
theorem d18_23 : decode jdk_21_method_20_code 23 = .ok (.aastore, 1) := by decide +kernel
theorem b18_24_27 : oBlk jdk_21_method_20_code 24 [.aload_n 0, .iload_n 2, .aload_n 1] = some 27 := by decide +kernel
theorem d18_27 : decode jdk_21_method_20_code 27 = .ok (.arraylength, 1) := by decide +kernel
theorem d18_28 : decode jdk_21_method_20_code 28 = .ok (.invokestatic 74, 3) := by decide +kernel
theorem d18_31 : decode jdk_21_method_20_code 31 = .ok (.putfield 24, 3) := by decide +kernel
theorem b18_34_35 : oBlk jdk_21_method_20_code 34 [.aload_n 3] = some 35 := by decide +kernel
theorem d18_35 : decode jdk_21_method_20_code 35 = .ok (.areturn, 1) := by decide +kernel
theorem b17_0_1 : oBlk jdk_21_method_18_code 0 [.aload_n 0] = some 1 := by decide +kernel
theorem d17_1 : decode jdk_21_method_18_code 1 = .ok (.invokevirtual 93, 3) := by decide +kernel
theorem pd_4 : parseMethodDescriptor "()Ljava/lang/Object;" = some ⟨[], some (.object "java/lang/Object")⟩ := by decide +kernel
theorem b17_4_5 : oBlk jdk_21_method_18_code 4 [.astore_n 1] = some 5 := by decide +kernel
theorem b17_5_6 : oBlk jdk_21_method_18_code 5 [.aload_n 1] = some 6 := by decide +kernel
theorem d17_6 : decode jdk_21_method_18_code 6 = .ok (.ifnonnull 11, 3) := by decide +kernel
theorem b17_17_18 : oBlk jdk_21_method_18_code 17 [.aload_n 1] = some 18 := by decide +kernel
theorem d17_18 : decode jdk_21_method_18_code 18 = .ok (.areturn, 1) := by decide +kernel
theorem b16_0_1 : oBlk jdk_21_method_35_code 0 [.aload_n 0] = some 1 := by decide +kernel
theorem d16_1 : decode jdk_21_method_35_code 1 = .ok (.invokevirtual 118, 3) := by decide +kernel
theorem d16_4 : decode jdk_21_method_35_code 4 = .ok (.areturn, 1) := by decide +kernel
theorem b6_0_2 : oBlk jdk_65_method_123_code 0 [.iload_n 1, .aload_n 0] = some 2 := by decide +kernel
theorem d6_2 : decode jdk_65_method_123_code 2 = .ok (.arraylength, 1) := by decide +kernel
theorem d6_3 : decode jdk_65_method_123_code 3 = .ok (.if_icmp .ne 11, 3) := by decide +kernel
theorem b6_14_15 : oBlk jdk_65_method_123_code 14 [.iload_n 1] = some 15 := by decide +kernel
theorem d6_15 : decode jdk_65_method_123_code 15 = .ok (.newarray .int, 2) := by decide +kernel
theorem b6_17_18 : oBlk jdk_65_method_123_code 17 [.astore_n 2] = some 18 := by decide +kernel
theorem b6_18_23 : oBlk jdk_65_method_123_code 18 [.aload_n 0, .iconst 0, .aload_n 2, .iconst 0, .aload_n 0] = some 23 := by decide +kernel
theorem d6_23 : decode jdk_65_method_123_code 23 = .ok (.arraylength, 1) := by decide +kernel
theorem b6_24_25 : oBlk jdk_65_method_123_code 24 [.iload_n 1] = some 25 := by decide +kernel
theorem d6_25 : decode jdk_65_method_123_code 25 = .ok (.invokestatic 304, 3) := by decide +kernel
theorem d6_28 : decode jdk_65_method_123_code 28 = .ok (.invokestatic 150, 3) := by decide +kernel
theorem b6_31_32 : oBlk jdk_65_method_123_code 31 [.aload_n 2] = some 32 := by decide +kernel
theorem d6_32 : decode jdk_65_method_123_code 32 = .ok (.areturn, 1) := by decide +kernel
theorem pn_3 : plainName "java/util/Arrays" = true := by first | (simp [plainName, overriddenIn]; done) | decide +kernel
theorem b4_0_1 : oBlk prog_40_method_6_code 0 [.aload_n 0] = some 1 := by decide +kernel
theorem d4_1 : decode prog_40_method_6_code 1 = .ok (.arraylength, 1) := by decide +kernel
theorem d4_2 : decode prog_40_method_6_code 2 = .ok (.newarray .int, 2) := by decide +kernel
theorem b4_4_5 : oBlk prog_40_method_6_code 4 [.astore_n 1] = some 5 := by decide +kernel
theorem b4_5_7 : oBlk prog_40_method_6_code 5 [.aload_n 0, .astore_n 2] = some 7 := by decide +kernel
theorem b4_7_8 : oBlk prog_40_method_6_code 7 [.aload_n 2] = some 8 := by decide +kernel
theorem d4_8 : decode prog_40_method_6_code 8 = .ok (.arraylength, 1) := by decide +kernel
theorem b4_9_10 : oBlk prog_40_method_6_code 9 [.istore_n 3] = some 10 := by decide +kernel
theorem b4_10_13 : oBlk prog_40_method_6_code 10 [.iconst 0, .istore 4] = some 13 := by decide +kernel
theorem b4_13_16 : oBlk prog_40_method_6_code 13 [.iload 4, .iload_n 3] = some 16 := by decide +kernel
theorem d4_16 : decode prog_40_method_6_code 16 = .ok (.if_icmp .ge 28, 3) := by decide +kernel
theorem b4_44_45 : oBlk prog_40_method_6_code 44 [.aload_n 0] = some 45 := by decide +kernel
theorem d4_45 : decode prog_40_method_6_code 45 = .ok (.arraylength, 1) := by decide +kernel
theorem d4_46 : decode prog_40_method_6_code 46 = .ok (.anewarray 47, 3) := by decide +kernel
theorem b4_49_50 : oBlk prog_40_method_6_code 49 [.astore_n 2] = some 50 := by decide +kernel
theorem b4_50_52 : oBlk prog_40_method_6_code 50 [.iconst 0, .istore_n 3] = some 52 := by decide +kernel
theorem b4_19_22 : oBlk prog_40_method_6_code 19 [.aload_n 2, .iload 4] = some 22 := by decide +kernel
theorem d4_22 : decode prog_40_method_6_code 22 = .ok (.iaload, 1) := by decide +kernel
theorem d4_23 : decode prog_40_method_6_code 23 = .ok (.istore 5, 2) := by decide +kernel
theorem b4_25_27 : oBlk prog_40_method_6_code 25 [.iload 5] = some 27 := by decide +kernel
theorem d4_27 : decode prog_40_method_6_code 27 = .ok (.ifCond .lt 11, 3) := by decide +kernel
theorem b4_38_41 : oBlk prog_40_method_6_code 38 [.iinc 4 1] = some 41 := by decide +kernel
theorem d4_41 : decode prog_40_method_6_code 41 = .ok (.goto (-28), 3) := by decide +kernel
theorem b4_30_34 : oBlk prog_40_method_6_code 30 [.aload_n 1, .iload 5, .dup2] = some 34 := by decide +kernel
theorem d4_34 : decode prog_40_method_6_code 34 = .ok (.iaload, 1) := by decide +kernel
theorem b4_35_37 : oBlk prog_40_method_6_code 35 [.iconst 1, .iadd] = some 37 := by decide +kernel
theorem d4_37 : decode prog_40_method_6_code 37 = .ok (.iastore, 1) := by decide +kernel
theorem b4_52_54 : oBlk prog_40_method_6_code 52 [.iload_n 3, .aload_n 0] = some 54 := by decide +kernel
theorem d4_54 : decode prog_40_method_6_code 54 = .ok (.arraylength, 1) := by decide +kernel
theorem d4_55 : decode prog_40_method_6_code 55 = .ok (.if_icmp .ge 21, 3) := by decide +kernel
theorem b4_76_78 : oBlk prog_40_method_6_code 76 [.iconst 0, .istore_n 3] = some 78 := by decide +kernel
theorem b4_58_62 : oBlk prog_40_method_6_code 58 [.aload_n 2, .iload_n 3, .aload_n 1, .iload_n 3] = some 62 := by decide +kernel
theorem d4_62 : decode prog_40_method_6_code 62 = .ok (.iaload, 1) := by decide +kernel
theorem d4_63 : decode prog_40_method_6_code 63 = .ok (.newarray .int, 2) := by decide +kernel
theorem d4_65 : decode prog_40_method_6_code 65 = .ok (.aastore, 1) := by decide +kernel
theorem b4_66_69 : oBlk prog_40_method_6_code 66 [.aload_n 1, .iload_n 3, .iconst 0] = some 69 := by decide +kernel
theorem d4_69 : decode prog_40_method_6_code 69 = .ok (.iastore, 1) := by decide +kernel
theorem b4_70_73 : oBlk prog_40_method_6_code 70 [.iinc 3 1] = some 73 := by decide +kernel
theorem d4_73 : decode prog_40_method_6_code 73 = .ok (.goto (-21), 3) := by decide +kernel
theorem b4_78_80 : oBlk prog_40_method_6_code 78 [.iload_n 3, .aload_n 0] = some 80 := by decide +kernel
theorem d4_80 : decode prog_40_method_6_code 80 = .ok (.arraylength, 1) := by decide +kernel
theorem d4_81 : decode prog_40_method_6_code 81 = .ok (.if_icmp .ge 34, 3) := by decide +kernel
theorem b4_115_116 : oBlk prog_40_method_6_code 115 [.aload_n 2] = some 116 := by decide +kernel
theorem d4_116 : decode prog_40_method_6_code 116 = .ok (.areturn, 1) := by decide +kernel
theorem b4_84_86 : oBlk prog_40_method_6_code 84 [.aload_n 0, .iload_n 3] = some 86 := by decide +kernel
theorem d4_86 : decode prog_40_method_6_code 86 = .ok (.iaload, 1) := by decide +kernel
theorem d4_87 : decode prog_40_method_6_code 87 = .ok (.istore 4, 2) := by decide +kernel
theorem b4_89_91 : oBlk prog_40_method_6_code 89 [.iload 4] = some 91 := by decide +kernel
theorem d4_91 : decode prog_40_method_6_code 91 = .ok (.ifCond .lt 18, 3) := by decide +kernel
theorem b4_109_112 : oBlk prog_40_method_6_code 109 [.iinc 3 1] = some 112 := by decide +kernel
theorem d4_112 : decode prog_40_method_6_code 112 = .ok (.goto (-34), 3) := by decide +kernel
theorem b4_94_97 : oBlk prog_40_method_6_code 94 [.aload_n 2, .iload 4] = some 97 := by decide +kernel
theorem d4_97 : decode prog_40_method_6_code 97 = .ok (.aaload, 1) := by decide +kernel
theorem b4_98_102 : oBlk prog_40_method_6_code 98 [.aload_n 1, .iload 4, .dup2] = some 102 := by decide +kernel
theorem d4_102 : decode prog_40_method_6_code 102 = .ok (.iaload, 1) := by decide +kernel
theorem b4_103_106 : oBlk prog_40_method_6_code 103 [.dup_x2, .iconst 1, .iadd] = some 106 := by decide +kernel
theorem d4_106 : decode prog_40_method_6_code 106 = .ok (.iastore, 1) := by decide +kernel
theorem b4_107_108 : oBlk prog_40_method_6_code 107 [.iload_n 3] = some 108 := by decide +kernel
theorem d4_108 : decode prog_40_method_6_code 108 = .ok (.iastore, 1) := by decide +kernel
theorem pn_4 : plainName "com/example/mild_horn/mildhorn/translation/Centroids" = true := by first | (simp [plainName, overriddenIn]; done) | decide +kernel
theorem b5_0_1 : oBlk prog_40_method_11_code 0 [.aload_n 0] = some 1 := by decide +kernel
theorem d5_1 : decode prog_40_method_11_code 1 = .ok (.arraylength, 1) := by decide +kernel
theorem d5_2 : decode prog_40_method_11_code 2 = .ok (.anewarray 47, 3) := by decide +kernel
theorem b5_5_6 : oBlk prog_40_method_11_code 5 [.astore_n 2] = some 6 := by decide +kernel
theorem b5_6_8 : oBlk prog_40_method_11_code 6 [.iconst 0, .istore_n 3] = some 8 := by decide +kernel
theorem b5_8_10 : oBlk prog_40_method_11_code 8 [.iload_n 3, .aload_n 0] = some 10 := by decide +kernel
theorem d5_10 : decode prog_40_method_11_code 10 = .ok (.arraylength, 1) := by decide +kernel
theorem d5_11 : decode prog_40_method_11_code 11 = .ok (.if_icmp .ge 54, 3) := by decide +kernel
theorem b5_65_66 : oBlk prog_40_method_11_code 65 [.aload_n 2] = some 66 := by decide +kernel
theorem d5_66 : decode prog_40_method_11_code 66 = .ok (.areturn, 1) := by decide +kernel
theorem b5_14_16 : oBlk prog_40_method_11_code 14 [.aload_n 1, .iload_n 3] = some 16 := by decide +kernel
theorem d5_16 : decode prog_40_method_11_code 16 = .ok (.aaload, 1) := by decide +kernel
theorem d5_17 : decode prog_40_method_11_code 17 = .ok (.astore 4, 2) := by decide +kernel
theorem b5_19_23 : oBlk prog_40_method_11_code 19 [.aload_n 2, .iload_n 3, .aload_n 0, .iload_n 3] = some 23 := by decide +kernel
theorem d5_23 : decode prog_40_method_11_code 23 = .ok (.iaload, 1) := by decide +kernel
theorem d5_24 : decode prog_40_method_11_code 24 = .ok (.ifCond .ge 8, 3) := by decide +kernel
theorem b5_32_36 : oBlk prog_40_method_11_code 32 [.aload 4, .aload 4] = some 36 := by decide +kernel
theorem d5_36 : decode prog_40_method_11_code 36 = .ok (.arraylength, 1) := by decide +kernel
theorem b5_37_39 : oBlk prog_40_method_11_code 37 [.iconst 1, .iadd] = some 39 := by decide +kernel
theorem d5_39 : decode prog_40_method_11_code 39 = .ok (.invokestatic 89, 3) := by decide +kernel
theorem pd_5 : parseMethodDescriptor "([II)[I" = some ⟨[(.array .int), .int], some (.array .int)⟩ := by decide +kernel
theorem d5_42 : decode prog_40_method_11_code 42 = .ok (.aastore, 1) := by decide +kernel
theorem b5_43_45 : oBlk prog_40_method_11_code 43 [.aload_n 0, .iload_n 3] = some 45 := by decide +kernel
theorem d5_45 : decode prog_40_method_11_code 45 = .ok (.iaload, 1) := by decide +kernel
theorem d5_46 : decode prog_40_method_11_code 46 = .ok (.ifCond .lt 13, 3) := by decide +kernel
theorem b5_59_62 : oBlk prog_40_method_11_code 59 [.iinc 3 1] = some 62 := by decide +kernel
theorem d5_62 : decode prog_40_method_11_code 62 = .ok (.goto (-54), 3) := by decide +kernel
theorem b5_49_51 : oBlk prog_40_method_11_code 49 [.aload_n 2, .iload_n 3] = some 51 := by decide +kernel
theorem d5_51 : decode prog_40_method_11_code 51 = .ok (.aaload, 1) := by decide +kernel
theorem b5_52_54 : oBlk prog_40_method_11_code 52 [.aload 4] = some 54 := by decide +kernel
theorem d5_54 : decode prog_40_method_11_code 54 = .ok (.arraylength, 1) := by decide +kernel
theorem b5_55_57 : oBlk prog_40_method_11_code 55 [.aload_n 0, .iload_n 3] = some 57 := by decide +kernel
theorem d5_57 : decode prog_40_method_11_code 57 = .ok (.iaload, 1) := by decide +kernel
theorem d5_58 : decode prog_40_method_11_code 58 = .ok (.iastore, 1) := by decide +kernel
theorem b5_27_29 : oBlk prog_40_method_11_code 27 [.aload 4] = some 29 := by decide +kernel
theorem d5_29 : decode prog_40_method_11_code 29 = .ok (.goto 13, 3) := by decide +kernel
theorem b8_0_1 : oBlk prog_40_method_7_code 0 [.aload_n 0] = some 1 := by decide +kernel
theorem d8_1 : decode prog_40_method_7_code 1 = .ok (.getfield 7, 3) := by decide +kernel
theorem d8_4 : decode prog_40_method_7_code 4 = .ok (.arraylength, 1) := by decide +kernel
theorem d8_5 : decode prog_40_method_7_code 5 = .ok (.newarray .int, 2) := by decide +kernel
theorem b8_7_8 : oBlk prog_40_method_7_code 7 [.astore_n 2] = some 8 := by decide +kernel
theorem d8_8 : decode prog_40_method_7_code 8 = .ok (.new 48, 3) := by decide +kernel
theorem b8_11_12 : oBlk prog_40_method_7_code 11 [.dup] = some 12 := by decide +kernel
theorem d8_12 : decode prog_40_method_7_code 12 = .ok (.invokespecial 50, 3) := by decide +kernel
theorem b8_15_16 : oBlk prog_40_method_7_code 15 [.astore_n 3] = some 16 := by decide +kernel
theorem b8_16_19 : oBlk prog_40_method_7_code 16 [.iconst 0, .istore 4] = some 19 := by decide +kernel
theorem b8_19_21 : oBlk prog_40_method_7_code 19 [.aload_n 3, .iload_n 1] = some 21 := by decide +kernel
theorem d8_21 : decode prog_40_method_7_code 21 = .ok (.invokestatic 51, 3) := by decide +kernel
theorem pd_6 : parseMethodDescriptor "(I)Ljava/lang/Integer;" = some ⟨[.int], some (.object "java/lang/Integer")⟩ := by decide +kernel
theorem d8_24 : decode prog_40_method_7_code 24 = .ok (.invokeinterface 57 2, 5) := by decide +kernel
theorem b8_29_30 : oBlk prog_40_method_7_code 29 [.aload_n 3] = some 30 := by decide +kernel
theorem d8_30 : decode prog_40_method_7_code 30 = .ok (.invokeinterface 63 1, 5) := by decide +kernel
theorem pd_7 : parseMethodDescriptor "()Z" = some ⟨[], some .boolean⟩ := by decide +kernel
theorem d8_35 : decode prog_40_method_7_code 35 = .ok (.ifCond .ne 80, 3) := by decide +kernel
theorem b8_115_116 : oBlk prog_40_method_7_code 115 [.aload_n 0] = some 116 := by decide +kernel
theorem d8_116 : decode prog_40_method_7_code 116 = .ok (.getfield 7, 3) := by decide +kernel
theorem d8_119 : decode prog_40_method_7_code 119 = .ok (.arraylength, 1) := by decide +kernel
theorem b8_120_124 : oBlk prog_40_method_7_code 120 [.iconst 1, .isub, .istore 4] = some 124 := by decide +kernel
theorem b8_38_39 : oBlk prog_40_method_7_code 38 [.aload_n 3] = some 39 := by decide +kernel
theorem d8_39 : decode prog_40_method_7_code 39 = .ok (.invokeinterface 67 1, 5) := by decide +kernel
theorem d8_44 : decode prog_40_method_7_code 44 = .ok (.checkcast 52, 3) := by decide +kernel
theorem d8_47 : decode prog_40_method_7_code 47 = .ok (.invokevirtual 71, 3) := by decide +kernel
theorem pd_8 : parseMethodDescriptor "()I" = some ⟨[], some .int⟩ := by decide +kernel
theorem d8_50 : decode prog_40_method_7_code 50 = .ok (.istore 5, 2) := by decide +kernel
theorem b8_52_57 : oBlk prog_40_method_7_code 52 [.aload_n 2, .iload 4, .iload 5] = some 57 := by decide +kernel
theorem d8_57 : decode prog_40_method_7_code 57 = .ok (.iastore, 1) := by decide +kernel
theorem b8_58_59 : oBlk prog_40_method_7_code 58 [.aload_n 0] = some 59 := by decide +kernel
theorem d8_59 : decode prog_40_method_7_code 59 = .ok (.getfield 26, 3) := by decide +kernel
theorem b8_62_69 : oBlk prog_40_method_7_code 62 [.iload 5, .iload 4, .iinc 4 1] = some 69 := by decide +kernel
theorem d8_69 : decode prog_40_method_7_code 69 = .ok (.iastore, 1) := by decide +kernel
theorem b8_70_71 : oBlk prog_40_method_7_code 70 [.aload_n 0] = some 71 := by decide +kernel
theorem d8_71 : decode prog_40_method_7_code 71 = .ok (.getfield 17, 3) := by decide +kernel
theorem b8_74_76 : oBlk prog_40_method_7_code 74 [.iload 5] = some 76 := by decide +kernel
theorem d8_76 : decode prog_40_method_7_code 76 = .ok (.aaload, 1) := by decide +kernel
theorem d8_77 : decode prog_40_method_7_code 77 = .ok (.arraylength, 1) := by decide +kernel
theorem b8_78_80 : oBlk prog_40_method_7_code 78 [.iconst 1, .isub] = some 80 := by decide +kernel
theorem d8_80 : decode prog_40_method_7_code 80 = .ok (.istore 6, 2) := by decide +kernel
theorem b8_82_84 : oBlk prog_40_method_7_code 82 [.iload 6] = some 84 := by decide +kernel
theorem d8_84 : decode prog_40_method_7_code 84 = .ok (.ifCond .lt 28, 3) := by decide +kernel
theorem d8_112 : decode prog_40_method_7_code 112 = .ok (.goto (-83), 3) := by decide +kernel
theorem b8_87_89 : oBlk prog_40_method_7_code 87 [.aload_n 3, .aload_n 0] = some 89 := by decide +kernel
theorem d8_89 : decode prog_40_method_7_code 89 = .ok (.getfield 17, 3) := by decide +kernel
theorem b8_92_94 : oBlk prog_40_method_7_code 92 [.iload 5] = some 94 := by decide +kernel
theorem d8_94 : decode prog_40_method_7_code 94 = .ok (.aaload, 1) := by decide +kernel
theorem b8_95_97 : oBlk prog_40_method_7_code 95 [.iload 6] = some 97 := by decide +kernel
theorem d8_97 : decode prog_40_method_7_code 97 = .ok (.iaload, 1) := by decide +kernel
theorem d8_98 : decode prog_40_method_7_code 98 = .ok (.invokestatic 51, 3) := by decide +kernel
theorem d8_101 : decode prog_40_method_7_code 101 = .ok (.invokeinterface 57 2, 5) := by decide +kernel
theorem b8_106_109 : oBlk prog_40_method_7_code 106 [.iinc 6 (-1)] = some 109 := by decide +kernel
theorem d8_109 : decode prog_40_method_7_code 109 = .ok (.goto (-27), 3) := by decide +kernel
theorem b8_124_126 : oBlk prog_40_method_7_code 124 [.iload 4] = some 126 := by decide +kernel
theorem d8_126 : decode prog_40_method_7_code 126 = .ok (.ifCond .lt 83, 3) := by decide +kernel
theorem d8_209 : decode prog_40_method_7_code 209 = .ok (.return_, 1) := by decide +kernel
theorem b8_129_132 : oBlk prog_40_method_7_code 129 [.aload_n 2, .iload 4] = some 132 := by decide +kernel
theorem d8_132 : decode prog_40_method_7_code 132 = .ok (.iaload, 1) := by decide +kernel
theorem d8_133 : decode prog_40_method_7_code 133 = .ok (.istore 5, 2) := by decide +kernel
theorem b8_135_136 : oBlk prog_40_method_7_code 135 [.aload_n 0] = some 136 := by decide +kernel
theorem d8_136 : decode prog_40_method_7_code 136 = .ok (.getfield 29, 3) := by decide +kernel
theorem b8_139_142 : oBlk prog_40_method_7_code 139 [.iload 5, .aload_n 0] = some 142 := by decide +kernel
theorem d8_142 : decode prog_40_method_7_code 142 = .ok (.getfield 29, 3) := by decide +kernel
theorem b8_145_147 : oBlk prog_40_method_7_code 145 [.iload 5] = some 147 := by decide +kernel
theorem d8_147 : decode prog_40_method_7_code 147 = .ok (.iaload, 1) := by decide +kernel
theorem b8_148_149 : oBlk prog_40_method_7_code 148 [.aload_n 0] = some 149 := by decide +kernel
theorem d8_149 : decode prog_40_method_7_code 149 = .ok (.getfield 26, 3) := by decide +kernel
theorem b8_152_154 : oBlk prog_40_method_7_code 152 [.iload 5] = some 154 := by decide +kernel
theorem d8_154 : decode prog_40_method_7_code 154 = .ok (.iaload, 1) := by decide +kernel
theorem d8_155 : decode prog_40_method_7_code 155 = .ok (.invokestatic 75, 3) := by decide +kernel
theorem d8_158 : decode prog_40_method_7_code 158 = .ok (.iastore, 1) := by decide +kernel
theorem b8_159_160 : oBlk prog_40_method_7_code 159 [.aload_n 0] = some 160 := by decide +kernel
theorem d8_160 : decode prog_40_method_7_code 160 = .ok (.getfield 7, 3) := by decide +kernel
theorem b8_163_165 : oBlk prog_40_method_7_code 163 [.iload 5] = some 165 := by decide +kernel
theorem d8_165 : decode prog_40_method_7_code 165 = .ok (.iaload, 1) := by decide +kernel
theorem d8_166 : decode prog_40_method_7_code 166 = .ok (.ifCond .lt 37, 3) := by decide +kernel
theorem b8_203_206 : oBlk prog_40_method_7_code 203 [.iinc 4 (-1)] = some 206 := by decide +kernel
theorem d8_206 : decode prog_40_method_7_code 206 = .ok (.goto (-82), 3) := by decide +kernel
theorem b8_169_170 : oBlk prog_40_method_7_code 169 [.aload_n 0] = some 170 := by decide +kernel
theorem d8_170 : decode prog_40_method_7_code 170 = .ok (.getfield 29, 3) := by decide +kernel
theorem b8_173_174 : oBlk prog_40_method_7_code 173 [.aload_n 0] = some 174 := by decide +kernel
theorem d8_174 : decode prog_40_method_7_code 174 = .ok (.getfield 7, 3) := by decide +kernel
theorem b8_177_179 : oBlk prog_40_method_7_code 177 [.iload 5] = some 179 := by decide +kernel
theorem d8_179 : decode prog_40_method_7_code 179 = .ok (.iaload, 1) := by decide +kernel
theorem b8_180_181 : oBlk prog_40_method_7_code 180 [.aload_n 0] = some 181 := by decide +kernel
theorem d8_181 : decode prog_40_method_7_code 181 = .ok (.getfield 29, 3) := by decide +kernel
theorem b8_184_185 : oBlk prog_40_method_7_code 184 [.aload_n 0] = some 185 := by decide +kernel
theorem d8_185 : decode prog_40_method_7_code 185 = .ok (.getfield 7, 3) := by decide +kernel
theorem b8_188_190 : oBlk prog_40_method_7_code 188 [.iload 5] = some 190 := by decide +kernel
theorem d8_190 : decode prog_40_method_7_code 190 = .ok (.iaload, 1) := by decide +kernel
theorem d8_191 : decode prog_40_method_7_code 191 = .ok (.iaload, 1) := by decide +kernel
theorem b8_192_193 : oBlk prog_40_method_7_code 192 [.aload_n 0] = some 193 := by decide +kernel
theorem d8_193 : decode prog_40_method_7_code 193 = .ok (.getfield 29, 3) := by decide +kernel
theorem b8_196_198 : oBlk prog_40_method_7_code 196 [.iload 5] = some 198 := by decide +kernel
theorem d8_198 : decode prog_40_method_7_code 198 = .ok (.iaload, 1) := by decide +kernel
theorem d8_199 : decode prog_40_method_7_code 199 = .ok (.invokestatic 75, 3) := by decide +kernel
theorem d8_202 : decode prog_40_method_7_code 202 = .ok (.iastore, 1) := by decide +kernel
theorem b24_0_3 : oBlk prog_40_method_9_code 0 [.iconst 0, .istore 5] = some 3 := by decide +kernel
theorem b24_3_9 : oBlk prog_40_method_9_code 3 [.aload_n 3, .iload 5, .iinc 5 1] = some 9 := by decide +kernel
theorem b24_9_10 : oBlk prog_40_method_9_code 9 [.iload_n 1] = some 10 := by decide +kernel
theorem d24_10 : decode prog_40_method_9_code 10 = .ok (.iastore, 1) := by decide +kernel
theorem b24_11_15 : oBlk prog_40_method_9_code 11 [.aload 4, .iload_n 1, .iconst (-1)] = some 15 := by decide +kernel
theorem d24_15 : decode prog_40_method_9_code 15 = .ok (.iastore, 1) := by decide +kernel
theorem b24_16_19 : oBlk prog_40_method_9_code 16 [.iconst 0, .istore 6] = some 19 := by decide +kernel
theorem b24_19_23 : oBlk prog_40_method_9_code 19 [.iload 6, .iload 5] = some 23 := by decide +kernel
theorem d24_23 : decode prog_40_method_9_code 23 = .ok (.if_icmp .ge 85, 3) := by decide +kernel
theorem b24_108_110 : oBlk prog_40_method_9_code 108 [.iload 5] = some 110 := by decide +kernel
theorem d24_110 : decode prog_40_method_9_code 110 = .ok (.ireturn, 1) := by decide +kernel
theorem b24_26_29 : oBlk prog_40_method_9_code 26 [.aload_n 3, .iload 6] = some 29 := by decide +kernel
theorem d24_29 : decode prog_40_method_9_code 29 = .ok (.iaload, 1) := by decide +kernel
theorem d24_30 : decode prog_40_method_9_code 30 = .ok (.istore 7, 2) := by decide +kernel
theorem b24_32_33 : oBlk prog_40_method_9_code 32 [.aload_n 0] = some 33 := by decide +kernel
theorem d24_33 : decode prog_40_method_9_code 33 = .ok (.getfield 24, 3) := by decide +kernel
theorem b24_36_38 : oBlk prog_40_method_9_code 36 [.iload 7] = some 38 := by decide +kernel
theorem d24_38 : decode prog_40_method_9_code 38 = .ok (.aaload, 1) := by decide +kernel
theorem d24_39 : decode prog_40_method_9_code 39 = .ok (.astore 8, 2) := by decide +kernel
theorem b24_41_43 : oBlk prog_40_method_9_code 41 [.aload 8] = some 43 := by decide +kernel
theorem d24_43 : decode prog_40_method_9_code 43 = .ok (.arraylength, 1) := by decide +kernel
theorem d24_44 : decode prog_40_method_9_code 44 = .ok (.istore 9, 2) := by decide +kernel
theorem b24_46_47 : oBlk prog_40_method_9_code 46 [.iconst 0] = some 47 := by decide +kernel
theorem d24_47 : decode prog_40_method_9_code 47 = .ok (.istore 10, 2) := by decide +kernel
theorem b24_49_53 : oBlk prog_40_method_9_code 49 [.iload 10, .iload 9] = some 53 := by decide +kernel
theorem d24_53 : decode prog_40_method_9_code 53 = .ok (.if_icmp .ge 49, 3) := by decide +kernel
theorem b24_102_105 : oBlk prog_40_method_9_code 102 [.iinc 6 1] = some 105 := by decide +kernel
theorem d24_105 : decode prog_40_method_9_code 105 = .ok (.goto (-86), 3) := by decide +kernel
theorem b24_56_60 : oBlk prog_40_method_9_code 56 [.aload 8, .iload 10] = some 60 := by decide +kernel
theorem d24_60 : decode prog_40_method_9_code 60 = .ok (.iaload, 1) := by decide +kernel
theorem d24_61 : decode prog_40_method_9_code 61 = .ok (.istore 11, 2) := by decide +kernel
theorem b24_63_66 : oBlk prog_40_method_9_code 63 [.aload_n 2, .iload 11] = some 66 := by decide +kernel
theorem d24_66 : decode prog_40_method_9_code 66 = .ok (.baload, 1) := by decide +kernel
theorem d24_67 : decode prog_40_method_9_code 67 = .ok (.ifCond .ne 29, 3) := by decide +kernel
theorem b24_96_99 : oBlk prog_40_method_9_code 96 [.iinc 10 1] = some 99 := by decide +kernel
theorem d24_99 : decode prog_40_method_9_code 99 = .ok (.goto (-50), 3) := by decide +kernel
theorem b24_70_76 : oBlk prog_40_method_9_code 70 [.iload 11, .aload 4, .iload 7] = some 76 := by decide +kernel
theorem d24_76 : decode prog_40_method_9_code 76 = .ok (.iaload, 1) := by decide +kernel
theorem d24_77 : decode prog_40_method_9_code 77 = .ok (.if_icmp .eq 19, 3) := by decide +kernel
theorem b24_80_86 : oBlk prog_40_method_9_code 80 [.aload 4, .iload 11, .iload 7] = some 86 := by decide +kernel
theorem d24_86 : decode prog_40_method_9_code 86 = .ok (.iastore, 1) := by decide +kernel
theorem b24_87_93 : oBlk prog_40_method_9_code 87 [.aload_n 3, .iload 5, .iinc 5 1] = some 93 := by decide +kernel
theorem b24_93_95 : oBlk prog_40_method_9_code 93 [.iload 11] = some 95 := by decide +kernel
theorem d24_95 : decode prog_40_method_9_code 95 = .ok (.iastore, 1) := by decide +kernel
theorem b25_0_3 : oBlk prog_40_method_10_code 0 [.iload_n 1, .istore 6] = some 3 := by decide +kernel
theorem b25_3_6 : oBlk prog_40_method_10_code 3 [.iconst 1, .istore 7] = some 6 := by decide +kernel
theorem b25_6_8 : oBlk prog_40_method_10_code 6 [.iload 7] = some 8 := by decide +kernel
theorem d25_8 : decode prog_40_method_10_code 8 = .ok (.ifCond .eq 84, 3) := by decide +kernel
theorem b25_92_94 : oBlk prog_40_method_10_code 92 [.iload 6] = some 94 := by decide +kernel
theorem d25_94 : decode prog_40_method_10_code 94 = .ok (.ireturn, 1) := by decide +kernel
theorem b25_11_14 : oBlk prog_40_method_10_code 11 [.iconst 0, .istore 7] = some 14 := by decide +kernel
theorem b25_14_15 : oBlk prog_40_method_10_code 14 [.aload_n 0] = some 15 := by decide +kernel
theorem d25_15 : decode prog_40_method_10_code 15 = .ok (.getfield 24, 3) := by decide +kernel
theorem b25_18_20 : oBlk prog_40_method_10_code 18 [.iload 6] = some 20 := by decide +kernel
theorem d25_20 : decode prog_40_method_10_code 20 = .ok (.aaload, 1) := by decide +kernel
theorem d25_21 : decode prog_40_method_10_code 21 = .ok (.astore 8, 2) := by decide +kernel
theorem b25_23_25 : oBlk prog_40_method_10_code 23 [.aload 8] = some 25 := by decide +kernel
theorem d25_25 : decode prog_40_method_10_code 25 = .ok (.arraylength, 1) := by decide +kernel
theorem d25_26 : decode prog_40_method_10_code 26 = .ok (.istore 9, 2) := by decide +kernel
theorem b25_28_29 : oBlk prog_40_method_10_code 28 [.iconst 0] = some 29 := by decide +kernel
theorem d25_29 : decode prog_40_method_10_code 29 = .ok (.istore 10, 2) := by decide +kernel
theorem b25_31_35 : oBlk prog_40_method_10_code 31 [.iload 10, .iload 9] = some 35 := by decide +kernel
theorem d25_35 : decode prog_40_method_10_code 35 = .ok (.if_icmp .ge 54, 3) := by decide +kernel
theorem d25_89 : decode prog_40_method_10_code 89 = .ok (.goto (-83), 3) := by decide +kernel
theorem b25_38_42 : oBlk prog_40_method_10_code 38 [.aload 8, .iload 10] = some 42 := by decide +kernel
theorem d25_42 : decode prog_40_method_10_code 42 = .ok (.iaload, 1) := by decide +kernel
theorem d25_43 : decode prog_40_method_10_code 43 = .ok (.istore 11, 2) := by decide +kernel
theorem b25_45_48 : oBlk prog_40_method_10_code 45 [.aload_n 3, .iload 11] = some 48 := by decide +kernel
theorem d25_48 : decode prog_40_method_10_code 48 = .ok (.baload, 1) := by decide +kernel
theorem d25_49 : decode prog_40_method_10_code 49 = .ok (.ifCond .ne 34, 3) := by decide +kernel
theorem b25_83_86 : oBlk prog_40_method_10_code 83 [.iinc 10 1] = some 86 := by decide +kernel
theorem d25_86 : decode prog_40_method_10_code 86 = .ok (.goto (-55), 3) := by decide +kernel
theorem b25_52_56 : oBlk prog_40_method_10_code 52 [.aload 4, .iload 11] = some 56 := by decide +kernel
theorem d25_56 : decode prog_40_method_10_code 56 = .ok (.iaload, 1) := by decide +kernel
theorem b25_57_59 : oBlk prog_40_method_10_code 57 [.iload 6] = some 59 := by decide +kernel
theorem d25_59 : decode prog_40_method_10_code 59 = .ok (.if_icmp .ne 24, 3) := by decide +kernel
theorem b25_62_66 : oBlk prog_40_method_10_code 62 [.aload 5, .iload 11] = some 66 := by decide +kernel
theorem d25_66 : decode prog_40_method_10_code 66 = .ok (.iaload, 1) := by decide +kernel
theorem b25_67_69 : oBlk prog_40_method_10_code 67 [.iload_n 2, .iconst 2] = some 69 := by decide +kernel
theorem d25_69 : decode prog_40_method_10_code 69 = .ok (.idiv, 1) := by decide +kernel
theorem d25_70 : decode prog_40_method_10_code 70 = .ok (.if_icmp .le 13, 3) := by decide +kernel
theorem b25_73_77 : oBlk prog_40_method_10_code 73 [.iload 11, .istore 6] = some 77 := by decide +kernel
theorem b25_77_80 : oBlk prog_40_method_10_code 77 [.iconst 1, .istore 7] = some 80 := by decide +kernel
theorem d25_80 : decode prog_40_method_10_code 80 = .ok (.goto 9, 3) := by decide +kernel
theorem b23_0_1 : oBlk prog_40_method_8_code 0 [.aload_n 0] = some 1 := by decide +kernel
theorem d23_1 : decode prog_40_method_8_code 1 = .ok (.getfield 7, 3) := by decide +kernel
theorem d23_4 : decode prog_40_method_8_code 4 = .ok (.arraylength, 1) := by decide +kernel
theorem d23_5 : decode prog_40_method_8_code 5 = .ok (.newarray .boolean, 2) := by decide +kernel
theorem b23_7_8 : oBlk prog_40_method_8_code 7 [.astore_n 2] = some 8 := by decide +kernel
theorem b23_8_9 : oBlk prog_40_method_8_code 8 [.aload_n 0] = some 9 := by decide +kernel
theorem d23_9 : decode prog_40_method_8_code 9 = .ok (.getfield 7, 3) := by decide +kernel
theorem d23_12 : decode prog_40_method_8_code 12 = .ok (.arraylength, 1) := by decide +kernel
theorem d23_13 : decode prog_40_method_8_code 13 = .ok (.newarray .int, 2) := by decide +kernel
theorem b23_15_16 : oBlk prog_40_method_8_code 15 [.astore_n 3] = some 16 := by decide +kernel
theorem b23_16_17 : oBlk prog_40_method_8_code 16 [.aload_n 0] = some 17 := by decide +kernel
theorem d23_17 : decode prog_40_method_8_code 17 = .ok (.getfield 7, 3) := by decide +kernel
theorem d23_20 : decode prog_40_method_8_code 20 = .ok (.arraylength, 1) := by decide +kernel
theorem d23_21 : decode prog_40_method_8_code 21 = .ok (.newarray .int, 2) := by decide +kernel
theorem b23_23_25 : oBlk prog_40_method_8_code 23 [.astore 4] = some 25 := by decide +kernel
theorem b23_25_26 : oBlk prog_40_method_8_code 25 [.aload_n 0] = some 26 := by decide +kernel
theorem d23_26 : decode prog_40_method_8_code 26 = .ok (.getfield 7, 3) := by decide +kernel
theorem d23_29 : decode prog_40_method_8_code 29 = .ok (.arraylength, 1) := by decide +kernel
theorem d23_30 : decode prog_40_method_8_code 30 = .ok (.newarray .int, 2) := by decide +kernel
theorem b23_32_34 : oBlk prog_40_method_8_code 32 [.astore 5] = some 34 := by decide +kernel
theorem d23_34 : decode prog_40_method_8_code 34 = .ok (.new 48, 3) := by decide +kernel
theorem b23_37_38 : oBlk prog_40_method_8_code 37 [.dup] = some 38 := by decide +kernel
theorem d23_38 : decode prog_40_method_8_code 38 = .ok (.invokespecial 50, 3) := by decide +kernel
theorem b23_41_43 : oBlk prog_40_method_8_code 41 [.astore 6] = some 43 := by decide +kernel
theorem b23_43_46 : oBlk prog_40_method_8_code 43 [.aload 6, .iconst 2] = some 46 := by decide +kernel
theorem d23_46 : decode prog_40_method_8_code 46 = .ok (.newarray .int, 2) := by decide +kernel
theorem b23_48_51 : oBlk prog_40_method_8_code 48 [.dup, .iconst 0, .iload_n 1] = some 51 := by decide +kernel
theorem d23_51 : decode prog_40_method_8_code 51 = .ok (.iastore, 1) := by decide +kernel
theorem b23_52_55 : oBlk prog_40_method_8_code 52 [.dup, .iconst 1, .iconst (-1)] = some 55 := by decide +kernel
theorem d23_55 : decode prog_40_method_8_code 55 = .ok (.iastore, 1) := by decide +kernel
theorem d23_56 : decode prog_40_method_8_code 56 = .ok (.invokeinterface 57 2, 5) := by decide +kernel
theorem b23_61_64 : oBlk prog_40_method_8_code 61 [.iconst (-1), .istore 7] = some 64 := by decide +kernel
theorem b23_64_66 : oBlk prog_40_method_8_code 64 [.aload 6] = some 66 := by decide +kernel
theorem d23_66 : decode prog_40_method_8_code 66 = .ok (.invokeinterface 63 1, 5) := by decide +kernel
theorem d23_71 : decode prog_40_method_8_code 71 = .ok (.ifCond .ne 236, 3) := by decide +kernel
theorem b23_307_309 : oBlk prog_40_method_8_code 307 [.iload 7] = some 309 := by decide +kernel
theorem d23_309 : decode prog_40_method_8_code 309 = .ok (.ireturn, 1) := by decide +kernel
theorem b23_74_76 : oBlk prog_40_method_8_code 74 [.aload 6] = some 76 := by decide +kernel
theorem d23_76 : decode prog_40_method_8_code 76 = .ok (.invokeinterface 67 1, 5) := by decide +kernel
theorem d23_81 : decode prog_40_method_8_code 81 = .ok (.checkcast 47, 3) := by decide +kernel
theorem d23_84 : decode prog_40_method_8_code 84 = .ok (.astore 8, 2) := by decide +kernel
theorem b23_86_90 : oBlk prog_40_method_8_code 86 [.aload_n 0, .aload 8, .iconst 0] = some 90 := by decide +kernel
theorem d23_90 : decode prog_40_method_8_code 90 = .ok (.iaload, 1) := by decide +kernel
theorem b23_91_95 : oBlk prog_40_method_8_code 91 [.aload_n 2, .aload_n 3, .aload 4] = some 95 := by decide +kernel
theorem d23_95 : decode prog_40_method_8_code 95 = .ok (.invokevirtual 81, 3) := by decide +kernel
theorem pd_9 : parseMethodDescriptor "(I[Z[I[I)I" = some ⟨[.int, (.array .boolean), (.array .int), (.array .int)], some .int⟩ := by decide +kernel
theorem d23_98 : decode prog_40_method_8_code 98 = .ok (.istore 9, 2) := by decide +kernel
theorem b23_100_104 : oBlk prog_40_method_8_code 100 [.iload 9, .iconst 1, .isub] = some 104 := by decide +kernel
theorem d23_104 : decode prog_40_method_8_code 104 = .ok (.istore 10, 2) := by decide +kernel
theorem b23_106_108 : oBlk prog_40_method_8_code 106 [.iload 10] = some 108 := by decide +kernel
theorem d23_108 : decode prog_40_method_8_code 108 = .ok (.ifCond .lt 88, 3) := by decide +kernel
theorem b23_196_200 : oBlk prog_40_method_8_code 196 [.aload_n 0, .aload 8, .iconst 0] = some 200 := by decide +kernel
theorem d23_200 : decode prog_40_method_8_code 200 = .ok (.iaload, 1) := by decide +kernel
theorem b23_201_208 : oBlk prog_40_method_8_code 201 [.iload 9, .aload_n 2, .aload 4, .aload 5] = some 208 := by decide +kernel
theorem d23_208 : decode prog_40_method_8_code 208 = .ok (.invokevirtual 85, 3) := by decide +kernel
theorem pd_10 : parseMethodDescriptor "(II[Z[I[I)I" = some ⟨[.int, .int, (.array .boolean), (.array .int), (.array .int)], some .int⟩ := by decide +kernel
theorem b23_211_213 : oBlk prog_40_method_8_code 211 [.istore 10] = some 213 := by decide +kernel
theorem b23_213_217 : oBlk prog_40_method_8_code 213 [.aload_n 2, .iload 10, .iconst 1] = some 217 := by decide +kernel
theorem d23_217 : decode prog_40_method_8_code 217 = .ok (.bastore, 1) := by decide +kernel
theorem b23_218_219 : oBlk prog_40_method_8_code 218 [.aload_n 0] = some 219 := by decide +kernel
theorem d23_219 : decode prog_40_method_8_code 219 = .ok (.getfield 32, 3) := by decide +kernel
theorem b23_222_227 : oBlk prog_40_method_8_code 222 [.iload 10, .aload 8, .iconst 1] = some 227 := by decide +kernel
theorem d23_227 : decode prog_40_method_8_code 227 = .ok (.iaload, 1) := by decide +kernel
theorem d23_228 : decode prog_40_method_8_code 228 = .ok (.iastore, 1) := by decide +kernel
theorem b23_229_232 : oBlk prog_40_method_8_code 229 [.aload 8, .iconst 1] = some 232 := by decide +kernel
theorem d23_232 : decode prog_40_method_8_code 232 = .ok (.iaload, 1) := by decide +kernel
theorem d23_233 : decode prog_40_method_8_code 233 = .ok (.ifCond .ge 7, 3) := by decide +kernel
theorem b23_240_241 : oBlk prog_40_method_8_code 240 [.aload_n 0] = some 241 := by decide +kernel
theorem d23_241 : decode prog_40_method_8_code 241 = .ok (.getfield 24, 3) := by decide +kernel
theorem b23_244_246 : oBlk prog_40_method_8_code 244 [.iload 10] = some 246 := by decide +kernel
theorem d23_246 : decode prog_40_method_8_code 246 = .ok (.aaload, 1) := by decide +kernel
theorem d23_247 : decode prog_40_method_8_code 247 = .ok (.astore 11, 2) := by decide +kernel
theorem b23_249_251 : oBlk prog_40_method_8_code 249 [.aload 11] = some 251 := by decide +kernel
theorem d23_251 : decode prog_40_method_8_code 251 = .ok (.arraylength, 1) := by decide +kernel
theorem d23_252 : decode prog_40_method_8_code 252 = .ok (.istore 12, 2) := by decide +kernel
theorem b23_254_255 : oBlk prog_40_method_8_code 254 [.iconst 0] = some 255 := by decide +kernel
theorem d23_255 : decode prog_40_method_8_code 255 = .ok (.istore 13, 2) := by decide +kernel
theorem b23_236_240 : oBlk prog_40_method_8_code 236 [.iload 10, .istore 7] = some 240 := by decide +kernel
theorem b23_111_114 : oBlk prog_40_method_8_code 111 [.aload_n 3, .iload 10] = some 114 := by decide +kernel
theorem d23_114 : decode prog_40_method_8_code 114 = .ok (.iaload, 1) := by decide +kernel
theorem d23_115 : decode prog_40_method_8_code 115 = .ok (.istore 11, 2) := by decide +kernel
theorem b23_117_122 : oBlk prog_40_method_8_code 117 [.aload 5, .iload 11, .iconst 1] = some 122 := by decide +kernel
theorem d23_122 : decode prog_40_method_8_code 122 = .ok (.iastore, 1) := by decide +kernel
theorem b23_123_124 : oBlk prog_40_method_8_code 123 [.aload_n 0] = some 124 := by decide +kernel
theorem d23_124 : decode prog_40_method_8_code 124 = .ok (.getfield 24, 3) := by decide +kernel
theorem b23_127_129 : oBlk prog_40_method_8_code 127 [.iload 11] = some 129 := by decide +kernel
theorem d23_129 : decode prog_40_method_8_code 129 = .ok (.aaload, 1) := by decide +kernel
theorem d23_130 : decode prog_40_method_8_code 130 = .ok (.astore 12, 2) := by decide +kernel
theorem b23_132_134 : oBlk prog_40_method_8_code 132 [.aload 12] = some 134 := by decide +kernel
theorem d23_134 : decode prog_40_method_8_code 134 = .ok (.arraylength, 1) := by decide +kernel
theorem d23_135 : decode prog_40_method_8_code 135 = .ok (.istore 13, 2) := by decide +kernel
theorem b23_137_138 : oBlk prog_40_method_8_code 137 [.iconst 0] = some 138 := by decide +kernel
theorem d23_138 : decode prog_40_method_8_code 138 = .ok (.istore 14, 2) := by decide +kernel
theorem b23_140_144 : oBlk prog_40_method_8_code 140 [.iload 14, .iload 13] = some 144 := by decide +kernel
theorem d23_144 : decode prog_40_method_8_code 144 = .ok (.if_icmp .ge 46, 3) := by decide +kernel
theorem b23_190_193 : oBlk prog_40_method_8_code 190 [.iinc 10 (-1)] = some 193 := by decide +kernel
theorem d23_193 : decode prog_40_method_8_code 193 = .ok (.goto (-87), 3) := by decide +kernel
theorem b23_147_151 : oBlk prog_40_method_8_code 147 [.aload 12, .iload 14] = some 151 := by decide +kernel
theorem d23_151 : decode prog_40_method_8_code 151 = .ok (.iaload, 1) := by decide +kernel
theorem d23_152 : decode prog_40_method_8_code 152 = .ok (.istore 15, 2) := by decide +kernel
theorem b23_154_157 : oBlk prog_40_method_8_code 154 [.aload_n 2, .iload 15] = some 157 := by decide +kernel
theorem d23_157 : decode prog_40_method_8_code 157 = .ok (.baload, 1) := by decide +kernel
theorem d23_158 : decode prog_40_method_8_code 158 = .ok (.ifCond .ne 26, 3) := by decide +kernel
theorem b23_184_187 : oBlk prog_40_method_8_code 184 [.iinc 14 1] = some 187 := by decide +kernel
theorem d23_187 : decode prog_40_method_8_code 187 = .ok (.goto (-47), 3) := by decide +kernel
theorem b23_161_165 : oBlk prog_40_method_8_code 161 [.aload 4, .iload 15] = some 165 := by decide +kernel
theorem d23_165 : decode prog_40_method_8_code 165 = .ok (.iaload, 1) := by decide +kernel
theorem b23_166_168 : oBlk prog_40_method_8_code 166 [.iload 11] = some 168 := by decide +kernel
theorem d23_168 : decode prog_40_method_8_code 168 = .ok (.if_icmp .ne 16, 3) := by decide +kernel
theorem b23_171_176 : oBlk prog_40_method_8_code 171 [.aload 5, .iload 11, .dup2] = some 176 := by decide +kernel
theorem d23_176 : decode prog_40_method_8_code 176 = .ok (.iaload, 1) := by decide +kernel
theorem b23_177_181 : oBlk prog_40_method_8_code 177 [.aload 5, .iload 15] = some 181 := by decide +kernel
theorem d23_181 : decode prog_40_method_8_code 181 = .ok (.iaload, 1) := by decide +kernel
theorem b23_182_183 : oBlk prog_40_method_8_code 182 [.iadd] = some 183 := by decide +kernel
theorem d23_183 : decode prog_40_method_8_code 183 = .ok (.iastore, 1) := by decide +kernel
theorem b23_257_261 : oBlk prog_40_method_8_code 257 [.iload 13, .iload 12] = some 261 := by decide +kernel
theorem d23_261 : decode prog_40_method_8_code 261 = .ok (.if_icmp .ge 43, 3) := by decide +kernel
theorem d23_304 : decode prog_40_method_8_code 304 = .ok (.goto (-240), 3) := by decide +kernel
theorem b23_264_268 : oBlk prog_40_method_8_code 264 [.aload 11, .iload 13] = some 268 := by decide +kernel
theorem d23_268 : decode prog_40_method_8_code 268 = .ok (.iaload, 1) := by decide +kernel
theorem d23_269 : decode prog_40_method_8_code 269 = .ok (.istore 14, 2) := by decide +kernel
theorem b23_271_274 : oBlk prog_40_method_8_code 271 [.aload_n 2, .iload 14] = some 274 := by decide +kernel
theorem d23_274 : decode prog_40_method_8_code 274 = .ok (.baload, 1) := by decide +kernel
theorem d23_275 : decode prog_40_method_8_code 275 = .ok (.ifCond .ne 23, 3) := by decide +kernel
theorem b23_298_301 : oBlk prog_40_method_8_code 298 [.iinc 13 1] = some 301 := by decide +kernel
theorem d23_301 : decode prog_40_method_8_code 301 = .ok (.goto (-44), 3) := by decide +kernel
theorem b23_278_281 : oBlk prog_40_method_8_code 278 [.aload 6, .iconst 2] = some 281 := by decide +kernel
theorem d23_281 : decode prog_40_method_8_code 281 = .ok (.newarray .int, 2) := by decide +kernel
theorem b23_283_287 : oBlk prog_40_method_8_code 283 [.dup, .iconst 0, .iload 14] = some 287 := by decide +kernel
theorem d23_287 : decode prog_40_method_8_code 287 = .ok (.iastore, 1) := by decide +kernel
theorem b23_288_292 : oBlk prog_40_method_8_code 288 [.dup, .iconst 1, .iload 10] = some 292 := by decide +kernel
theorem d23_292 : decode prog_40_method_8_code 292 = .ok (.iastore, 1) := by decide +kernel
theorem d23_293 : decode prog_40_method_8_code 293 = .ok (.invokeinterface 57 2, 5) := by decide +kernel
theorem b2_0_1 : oBlk prog_40_method_1_code 0 [.aload_n 0] = some 1 := by decide +kernel
theorem d2_1 : decode prog_40_method_1_code 1 = .ok (.invokespecial 1, 3) := by decide +kernel
theorem b2_4_6 : oBlk prog_40_method_1_code 4 [.aload_n 0, .aload_n 1] = some 6 := by decide +kernel
theorem d2_6 : decode prog_40_method_1_code 6 = .ok (.putfield 7, 3) := by decide +kernel
theorem b2_9_11 : oBlk prog_40_method_1_code 9 [.aload_n 0, .aload_n 1] = some 11 := by decide +kernel
theorem d2_11 : decode prog_40_method_1_code 11 = .ok (.invokestatic 13, 3) := by decide +kernel
theorem pd_11 : parseMethodDescriptor "([I)[[I" = some ⟨[(.array .int)], some (.array (.array .int))⟩ := by decide +kernel
theorem d2_14 : decode prog_40_method_1_code 14 = .ok (.putfield 17, 3) := by decide +kernel
theorem b2_17_20 : oBlk prog_40_method_1_code 17 [.aload_n 0, .aload_n 1, .aload_n 0] = some 20 := by decide +kernel
theorem d2_20 : decode prog_40_method_1_code 20 = .ok (.getfield 17, 3) := by decide +kernel
theorem d2_23 : decode prog_40_method_1_code 23 = .ok (.invokestatic 20, 3) := by decide +kernel
theorem pd_12 : parseMethodDescriptor "([I[[I)[[I" = some ⟨[(.array .int), (.array (.array .int))], some (.array (.array .int))⟩ := by decide +kernel
theorem d2_26 : decode prog_40_method_1_code 26 = .ok (.putfield 24, 3) := by decide +kernel
theorem b2_29_31 : oBlk prog_40_method_1_code 29 [.aload_n 0, .aload_n 1] = some 31 := by decide +kernel
theorem d2_31 : decode prog_40_method_1_code 31 = .ok (.arraylength, 1) := by decide +kernel
theorem d2_32 : decode prog_40_method_1_code 32 = .ok (.newarray .int, 2) := by decide +kernel
theorem d2_34 : decode prog_40_method_1_code 34 = .ok (.putfield 26, 3) := by decide +kernel
theorem b2_37_39 : oBlk prog_40_method_1_code 37 [.aload_n 0, .aload_n 1] = some 39 := by decide +kernel
theorem d2_39 : decode prog_40_method_1_code 39 = .ok (.arraylength, 1) := by decide +kernel
theorem d2_40 : decode prog_40_method_1_code 40 = .ok (.newarray .int, 2) := by decide +kernel
theorem d2_42 : decode prog_40_method_1_code 42 = .ok (.putfield 29, 3) := by decide +kernel
theorem b2_45_47 : oBlk prog_40_method_1_code 45 [.aload_n 0, .aload_n 1] = some 47 := by decide +kernel
theorem d2_47 : decode prog_40_method_1_code 47 = .ok (.arraylength, 1) := by decide +kernel
theorem d2_48 : decode prog_40_method_1_code 48 = .ok (.newarray .int, 2) := by decide +kernel
theorem d2_50 : decode prog_40_method_1_code 50 = .ok (.putfield 32, 3) := by decide +kernel
theorem b2_53_55 : oBlk prog_40_method_1_code 53 [.iconst 0, .istore_n 2] = some 55 := by decide +kernel
theorem b2_55_57 : oBlk prog_40_method_1_code 55 [.aload_n 1, .iload_n 2] = some 57 := by decide +kernel
theorem d2_57 : decode prog_40_method_1_code 57 = .ok (.iaload, 1) := by decide +kernel
theorem d2_58 : decode prog_40_method_1_code 58 = .ok (.ifCond .lt 9, 3) := by decide +kernel
theorem b2_67_69 : oBlk prog_40_method_1_code 67 [.aload_n 0, .iload_n 2] = some 69 := by decide +kernel
theorem d2_69 : decode prog_40_method_1_code 69 = .ok (.invokevirtual 35, 3) := by decide +kernel
theorem pd_13 : parseMethodDescriptor "(I)V" = some ⟨[.int], none⟩ := by decide +kernel
theorem b2_72_75 : oBlk prog_40_method_1_code 72 [.aload_n 0, .aload_n 0, .iload_n 2] = some 75 := by decide +kernel
theorem d2_75 : decode prog_40_method_1_code 75 = .ok (.invokevirtual 39, 3) := by decide +kernel
theorem pd_14 : parseMethodDescriptor "(I)I" = some ⟨[.int], some .int⟩ := by decide +kernel
theorem d2_78 : decode prog_40_method_1_code 78 = .ok (.putfield 43, 3) := by decide +kernel
theorem d2_81 : decode prog_40_method_1_code 81 = .ok (.return_, 1) := by decide +kernel
theorem b2_61_64 : oBlk prog_40_method_1_code 61 [.iinc 2 1] = some 64 := by decide +kernel
theorem d2_64 : decode prog_40_method_1_code 64 = .ok (.goto (-9), 3) := by decide +kernel
theorem b1_0_1 : oBlk method_2_code 0 [.iload_n 2] = some 1 := by decide +kernel
theorem d1_1 : decode method_2_code 1 = .ok (.ifCond .eq 18, 3) := by decide +kernel
theorem b1_19_20 : oBlk method_2_code 19 [.iload_n 0] = some 20 := by decide +kernel
theorem d1_20 : decode method_2_code 20 = .ok (.ifCond .ne 7, 3) := by decide +kernel
theorem b1_27_30 : oBlk method_2_code 27 [.iload_n 0, .iconst 1, .isub] = some 30 := by decide +kernel
theorem b1_23_24 : oBlk method_2_code 23 [.iconst (-1)] = some 24 := by decide +kernel
theorem d1_24 : decode method_2_code 24 = .ok (.goto 6, 3) := by decide +kernel
theorem b1_4_8 : oBlk method_2_code 4 [.iload_n 0, .iload_n 1, .iconst 1, .isub] = some 8 := by decide +kernel
theorem d1_8 : decode method_2_code 8 = .ok (.if_icmp .ne 7, 3) := by decide +kernel
theorem b1_15_18 : oBlk method_2_code 15 [.iload_n 0, .iconst 1, .iadd] = some 18 := by decide +kernel
theorem b1_11_12 : oBlk method_2_code 11 [.iconst (-1)] = some 12 := by decide +kernel
theorem d1_12 : decode method_2_code 12 = .ok (.goto 6, 3) := by decide +kernel
theorem d1_18 : decode method_2_code 18 = .ok (.ireturn, 1) := by decide +kernel
theorem d1_30 : decode method_2_code 30 = .ok (.ireturn, 1) := by decide +kernel
theorem pn_5 : plainName "com/example/mild_horn/mildhorn/translation/CentroidsBelowPinLaw" = true := by first | (simp [plainName, overriddenIn]; done) | decide +kernel
theorem b27_0_2 : oBlk method_3_code 0 [.iload_n 0, .iload_n 1] = some 2 := by decide +kernel
theorem d27_2 : decode method_3_code 2 = .ok (.if_icmp .lt 8, 3) := by decide +kernel
theorem b27_5_7 : oBlk method_3_code 5 [.iload_n 0, .iload_n 2] = some 7 := by decide +kernel
theorem d27_7 : decode method_3_code 7 = .ok (.if_icmp .le 5, 3) := by decide +kernel
theorem b27_12_18 : oBlk method_3_code 12 [.iload_n 2, .iload_n 1, .isub, .iconst 1, .iadd, .iconst 2] = some 18 := by decide +kernel
theorem d27_18 : decode method_3_code 18 = .ok (.idiv, 1) := by decide +kernel
theorem b27_19_20 : oBlk method_3_code 19 [.istore_n 3] = some 20 := by decide +kernel
theorem b27_20_24 : oBlk method_3_code 20 [.iload_n 0, .iload_n 1, .isub, .iload_n 3] = some 24 := by decide +kernel
theorem d27_24 : decode method_3_code 24 = .ok (.if_icmp .gt 14, 3) := by decide +kernel
theorem b27_27_31 : oBlk method_3_code 27 [.iload_n 2, .iload_n 0, .isub, .iload_n 3] = some 31 := by decide +kernel
theorem d27_31 : decode method_3_code 31 = .ok (.if_icmp .gt 7, 3) := by decide +kernel
theorem b27_34_35 : oBlk method_3_code 34 [.iconst 1] = some 35 := by decide +kernel
theorem d27_35 : decode method_3_code 35 = .ok (.goto 4, 3) := by decide +kernel
theorem d27_39 : decode method_3_code 39 = .ok (.ireturn, 1) := by decide +kernel
theorem b27_10_11 : oBlk method_3_code 10 [.iconst 0] = some 11 := by decide +kernel
theorem d27_11 : decode method_3_code 11 = .ok (.ireturn, 1) := by decide +kernel
theorem b27_38_39 : oBlk method_3_code 38 [.iconst 0] = some 39 := by decide +kernel
theorem b26_0_1 : oBlk prog_40_method_2_code 0 [.aload_n 0] = some 1 := by decide +kernel
theorem d26_1 : decode prog_40_method_2_code 1 = .ok (.getfield 43, 3) := by decide +kernel
theorem d26_4 : decode prog_40_method_2_code 4 = .ok (.ireturn, 1) := by decide +kernel
theorem b28_0_2 : oBlk prog_40_method_3_code 0 [.iload_n 2, .iload_n 1] = some 2 := by decide +kernel
theorem d28_2 : decode prog_40_method_3_code 2 = .ok (.if_icmp .ne 12, 3) := by decide +kernel
theorem b28_14_15 : oBlk prog_40_method_3_code 14 [.iload_n 2] = some 15 := by decide +kernel
theorem b28_5_6 : oBlk prog_40_method_3_code 5 [.aload_n 0] = some 6 := by decide +kernel
theorem d28_6 : decode prog_40_method_3_code 6 = .ok (.getfield 7, 3) := by decide +kernel
theorem b28_9_10 : oBlk prog_40_method_3_code 9 [.iload_n 1] = some 10 := by decide +kernel
theorem d28_10 : decode prog_40_method_3_code 10 = .ok (.iaload, 1) := by decide +kernel
theorem d28_11 : decode prog_40_method_3_code 11 = .ok (.goto 4, 3) := by decide +kernel
theorem d28_15 : decode prog_40_method_3_code 15 = .ok (.istore_n 3, 1) := by decide +kernel
theorem b28_16_17 : oBlk prog_40_method_3_code 16 [.aload_n 0] = some 17 := by decide +kernel
theorem d28_17 : decode prog_40_method_3_code 17 = .ok (.getfield 32, 3) := by decide +kernel
theorem b28_20_21 : oBlk prog_40_method_3_code 20 [.iload_n 3] = some 21 := by decide +kernel
theorem d28_21 : decode prog_40_method_3_code 21 = .ok (.iaload, 1) := by decide +kernel
theorem b28_22_23 : oBlk prog_40_method_3_code 22 [.iload_n 1] = some 23 := by decide +kernel
theorem d28_23 : decode prog_40_method_3_code 23 = .ok (.if_icmp .eq 13, 3) := by decide +kernel
theorem b28_36_37 : oBlk prog_40_method_3_code 36 [.iload_n 3] = some 37 := by decide +kernel
theorem d28_37 : decode prog_40_method_3_code 37 = .ok (.ireturn, 1) := by decide +kernel
theorem b28_26_27 : oBlk prog_40_method_3_code 26 [.aload_n 0] = some 27 := by decide +kernel
theorem d28_27 : decode prog_40_method_3_code 27 = .ok (.getfield 32, 3) := by decide +kernel
theorem b28_30_31 : oBlk prog_40_method_3_code 30 [.iload_n 3] = some 31 := by decide +kernel
theorem d28_31 : decode prog_40_method_3_code 31 = .ok (.iaload, 1) := by decide +kernel
theorem b28_32_33 : oBlk prog_40_method_3_code 32 [.istore_n 3] = some 33 := by decide +kernel
theorem d28_33 : decode prog_40_method_3_code 33 = .ok (.goto (-17), 3) := by decide +kernel
theorem b0_0_3 : oBlk code 0 [.iload_n 0, .iconst 1, .iand] = some 3 := by decide +kernel
theorem d0_3 : decode code 3 = .ok (.ifCond .eq 7, 3) := by decide +kernel
theorem b0_10_11 : oBlk code 10 [.iconst 0] = some 11 := by decide +kernel
theorem b0_6_7 : oBlk code 6 [.iconst 1] = some 7 := by decide +kernel
theorem d0_7 : decode code 7 = .ok (.goto 4, 3) := by decide +kernel
theorem d0_11 : decode code 11 = .ok (.istore_n 2, 1) := by decide +kernel
theorem b0_12_15 : oBlk code 12 [.iload_n 0, .iconst 2, .iand] = some 15 := by decide +kernel
theorem d0_15 : decode code 15 = .ok (.ifCond .eq 7, 3) := by decide +kernel
theorem b0_22_23 : oBlk code 22 [.iconst 0] = some 23 := by decide +kernel
theorem b0_18_19 : oBlk code 18 [.iconst 1] = some 19 := by decide +kernel
theorem d0_19 : decode code 19 = .ok (.goto 4, 3) := by decide +kernel
theorem d0_23 : decode code 23 = .ok (.istore_n 3, 1) := by decide +kernel
theorem b0_24_25 : oBlk code 24 [.iload_n 2] = some 25 := by decide +kernel
theorem d0_25 : decode code 25 = .ok (.ifCond .eq 8, 3) := by decide +kernel
theorem b0_33_35 : oBlk code 33 [.bipush 7] = some 35 := by decide +kernel
theorem b0_28_30 : oBlk code 28 [.bipush 8] = some 30 := by decide +kernel
theorem d0_30 : decode code 30 = .ok (.goto 5, 3) := by decide +kernel
theorem d0_35 : decode code 35 = .ok (.istore 4, 2) := by decide +kernel
theorem b0_37_38 : oBlk code 37 [.iload_n 2] = some 38 := by decide +kernel
theorem d0_38 : decode code 38 = .ok (.ifCond .eq 10, 3) := by decide +kernel
theorem b0_48_50 : oBlk code 48 [.bipush 7] = some 50 := by decide +kernel
theorem d0_50 : decode code 50 = .ok (.newarray .int, 2) := by decide +kernel
theorem b0_41_43 : oBlk code 41 [.bipush 8] = some 43 := by decide +kernel
theorem d0_43 : decode code 43 = .ok (.newarray .int, 2) := by decide +kernel
theorem d0_45 : decode code 45 = .ok (.goto 7, 3) := by decide +kernel
theorem d0_52 : decode code 52 = .ok (.astore 5, 2) := by decide +kernel
theorem b0_54_61 : oBlk code 54 [.aload 5, .iconst 0, .iconst 0, .iload 4, .iload_n 3] = some 61 := by decide +kernel
theorem d0_61 : decode code 61 = .ok (.invokestatic 7, 3) := by decide +kernel
theorem pd_15 : parseMethodDescriptor "(IIZ)I" = some ⟨[.int, .int, .boolean], some .int⟩ := by decide +kernel
theorem d0_64 : decode code 64 = .ok (.iastore, 1) := by decide +kernel
theorem b0_65_72 : oBlk code 65 [.aload 5, .iconst 1, .iconst 1, .iload 4, .iload_n 3] = some 72 := by decide +kernel
theorem d0_72 : decode code 72 = .ok (.invokestatic 7, 3) := by decide +kernel
theorem d0_75 : decode code 75 = .ok (.iastore, 1) := by decide +kernel
theorem b0_76_83 : oBlk code 76 [.aload 5, .iconst 2, .iconst 2, .iload 4, .iload_n 3] = some 83 := by decide +kernel
theorem d0_83 : decode code 83 = .ok (.invokestatic 7, 3) := by decide +kernel
theorem d0_86 : decode code 86 = .ok (.iastore, 1) := by decide +kernel
theorem b0_87_94 : oBlk code 87 [.aload 5, .iconst 3, .iconst 3, .iload 4, .iload_n 3] = some 94 := by decide +kernel
theorem d0_94 : decode code 94 = .ok (.invokestatic 7, 3) := by decide +kernel
theorem d0_97 : decode code 97 = .ok (.iastore, 1) := by decide +kernel
theorem b0_98_105 : oBlk code 98 [.aload 5, .iconst 4, .iconst 4, .iload 4, .iload_n 3] = some 105 := by decide +kernel
theorem d0_105 : decode code 105 = .ok (.invokestatic 7, 3) := by decide +kernel
theorem d0_108 : decode code 108 = .ok (.iastore, 1) := by decide +kernel
theorem b0_109_116 : oBlk code 109 [.aload 5, .iconst 5, .iconst 5, .iload 4, .iload_n 3] = some 116 := by decide +kernel
theorem d0_116 : decode code 116 = .ok (.invokestatic 7, 3) := by decide +kernel
theorem d0_119 : decode code 119 = .ok (.iastore, 1) := by decide +kernel
theorem b0_120_129 : oBlk code 120 [.aload 5, .bipush 6, .bipush 6, .iload 4, .iload_n 3] = some 129 := by decide +kernel
theorem d0_129 : decode code 129 = .ok (.invokestatic 7, 3) := by decide +kernel
theorem d0_132 : decode code 132 = .ok (.iastore, 1) := by decide +kernel
theorem b0_133_134 : oBlk code 133 [.iload_n 2] = some 134 := by decide +kernel
theorem d0_134 : decode code 134 = .ok (.ifCond .eq 16, 3) := by decide +kernel
theorem b0_137_146 : oBlk code 137 [.aload 5, .bipush 7, .bipush 7, .iload 4, .iload_n 3] = some 146 := by decide +kernel
theorem d0_146 : decode code 146 = .ok (.invokestatic 7, 3) := by decide +kernel
theorem d0_149 : decode code 149 = .ok (.iastore, 1) := by decide +kernel
theorem d0_150 : decode code 150 = .ok (.new 13, 3) := by decide +kernel
theorem b0_153_156 : oBlk code 153 [.dup, .aload 5] = some 156 := by decide +kernel
theorem d0_156 : decode code 156 = .ok (.invokespecial 15, 3) := by decide +kernel
theorem pd_16 : parseMethodDescriptor "([I)V" = some ⟨[(.array .int)], none⟩ := by decide +kernel
theorem d0_159 : decode code 159 = .ok (.astore 6, 2) := by decide +kernel
theorem b0_161_162 : oBlk code 161 [.iconst 0] = some 162 := by decide +kernel
theorem d0_162 : decode code 162 = .ok (.istore 7, 2) := by decide +kernel
theorem b0_164_168 : oBlk code 164 [.iload 4, .iconst 1, .isub] = some 168 := by decide +kernel
theorem d0_168 : decode code 168 = .ok (.istore 8, 2) := by decide +kernel
theorem b0_170_172 : oBlk code 170 [.aload 6] = some 172 := by decide +kernel
theorem d0_172 : decode code 172 = .ok (.invokevirtual 18, 3) := by decide +kernel
theorem d0_175 : decode code 175 = .ok (.istore 9, 2) := by decide +kernel
theorem b0_177_183 : oBlk code 177 [.iload 9, .iload 7, .iload 8] = some 183 := by decide +kernel
theorem d0_183 : decode code 183 = .ok (.invokestatic 22, 3) := by decide +kernel
theorem pd_17 : parseMethodDescriptor "(III)Z" = some ⟨[.int, .int, .int], some .boolean⟩ := by decide +kernel
theorem d0_186 : decode code 186 = .ok (.ifCond .ne 5, 3) := by decide +kernel
theorem b0_191_195 : oBlk code 191 [.iload 7, .iload 8] = some 195 := by decide +kernel
theorem d0_195 : decode code 195 = .ok (.if_icmp .ne 5, 3) := by decide +kernel
theorem b0_200_204 : oBlk code 200 [.iload 9, .iload 8] = some 204 := by decide +kernel
theorem d0_204 : decode code 204 = .ok (.if_icmp .eq 16, 3) := by decide +kernel
theorem b0_220_221 : oBlk code 220 [.iconst 1] = some 221 := by decide +kernel
theorem d0_221 : decode code 221 = .ok (.goto 4, 3) := by decide +kernel
theorem b0_207_211 : oBlk code 207 [.iload 9, .iload 7] = some 211 := by decide +kernel
theorem d0_211 : decode code 211 = .ok (.if_icmp .eq 13, 3) := by decide +kernel
theorem b0_224_225 : oBlk code 224 [.iconst 0] = some 225 := by decide +kernel
theorem b0_214_217 : oBlk code 214 [.iload_n 1, .iconst 1, .iand] = some 217 := by decide +kernel
theorem d0_217 : decode code 217 = .ok (.ifCond .eq 7, 3) := by decide +kernel
theorem b0_198_199 : oBlk code 198 [.iconst 1] = some 199 := by decide +kernel
theorem d0_199 : decode code 199 = .ok (.ireturn, 1) := by decide +kernel
theorem b0_189_190 : oBlk code 189 [.iconst 0] = some 190 := by decide +kernel
theorem d0_190 : decode code 190 = .ok (.ireturn, 1) := by decide +kernel
theorem d0_225 : decode code 225 = .ok (.istore 10, 2) := by decide +kernel
theorem b0_227_229 : oBlk code 227 [.iload 10] = some 229 := by decide +kernel
theorem d0_229 : decode code 229 = .ok (.ifCond .eq 8, 3) := by decide +kernel
theorem b0_237_241 : oBlk code 237 [.iload 9, .iconst 1, .iadd] = some 241 := by decide +kernel
theorem b0_232_234 : oBlk code 232 [.iload 7] = some 234 := by decide +kernel
theorem d0_234 : decode code 234 = .ok (.goto 7, 3) := by decide +kernel
theorem d0_241 : decode code 241 = .ok (.istore 11, 2) := by decide +kernel
theorem b0_243_245 : oBlk code 243 [.iload 10] = some 245 := by decide +kernel
theorem d0_245 : decode code 245 = .ok (.ifCond .eq 10, 3) := by decide +kernel
theorem b0_255_257 : oBlk code 255 [.iload 8] = some 257 := by decide +kernel
theorem b0_248_252 : oBlk code 248 [.iload 9, .iconst 1, .isub] = some 252 := by decide +kernel
theorem d0_252 : decode code 252 = .ok (.goto 5, 3) := by decide +kernel
theorem d0_257 : decode code 257 = .ok (.istore 12, 2) := by decide +kernel
theorem b0_259_261 : oBlk code 259 [.iload 10] = some 261 := by decide +kernel
theorem d0_261 : decode code 261 = .ok (.ifCond .eq 19, 3) := by decide +kernel
theorem b0_280_281 : oBlk code 280 [.iload_n 3] = some 281 := by decide +kernel
theorem d0_281 : decode code 281 = .ok (.ifCond .eq 8, 3) := by decide +kernel
theorem b0_289_293 : oBlk code 289 [.iload 9, .iconst 1, .iadd] = some 293 := by decide +kernel
theorem b0_284_286 : oBlk code 284 [.iload 9] = some 286 := by decide +kernel
theorem d0_286 : decode code 286 = .ok (.goto 7, 3) := by decide +kernel
theorem b0_264_265 : oBlk code 264 [.iload_n 3] = some 265 := by decide +kernel
theorem d0_265 : decode code 265 = .ok (.ifCond .eq 10, 3) := by decide +kernel
theorem b0_275_277 : oBlk code 275 [.iload 9] = some 277 := by decide +kernel
theorem d0_277 : decode code 277 = .ok (.goto 16, 3) := by decide +kernel
theorem b0_268_272 : oBlk code 268 [.iload 9, .iconst 1, .isub] = some 272 := by decide +kernel
theorem d0_272 : decode code 272 = .ok (.goto 21, 3) := by decide +kernel
theorem d0_293 : decode code 293 = .ok (.istore 13, 2) := by decide +kernel
theorem b0_295_301 : oBlk code 295 [.aload 6, .iload 9, .iload 13] = some 301 := by decide +kernel
theorem d0_301 : decode code 301 = .ok (.invokevirtual 26, 3) := by decide +kernel
theorem d0_304 : decode code 304 = .ok (.istore 14, 2) := by decide +kernel
theorem b0_306_312 : oBlk code 306 [.iload 14, .iload 11, .iload 12] = some 312 := by decide +kernel
theorem d0_312 : decode code 312 = .ok (.invokestatic 22, 3) := by decide +kernel
theorem d0_315 : decode code 315 = .ok (.ifCond .ne 5, 3) := by decide +kernel
theorem b0_320_322 : oBlk code 320 [.iload 11] = some 322 := by decide +kernel
theorem d0_322 : decode code 322 = .ok (.istore 7, 2) := by decide +kernel
theorem b0_324_326 : oBlk code 324 [.iload 12] = some 326 := by decide +kernel
theorem d0_326 : decode code 326 = .ok (.istore 8, 2) := by decide +kernel
theorem b0_328_332 : oBlk code 328 [.iload 14, .istore 9] = some 332 := by decide +kernel
theorem b0_332_336 : oBlk code 332 [.iload 7, .iload 8] = some 336 := by decide +kernel
theorem d0_336 : decode code 336 = .ok (.if_icmp .ne 5, 3) := by decide +kernel
theorem b0_341_345 : oBlk code 341 [.iload 9, .iload 8] = some 345 := by decide +kernel
theorem d0_345 : decode code 345 = .ok (.if_icmp .eq 16, 3) := by decide +kernel
theorem b0_361_362 : oBlk code 361 [.iconst 1] = some 362 := by decide +kernel
theorem d0_362 : decode code 362 = .ok (.goto 4, 3) := by decide +kernel
theorem b0_348_352 : oBlk code 348 [.iload 9, .iload 7] = some 352 := by decide +kernel
theorem d0_352 : decode code 352 = .ok (.if_icmp .eq 13, 3) := by decide +kernel
theorem b0_365_366 : oBlk code 365 [.iconst 0] = some 366 := by decide +kernel
theorem b0_355_358 : oBlk code 355 [.iload_n 1, .iconst 2, .iand] = some 358 := by decide +kernel
theorem d0_358 : decode code 358 = .ok (.ifCond .eq 7, 3) := by decide +kernel
theorem b0_339_340 : oBlk code 339 [.iconst 1] = some 340 := by decide +kernel
theorem d0_340 : decode code 340 = .ok (.ireturn, 1) := by decide +kernel
theorem b0_318_319 : oBlk code 318 [.iconst 0] = some 319 := by decide +kernel
theorem d0_319 : decode code 319 = .ok (.ireturn, 1) := by decide +kernel
theorem d0_366 : decode code 366 = .ok (.istore 10, 2) := by decide +kernel
theorem b0_368_370 : oBlk code 368 [.iload 10] = some 370 := by decide +kernel
theorem d0_370 : decode code 370 = .ok (.ifCond .eq 8, 3) := by decide +kernel
theorem b0_378_382 : oBlk code 378 [.iload 9, .iconst 1, .iadd] = some 382 := by decide +kernel
theorem b0_373_375 : oBlk code 373 [.iload 7] = some 375 := by decide +kernel
theorem d0_375 : decode code 375 = .ok (.goto 7, 3) := by decide +kernel
theorem d0_382 : decode code 382 = .ok (.istore 11, 2) := by decide +kernel
theorem b0_384_386 : oBlk code 384 [.iload 10] = some 386 := by decide +kernel
theorem d0_386 : decode code 386 = .ok (.ifCond .eq 10, 3) := by decide +kernel
theorem b0_396_398 : oBlk code 396 [.iload 8] = some 398 := by decide +kernel
theorem b0_389_393 : oBlk code 389 [.iload 9, .iconst 1, .isub] = some 393 := by decide +kernel
theorem d0_393 : decode code 393 = .ok (.goto 5, 3) := by decide +kernel
theorem d0_398 : decode code 398 = .ok (.istore 12, 2) := by decide +kernel
theorem b0_400_402 : oBlk code 400 [.iload 10] = some 402 := by decide +kernel
theorem d0_402 : decode code 402 = .ok (.ifCond .eq 19, 3) := by decide +kernel
theorem b0_421_422 : oBlk code 421 [.iload_n 3] = some 422 := by decide +kernel
theorem d0_422 : decode code 422 = .ok (.ifCond .eq 8, 3) := by decide +kernel
theorem b0_430_434 : oBlk code 430 [.iload 9, .iconst 1, .iadd] = some 434 := by decide +kernel
theorem b0_425_427 : oBlk code 425 [.iload 9] = some 427 := by decide +kernel
theorem d0_427 : decode code 427 = .ok (.goto 7, 3) := by decide +kernel
theorem b0_405_406 : oBlk code 405 [.iload_n 3] = some 406 := by decide +kernel
theorem d0_406 : decode code 406 = .ok (.ifCond .eq 10, 3) := by decide +kernel
theorem b0_416_418 : oBlk code 416 [.iload 9] = some 418 := by decide +kernel
theorem d0_418 : decode code 418 = .ok (.goto 16, 3) := by decide +kernel
theorem b0_409_413 : oBlk code 409 [.iload 9, .iconst 1, .isub] = some 413 := by decide +kernel
theorem d0_413 : decode code 413 = .ok (.goto 21, 3) := by decide +kernel
theorem d0_434 : decode code 434 = .ok (.istore 13, 2) := by decide +kernel
theorem b0_436_442 : oBlk code 436 [.aload 6, .iload 9, .iload 13] = some 442 := by decide +kernel
theorem d0_442 : decode code 442 = .ok (.invokevirtual 26, 3) := by decide +kernel
theorem d0_445 : decode code 445 = .ok (.istore 14, 2) := by decide +kernel
theorem b0_447_453 : oBlk code 447 [.iload 14, .iload 11, .iload 12] = some 453 := by decide +kernel
theorem d0_453 : decode code 453 = .ok (.invokestatic 22, 3) := by decide +kernel
theorem d0_456 : decode code 456 = .ok (.ifCond .ne 5, 3) := by decide +kernel
theorem b0_461_463 : oBlk code 461 [.iload 11] = some 463 := by decide +kernel
theorem d0_463 : decode code 463 = .ok (.istore 7, 2) := by decide +kernel
theorem b0_465_467 : oBlk code 465 [.iload 12] = some 467 := by decide +kernel
theorem d0_467 : decode code 467 = .ok (.istore 8, 2) := by decide +kernel
theorem b0_469_473 : oBlk code 469 [.iload 14, .istore 9] = some 473 := by decide +kernel
theorem b0_473_477 : oBlk code 473 [.iload 7, .iload 8] = some 477 := by decide +kernel
theorem d0_477 : decode code 477 = .ok (.if_icmp .ne 5, 3) := by decide +kernel
theorem b0_482_486 : oBlk code 482 [.iload 9, .iload 8] = some 486 := by decide +kernel
theorem d0_486 : decode code 486 = .ok (.if_icmp .eq 16, 3) := by decide +kernel
theorem b0_502_503 : oBlk code 502 [.iconst 1] = some 503 := by decide +kernel
theorem d0_503 : decode code 503 = .ok (.goto 4, 3) := by decide +kernel
theorem b0_489_493 : oBlk code 489 [.iload 9, .iload 7] = some 493 := by decide +kernel
theorem d0_493 : decode code 493 = .ok (.if_icmp .eq 13, 3) := by decide +kernel
theorem b0_506_507 : oBlk code 506 [.iconst 0] = some 507 := by decide +kernel
theorem b0_496_499 : oBlk code 496 [.iload_n 1, .iconst 4, .iand] = some 499 := by decide +kernel
theorem d0_499 : decode code 499 = .ok (.ifCond .eq 7, 3) := by decide +kernel
theorem b0_480_481 : oBlk code 480 [.iconst 1] = some 481 := by decide +kernel
theorem d0_481 : decode code 481 = .ok (.ireturn, 1) := by decide +kernel
theorem b0_459_460 : oBlk code 459 [.iconst 0] = some 460 := by decide +kernel
theorem d0_460 : decode code 460 = .ok (.ireturn, 1) := by decide +kernel
theorem d0_507 : decode code 507 = .ok (.istore 10, 2) := by decide +kernel
theorem b0_509_511 : oBlk code 509 [.iload 10] = some 511 := by decide +kernel
theorem d0_511 : decode code 511 = .ok (.ifCond .eq 8, 3) := by decide +kernel
theorem b0_519_523 : oBlk code 519 [.iload 9, .iconst 1, .iadd] = some 523 := by decide +kernel
theorem b0_514_516 : oBlk code 514 [.iload 7] = some 516 := by decide +kernel
theorem d0_516 : decode code 516 = .ok (.goto 7, 3) := by decide +kernel
theorem d0_523 : decode code 523 = .ok (.istore 11, 2) := by decide +kernel
theorem b0_525_527 : oBlk code 525 [.iload 10] = some 527 := by decide +kernel
theorem d0_527 : decode code 527 = .ok (.ifCond .eq 10, 3) := by decide +kernel
theorem b0_537_539 : oBlk code 537 [.iload 8] = some 539 := by decide +kernel
theorem b0_530_534 : oBlk code 530 [.iload 9, .iconst 1, .isub] = some 534 := by decide +kernel
theorem d0_534 : decode code 534 = .ok (.goto 5, 3) := by decide +kernel
theorem d0_539 : decode code 539 = .ok (.istore 12, 2) := by decide +kernel
theorem b0_541_543 : oBlk code 541 [.iload 10] = some 543 := by decide +kernel
theorem d0_543 : decode code 543 = .ok (.ifCond .eq 19, 3) := by decide +kernel
theorem b0_562_563 : oBlk code 562 [.iload_n 3] = some 563 := by decide +kernel
theorem d0_563 : decode code 563 = .ok (.ifCond .eq 8, 3) := by decide +kernel
theorem b0_571_575 : oBlk code 571 [.iload 9, .iconst 1, .iadd] = some 575 := by decide +kernel
theorem b0_566_568 : oBlk code 566 [.iload 9] = some 568 := by decide +kernel
theorem d0_568 : decode code 568 = .ok (.goto 7, 3) := by decide +kernel
theorem b0_546_547 : oBlk code 546 [.iload_n 3] = some 547 := by decide +kernel
theorem d0_547 : decode code 547 = .ok (.ifCond .eq 10, 3) := by decide +kernel
theorem b0_557_559 : oBlk code 557 [.iload 9] = some 559 := by decide +kernel
theorem d0_559 : decode code 559 = .ok (.goto 16, 3) := by decide +kernel
theorem b0_550_554 : oBlk code 550 [.iload 9, .iconst 1, .isub] = some 554 := by decide +kernel
theorem d0_554 : decode code 554 = .ok (.goto 21, 3) := by decide +kernel
theorem d0_575 : decode code 575 = .ok (.istore 13, 2) := by decide +kernel
theorem b0_577_583 : oBlk code 577 [.aload 6, .iload 9, .iload 13] = some 583 := by decide +kernel
theorem d0_583 : decode code 583 = .ok (.invokevirtual 26, 3) := by decide +kernel
theorem d0_586 : decode code 586 = .ok (.istore 14, 2) := by decide +kernel
theorem b0_588_594 : oBlk code 588 [.iload 14, .iload 11, .iload 12] = some 594 := by decide +kernel
theorem d0_594 : decode code 594 = .ok (.invokestatic 22, 3) := by decide +kernel
theorem d0_597 : decode code 597 = .ok (.ireturn, 1) := by decide +kernel
set_option maxRecDepth 65536 in
set_option maxHeartbeats 40000000 in
theorem rm_vof (l : Launch) (Z : State) (a0 : Array Value) (hw : ∀ d ∈ tables_1, d.before a0 Z = true) (ca : Nat → Addr) (K : OKa Z ca) (H : List AO) (i0 : Int32) (res : List AO × Nat) (h0 : Heap) (hE0 : Ext Z.heap h0) (R0 : Rep Z ca h0 H) (hM : M_vof H i0 = some res) :
    OCtr l Z (⟨"java/lang/Integer", "valueOf", "(I)Ljava/lang/Integer;"⟩ : MethodName) jdk_33_method_22_code 1 (some (.object "java/lang/Integer")) ({ frames := 0, cells := 0, slots := 0, locals := 0 } : Room) #[(.int i0)] h0 (fun v h => v = some (.ref (ad Z ca res.2)) ∧ Rep Z ca h res.1) := by
  obtain ⟨-, cb, cc, cS1, cS2, cA, hsz, he⟩ := K
  obtain ⟨r, hr, hM⟩ := own_bind hM
  obtain ⟨h1, hr⟩ := own_nite hr
  obtain ⟨h2, hr⟩ := own_nite hr
  cases hr
  cases hM
  refine o_body (ls0 := #[.val (.int i0)]) (plainFor_of_name pn_0) hE0 (fun m => by first | (simp [entryFrame, mkF, argsToLocals, Value.category]; done) | rfl) ?_
  intro pG eG sG mG bG meG cG
  refine o_blk (pc' := 3) (st' := [(.int (-128 : Int32)), (.int i0)]) (ls' := #[.val (.int i0)]) b11_0_3 rfl ?_
  refine o_icN (pc' := 6) d11_3 rfl (h1 : ¬ i0 < (-128 : Int32)) ?_
  refine o_blk (pc' := 7) (st' := [(.int i0)]) (ls' := #[.val (.int i0)]) b11_6_7 rfl ?_
  refine o_getS (pc' := 10) (v := (.int (127 : Int32))) (own_word hw 72 rfl) cS1 d11_7 rfl ?_
  refine o_icN (pc' := 13) d11_10 rfl (h2 : ¬ (127 : Int32) < i0) ?_
  refine o_getS (pc' := 16) (v := (.ref cb)) (own_word hw 74 rfl) cS2 d11_13 rfl ?_
  refine o_blk (pc' := 21) (st' := [(.int (i0 + (128 : Int32))), (.ref cb)]) (ls' := #[.val (.int i0)]) b11_16_21 rfl ?_
  refine o_aaldJ (pc' := 22) (v := .ref (ca (i0 + (128 : Int32)).toNatClampNeg)) (cA.ext hE0) rfl (own_idx h1 h2 hsz) (he _ (Nat.lt_of_not_le fun z => own_idx h1 h2 rfl (Or.inr z))) d11_21 rfl ?_
  exact o_retA d11_22 (by decide) (by decide) rfl rfl rfl ⟨by rw [own_adc], R0⟩
set_option maxRecDepth 65536 in
set_option maxHeartbeats 40000000 in
theorem rm_ival (l : Launch) (Z : State) (a0 : Array Value) (hw : ∀ d ∈ tables_1, d.before a0 Z = true) (ca : Nat → Addr) (K : OKa Z ca) (H : List AO) (r0 : Nat) (res : List AO × Int32) (h0 : Heap) (hE0 : Ext Z.heap h0) (R0 : Rep Z ca h0 H) (hM : M_ival H r0 = some res) :
    OCtr l Z (⟨"java/lang/Integer", "intValue", "()I"⟩ : MethodName) jdk_33_method_27_code 1 (some .int) ({ frames := 0, cells := 0, slots := 0, locals := 0 } : Room) #[(.ref (ad Z ca r0))] h0 (fun v h => v = some (.int res.2) ∧ Rep Z ca h res.1) := by
  obtain ⟨z, hr, hM⟩ := own_bind hM
  obtain ⟨h1, hr⟩ := own_ite hr
  cases hr
  cases hM
  have FV := (own_int K.1 hE0 h1).2
  refine o_body (ls0 := #[.val (.ref (ad Z ca r0))]) (plainFor_of_name pn_0) hE0 (fun m => by first | (simp [entryFrame, mkF, argsToLocals, Value.category]; done) | rfl) ?_
  intro pG eG sG mG bG meG cG
  refine o_blk (pc' := 1) (st' := [(.ref (ad Z ca r0))]) (ls' := #[.val (.ref (ad Z ca r0))]) b21_0_1 rfl ?_
  refine o_getF (host := "") (pc' := 4) (v := (.int (Int32.ofNat (r0 - 1000) - 128))) (Or.inl (own_word hw 136 rfl)) FV d21_1 rfl ?_
  exact o_retI d21_4 (by decide) (by decide) rfl ⟨rfl, R0⟩
def M_max (H : List AO) (i0 : Int32) (i1 : Int32) : Option (List AO × Int32) :=
  if i0 < i1 then ( some (H, i1) ) else ( some (H, i0) )
set_option maxRecDepth 65536 in
set_option maxHeartbeats 40000000 in
theorem rm_max (l : Launch) (Z : State) (a0 : Array Value) (hw : ∀ d ∈ tables_1, d.before a0 Z = true) (ca : Nat → Addr) (K : OKa Z ca) (H : List AO) (i0 : Int32) (i1 : Int32) (res : List AO × Int32) (h0 : Heap) (hE0 : Ext Z.heap h0) (R0 : Rep Z ca h0 H)  (hM : M_max H i0 i1 = some res) :
    OCtr l Z (⟨"java/lang/Math", "max", "(II)I"⟩ : MethodName) jdk_29_method_65_code 2 (some .int) ({ frames := 0, cells := 0, slots := 0, locals := 0 } : Room) #[(.int i0), (.int i1)] h0 (fun v h => v = some (.int res.2) ∧ Rep Z ca h res.1) := by
  refine o_bodyS (ls0 := #[.val (.int i0), .val (.int i1)]) (Jvm.Free.JP.mathPlain rfl (by decide +kernel)) hE0 (fun m => by first | (simp [entryFrame, mkF, argsToLocals, Value.category]; done) | rfl) ?_
  intro pG eG sG mG bG meG cG hS0
  unfold M_max at hM
  refine o_blk (pc' := 2) (st' := [(.int i1), (.int i0)]) (ls' := #[.val (.int i0), .val (.int i1)]) b22_0_2 rfl ?_
  refine o_ic (pc' := 9) (pc'' := 5) d22_2 (by decide) (by decide) rfl (fun (hc2_1 : i0 < i1) => ?_) (fun (hc2_1 : ¬ i0 < i1) => ?_)
  ·
    rw [if_pos hc2_1] at hM
    refine o_blk (pc' := 10) (st' := [(.int i1)]) (ls' := #[.val (.int i0), .val (.int i1)]) b22_9_10 rfl ?_
    cases hM
    exact o_retI d22_10 (by decide) (by decide) rfl ⟨rfl, R0⟩
  ·
    rw [if_neg hc2_1] at hM
    refine o_blk (pc' := 6) (st' := [(.int i0)]) (ls' := #[.val (.int i0), .val (.int i1)]) b22_5_6 rfl ?_
    refine o_goto (pc' := 10) d22_6 (by decide) (by decide) ?_
    cases hM
    exact o_retI d22_10 (by decide) (by decide) rfl ⟨rfl, R0⟩
def M_min (H : List AO) (i0 : Int32) (i1 : Int32) : Option (List AO × Int32) :=
  if i1 < i0 then ( some (H, i1) ) else ( some (H, i0) )
set_option maxRecDepth 65536 in
set_option maxHeartbeats 40000000 in
theorem rm_min (l : Launch) (Z : State) (a0 : Array Value) (hw : ∀ d ∈ tables_1, d.before a0 Z = true) (ca : Nat → Addr) (K : OKa Z ca) (H : List AO) (i0 : Int32) (i1 : Int32) (res : List AO × Int32) (h0 : Heap) (hE0 : Ext Z.heap h0) (R0 : Rep Z ca h0 H)  (hM : M_min H i0 i1 = some res) :
    OCtr l Z (⟨"java/lang/Math", "min", "(II)I"⟩ : MethodName) jdk_29_method_69_code 2 (some .int) ({ frames := 0, cells := 0, slots := 0, locals := 0 } : Room) #[(.int i0), (.int i1)] h0 (fun v h => v = some (.int res.2) ∧ Rep Z ca h res.1) := by
  refine o_bodyS (ls0 := #[.val (.int i0), .val (.int i1)]) (Jvm.Free.JP.mathPlain rfl (by decide +kernel)) hE0 (fun m => by first | (simp [entryFrame, mkF, argsToLocals, Value.category]; done) | rfl) ?_
  intro pG eG sG mG bG meG cG hS0
  unfold M_min at hM
  refine o_blk (pc' := 2) (st' := [(.int i1), (.int i0)]) (ls' := #[.val (.int i0), .val (.int i1)]) b7_0_2 rfl ?_
  refine o_ic (pc' := 9) (pc'' := 5) d7_2 (by decide) (by decide) rfl (fun (hc2_1 : i1 < i0) => ?_) (fun (hc2_1 : ¬ i1 < i0) => ?_)
  ·
    rw [if_pos hc2_1] at hM
    refine o_blk (pc' := 10) (st' := [(.int i1)]) (ls' := #[.val (.int i0), .val (.int i1)]) b7_9_10 rfl ?_
    cases hM
    exact o_retI d7_10 (by decide) (by decide) rfl ⟨rfl, R0⟩
  ·
    rw [if_neg hc2_1] at hM
    refine o_blk (pc' := 6) (st' := [(.int i0)]) (ls' := #[.val (.int i0), .val (.int i1)]) b7_5_6 rfl ?_
    refine o_goto (pc' := 10) d7_6 (by decide) (by decide) ?_
    cases hM
    exact o_retI d7_10 (by decide) (by decide) rfl ⟨rfl, R0⟩
def M_acol (H : List AO) (r0 : Nat) : Option (List AO × Nat) :=
  some (H, 0)
set_option maxRecDepth 65536 in
set_option maxHeartbeats 40000000 in
theorem rm_acol (l : Launch) (Z : State) (a0 : Array Value) (hw : ∀ d ∈ tables_1, d.before a0 Z = true) (ca : Nat → Addr) (K : OKa Z ca) (H : List AO) (r0 : Nat) (res : List AO × Nat) (h0 : Heap) (hE0 : Ext Z.heap h0) (R0 : Rep Z ca h0 H)  (hM : M_acol H r0 = some res) :
    OCtr l Z (⟨"java/util/AbstractCollection", "<init>", "()V"⟩ : MethodName) jdk_22_method_1_code 1 none ({ frames := 1, cells := 0, slots := 0, locals := 12 } : Room) #[(.ref (ad Z ca r0))] h0 (fun v h => v = none ∧ Rep Z ca h res.1) := by
  refine o_bodyS (ls0 := #[.val (.ref (ad Z ca r0))]) (plainFor_of_name pn_1) hE0 (fun m => by first | (simp [entryFrame, mkF, argsToLocals, Value.category]; done) | rfl) ?_
  intro pG eG sG mG bG meG cG hS0
  unfold M_acol at hM
  refine o_blk (pc' := 1) (st' := [(.ref (ad Z ca r0))]) (ls' := #[.val (.ref (ad Z ca r0))]) b10_0_1 rfl ?_
  refine o_initO (W := 0) (pc' := 4) (own_word hw 63 rfl) (own_word hw 12 rfl) (own_word hw 13 rfl) d10_1 rfl (Nat.le_of_eq rfl) (by decide) (by decide) rfl ?_
  cases hM
  exact o_retV d10_4 (by decide) (by decide) rfl ⟨rfl, R0⟩
def M_deq (H : List AO) (r0 : Nat) : Option (List AO × Nat) :=
  (M_acol H r0).bind fun q1 => (newQ 3 17 q1.1 (17 : Int32)).bind fun q2 => (pfr 5 q2.1 r0 0 q2.2).bind fun q3 => some (q3, 0)
set_option maxRecDepth 65536 in
set_option maxHeartbeats 40000000 in
theorem rm_deq (l : Launch) (Z : State) (a0 : Array Value) (hw : ∀ d ∈ tables_1, d.before a0 Z = true) (ca : Nat → Addr) (K : OKa Z ca) (H : List AO) (r0 : Nat) (res : List AO × Nat) (h0 : Heap) (hE0 : Ext Z.heap h0) (R0 : Rep Z ca h0 H)  (hM : M_deq H r0 = some res) :
    OCtr l Z (⟨"java/util/ArrayDeque", "<init>", "()V"⟩ : MethodName) jdk_21_method_3_code 1 none ({ frames := 2, cells := 1, slots := 17, locals := 24 } : Room) #[(.ref (ad Z ca r0))] h0 (fun v h => v = none ∧ Rep Z ca h res.1) := by
  refine o_bodyS (ls0 := #[.val (.ref (ad Z ca r0))]) (plainFor_of_name pn_2) hE0 (fun m => by first | (simp [entryFrame, mkF, argsToLocals, Value.category]; done) | rfl) ?_
  intro pG eG sG mG bG meG cG hS0
  unfold M_deq at hM
  refine o_blk (pc' := 1) (st' := [(.ref (ad Z ca r0))]) (ls' := #[.val (.ref (ad Z ca r0))]) b9_0_1 rfl ?_
  obtain ⟨q1, hq1, hM⟩ := own_bind hM
  refine o_callI (W := 0) (argsL := []) (rest := []) (pc' := 4) rfl (own_word hw 57 rfl) (own_word hw 58 rfl) (own_word hw 62 rfl) (own_word hw 61 rfl) (by decide) (fun hE => rm_acol l Z a0 hw ca K H r0 q1 h0 hE R0 hq1) d9_1 pd_0 rfl rfl rfl (Nat.le_of_eq rfl) (by decide) (by decide) (by decide) (by decide) rfl ?_
  rintro _ h_q1 ⟨rfl, R_q1⟩ hs_q1
  refine o_blk (pc' := 7) (st' := [(.int (17 : Int32)), (.ref (ad Z ca r0))]) (ls' := #[.val (.ref (ad Z ca r0))]) b9_4_7 rfl ?_
  obtain ⟨q2, hq2, hM⟩ := own_bind hM
  refine m_newR (pc' := 10) R_q1 (own_word hw 64 rfl) (own_word hw 65 rfl) hq2 d9_7 (by decide) (by decide) rfl ?_
  intro h_q2 R_q2
  obtain ⟨q3, hq3, hM⟩ := own_bind hM
  refine m_putR (t := 1) (i := 0) (pc' := 13) R_q2 (own_lay5 hw) hq3 rfl rfl (own_word hw 66 rfl) (Or.inl (own_word hw 67 rfl)) (own_word hw 52 rfl) d9_10 rfl ?_
  intro h_q3 R_q3
  cases hM
  exact o_retV d9_13 (by decide) (by decide) rfl ⟨rfl, R_q3⟩
def M_dec (H : List AO) (i0 : Int32) (i1 : Int32) : Option (List AO × Int32) :=
  if (i0 + (-1 : Int32)) < 0 then ( some (H, (i1 - (1 : Int32))) ) else ( some (H, (i0 + (-1 : Int32))) )
set_option maxRecDepth 65536 in
set_option maxHeartbeats 40000000 in
theorem rm_dec (l : Launch) (Z : State) (a0 : Array Value) (hw : ∀ d ∈ tables_1, d.before a0 Z = true) (ca : Nat → Addr) (K : OKa Z ca) (H : List AO) (i0 : Int32) (i1 : Int32) (res : List AO × Int32) (h0 : Heap) (hE0 : Ext Z.heap h0) (R0 : Rep Z ca h0 H)  (hM : M_dec H i0 i1 = some res) :
    OCtr l Z (⟨"java/util/ArrayDeque", "dec", "(II)I"⟩ : MethodName) jdk_21_method_7_code 2 (some .int) ({ frames := 0, cells := 0, slots := 0, locals := 0 } : Room) #[(.int i0), (.int i1)] h0 (fun v h => v = some (.int res.2) ∧ Rep Z ca h res.1) := by
  refine o_bodyS (ls0 := #[.val (.int i0), .val (.int i1)]) (plainFor_of_name pn_2) hE0 (fun m => by first | (simp [entryFrame, mkF, argsToLocals, Value.category]; done) | rfl) ?_
  intro pG eG sG mG bG meG cG hS0
  unfold M_dec at hM
  refine o_blk (pc' := 3) (st' := []) (ls' := #[.val (.int (i0 + (-1 : Int32))), .val (.int i1)]) b14_0_3 rfl ?_
  refine o_blk (pc' := 4) (st' := [(.int (i0 + (-1 : Int32)))]) (ls' := #[.val (.int (i0 + (-1 : Int32))), .val (.int i1)]) b14_3_4 rfl ?_
  refine o_if (pc' := 11) (pc'' := 7) d14_4 (by decide) (by decide) rfl (fun (hc4_1 : ¬ (i0 + (-1 : Int32)) < 0) => ?_) (fun (hc4_1 : (i0 + (-1 : Int32)) < 0) => ?_)
  ·
    rw [if_neg hc4_1] at hM
    refine o_blk (pc' := 12) (st' := [(.int (i0 + (-1 : Int32)))]) (ls' := #[.val (.int (i0 + (-1 : Int32))), .val (.int i1)]) b14_11_12 rfl ?_
    cases hM
    exact o_retI d14_12 (by decide) (by decide) rfl ⟨rfl, R0⟩
  ·
    rw [if_pos hc4_1] at hM
    refine o_blk (pc' := 11) (st' := []) (ls' := #[.val (.int (i1 - (1 : Int32))), .val (.int i1)]) b14_7_11 rfl ?_
    refine o_blk (pc' := 12) (st' := [(.int (i1 - (1 : Int32)))]) (ls' := #[.val (.int (i1 - (1 : Int32))), .val (.int i1)]) b14_11_12 rfl ?_
    cases hM
    exact o_retI d14_12 (by decide) (by decide) rfl ⟨rfl, R0⟩
def M_inc (H : List AO) (i0 : Int32) (i1 : Int32) : Option (List AO × Int32) :=
  if (i0 + (1 : Int32)) < i1 then ( some (H, (i0 + (1 : Int32))) ) else ( some (H, (0 : Int32)) )
set_option maxRecDepth 65536 in
set_option maxHeartbeats 40000000 in
theorem rm_inc (l : Launch) (Z : State) (a0 : Array Value) (hw : ∀ d ∈ tables_1, d.before a0 Z = true) (ca : Nat → Addr) (K : OKa Z ca) (H : List AO) (i0 : Int32) (i1 : Int32) (res : List AO × Int32) (h0 : Heap) (hE0 : Ext Z.heap h0) (R0 : Rep Z ca h0 H)  (hM : M_inc H i0 i1 = some res) :
    OCtr l Z (⟨"java/util/ArrayDeque", "inc", "(II)I"⟩ : MethodName) jdk_21_method_6_code 2 (some .int) ({ frames := 0, cells := 0, slots := 0, locals := 0 } : Room) #[(.int i0), (.int i1)] h0 (fun v h => v = some (.int res.2) ∧ Rep Z ca h res.1) := by
  refine o_bodyS (ls0 := #[.val (.int i0), .val (.int i1)]) (plainFor_of_name pn_2) hE0 (fun m => by first | (simp [entryFrame, mkF, argsToLocals, Value.category]; done) | rfl) ?_
  intro pG eG sG mG bG meG cG hS0
  unfold M_inc at hM
  refine o_blk (pc' := 3) (st' := []) (ls' := #[.val (.int (i0 + (1 : Int32))), .val (.int i1)]) b20_0_3 rfl ?_
  refine o_blk (pc' := 5) (st' := [(.int i1), (.int (i0 + (1 : Int32)))]) (ls' := #[.val (.int (i0 + (1 : Int32))), .val (.int i1)]) b20_3_5 rfl ?_
  refine o_ic (pc' := 10) (pc'' := 8) d20_5 (by decide) (by decide) rfl (fun (hc5_1 : (i0 + (1 : Int32)) < i1) => ?_) (fun (hc5_1 : ¬ (i0 + (1 : Int32)) < i1) => ?_)
  ·
    rw [if_pos hc5_1] at hM
    refine o_blk (pc' := 11) (st' := [(.int (i0 + (1 : Int32)))]) (ls' := #[.val (.int (i0 + (1 : Int32))), .val (.int i1)]) b20_10_11 rfl ?_
    cases hM
    exact o_retI d20_11 (by decide) (by decide) rfl ⟨rfl, R0⟩
  ·
    rw [if_neg hc5_1] at hM
    refine o_blk (pc' := 10) (st' := []) (ls' := #[.val (.int (0 : Int32)), .val (.int i1)]) b20_8_10 rfl ?_
    refine o_blk (pc' := 11) (st' := [(.int (0 : Int32))]) (ls' := #[.val (.int (0 : Int32)), .val (.int i1)]) b20_10_11 rfl ?_
    cases hM
    exact o_retI d20_11 (by decide) (by decide) rfl ⟨rfl, R0⟩
def M_elat (H : List AO) (r0 : Nat) (i1 : Int32) : Option (List AO × Nat) :=
  (rlo H r0 i1).bind fun q1 => some (H, q1)
set_option maxRecDepth 65536 in
set_option maxHeartbeats 40000000 in
theorem rm_elat (l : Launch) (Z : State) (a0 : Array Value) (hw : ∀ d ∈ tables_1, d.before a0 Z = true) (ca : Nat → Addr) (K : OKa Z ca) (H : List AO) (r0 : Nat) (i1 : Int32) (res : List AO × Nat) (h0 : Heap) (hE0 : Ext Z.heap h0) (R0 : Rep Z ca h0 H)  (hM : M_elat H r0 i1 = some res) :
    OCtr l Z (⟨"java/util/ArrayDeque", "elementAt", "([Ljava/lang/Object;I)Ljava/lang/Object;"⟩ : MethodName) jdk_21_method_10_code 2 (some (.object "java/lang/Object")) ({ frames := 0, cells := 0, slots := 0, locals := 0 } : Room) #[(.ref (ad Z ca r0)), (.int i1)] h0 (fun v h => v = some (.ref (ad Z ca res.2)) ∧ Rep Z ca h res.1) := by
  refine o_bodyS (ls0 := #[.val (.ref (ad Z ca r0)), .val (.int i1)]) (plainFor_of_name pn_2) hE0 (fun m => by first | (simp [entryFrame, mkF, argsToLocals, Value.category]; done) | rfl) ?_
  intro pG eG sG mG bG meG cG hS0
  unfold M_elat at hM
  refine o_blk (pc' := 2) (st' := [(.int i1), (.ref (ad Z ca r0))]) (ls' := #[.val (.ref (ad Z ca r0)), .val (.int i1)]) b19_0_2 rfl ?_
  obtain ⟨q1, hq1, hM⟩ := own_bind hM
  refine m_aald (pc' := 3) R0 hq1 d19_2 rfl ?_
  cases hM
  exact o_retA d19_3 (by decide) (by decide) rfl rfl rfl ⟨rfl, R0⟩
def M_isemp (H : List AO) (r0 : Nat) : Option (List AO × Int32) :=
  (gfi 5 H r0 0).bind fun q1 => (gfi 5 H r0 1).bind fun q2 => if q1 = q2 then ( some (H, (1 : Int32)) ) else ( some (H, (0 : Int32)) )
set_option maxRecDepth 65536 in
set_option maxHeartbeats 40000000 in
theorem rm_isemp (l : Launch) (Z : State) (a0 : Array Value) (hw : ∀ d ∈ tables_1, d.before a0 Z = true) (ca : Nat → Addr) (K : OKa Z ca) (H : List AO) (r0 : Nat) (res : List AO × Int32) (h0 : Heap) (hE0 : Ext Z.heap h0) (R0 : Rep Z ca h0 H)  (hM : M_isemp H r0 = some res) :
    OCtr l Z (⟨"java/util/ArrayDeque", "isEmpty", "()Z"⟩ : MethodName) jdk_21_method_38_code 1 (some .boolean) ({ frames := 0, cells := 0, slots := 0, locals := 0 } : Room) #[(.ref (ad Z ca r0))] h0 (fun v h => v = some (.int res.2) ∧ Rep Z ca h res.1) := by
  refine o_bodyS (ls0 := #[.val (.ref (ad Z ca r0))]) (plainFor_of_name pn_2) hE0 (fun m => by first | (simp [entryFrame, mkF, argsToLocals, Value.category]; done) | rfl) ?_
  intro pG eG sG mG bG meG cG hS0
  unfold M_isemp at hM
  refine o_blk (pc' := 1) (st' := [(.ref (ad Z ca r0))]) (ls' := #[.val (.ref (ad Z ca r0))]) b15_0_1 rfl ?_
  obtain ⟨q1, hq1, hM⟩ := own_bind hM
  refine m_getI (t := 1) (i := 0) (pc' := 4) R0 hq1 rfl rfl (own_word hw 89 rfl) d15_1 rfl ?_
  refine o_blk (pc' := 5) (st' := [(.ref (ad Z ca r0)), (.int q1)]) (ls' := #[.val (.ref (ad Z ca r0))]) b15_4_5 rfl ?_
  obtain ⟨q2, hq2, hM⟩ := own_bind hM
  refine m_getI (t := 1) (i := 1) (pc' := 8) R0 hq2 rfl rfl (own_word hw 95 rfl) d15_5 rfl ?_
  refine o_ic (pc' := 15) (pc'' := 11) d15_8 (by decide) (by decide) rfl (fun (hc8_3 : ¬ q1 = q2) => ?_) (fun (hc8_3 : q1 = q2) => ?_)
  ·
    rw [if_neg hc8_3] at hM
    refine o_blk (pc' := 16) (st' := [(.int (0 : Int32))]) (ls' := #[.val (.ref (ad Z ca r0))]) b15_15_16 rfl ?_
    cases hM
    exact o_retZ (w := 0) d15_16 (by decide) (by decide) rfl (by decide) ⟨rfl, R0⟩
  ·
    rw [if_pos hc8_3] at hM
    refine o_blk (pc' := 12) (st' := [(.int (1 : Int32))]) (ls' := #[.val (.ref (ad Z ca r0))]) b15_11_12 rfl ?_
    refine o_goto (pc' := 16) d15_12 (by decide) (by decide) ?_
    cases hM
    exact o_retZ (w := 0) d15_16 (by decide) (by decide) rfl (by decide) ⟨rfl, R0⟩
def M_addf (H : List AO) (r0 : Nat) (r1 : Nat) : Option (List AO × Nat) :=
  (gfr 5 H r0 0).bind fun q1 => (gfi 5 H r0 0).bind fun q2 => (aln H q1).bind fun q3 => (M_dec H q2 q3).bind fun q4 => (pfi 5 q4.1 r0 0 q4.2).bind fun q5 => (rst3 q5 q1 q4.2 r1).bind fun q6 => (gfi 5 q6 r0 0).bind fun q7 => (gfi 5 q6 r0 1).bind fun q8 => if q7 = q8 then ( none ) else ( some (q6, 0) )
set_option maxRecDepth 65536 in
set_option maxHeartbeats 40000000 in
theorem rm_addf (l : Launch) (Z : State) (a0 : Array Value) (hw : ∀ d ∈ tables_1, d.before a0 Z = true) (ca : Nat → Addr) (K : OKa Z ca) (H : List AO) (r0 : Nat) (r1 : Nat) (res : List AO × Nat) (h0 : Heap) (hE0 : Ext Z.heap h0) (R0 : Rep Z ca h0 H)  (hM : M_addf H r0 r1 = some res) :
    OCtr l Z (⟨"java/util/ArrayDeque", "addFirst", "(Ljava/lang/Object;)V"⟩ : MethodName) jdk_21_method_12_code 3 none ({ frames := 1, cells := 0, slots := 0, locals := 15 } : Room) #[(.ref (ad Z ca r0)), (.ref (ad Z ca r1))] h0 (fun v h => v = none ∧ Rep Z ca h res.1) := by
  refine o_bodyS (ls0 := #[.val (.ref (ad Z ca r0)), .val (.ref (ad Z ca r1)), .unset]) (plainFor_of_name pn_2) hE0 (fun m => by first | (simp [entryFrame, mkF, argsToLocals, Value.category]; done) | rfl) ?_
  intro pG eG sG mG bG meG cG hS0
  unfold M_addf at hM
  refine o_blk (pc' := 1) (st' := [(.ref (ad Z ca r1))]) (ls' := #[.val (.ref (ad Z ca r0)), .val (.ref (ad Z ca r1)), .unset]) b13_0_1 rfl ?_
  refine o_nnY (pc' := 12) d13_1 (by decide) (by decide) ?_
  refine o_blk (pc' := 13) (st' := [(.ref (ad Z ca r0))]) (ls' := #[.val (.ref (ad Z ca r0)), .val (.ref (ad Z ca r1)), .unset]) b13_12_13 rfl ?_
  obtain ⟨q1, hq1, hM⟩ := own_bind hM
  refine m_getR (t := 1) (i := 0) (pc' := 16) R0 hq1 rfl rfl (own_word hw 66 rfl) d13_13 rfl ?_
  refine o_blk (pc' := 17) (st' := []) (ls' := #[.val (.ref (ad Z ca r0)), .val (.ref (ad Z ca r1)), .val (.ref (ad Z ca q1))]) b13_16_17 rfl ?_
  refine o_blk (pc' := 20) (st' := [(.ref (ad Z ca r0)), (.ref (ad Z ca r0)), (.ref (ad Z ca q1))]) (ls' := #[.val (.ref (ad Z ca r0)), .val (.ref (ad Z ca r1)), .val (.ref (ad Z ca q1))]) b13_17_20 rfl ?_
  obtain ⟨q2, hq2, hM⟩ := own_bind hM
  refine m_getI (t := 1) (i := 0) (pc' := 23) R0 hq2 rfl rfl (own_word hw 89 rfl) d13_20 rfl ?_
  refine o_blk (pc' := 24) (st' := [(.ref (ad Z ca q1)), (.int q2), (.ref (ad Z ca r0)), (.ref (ad Z ca q1))]) (ls' := #[.val (.ref (ad Z ca r0)), .val (.ref (ad Z ca r1)), .val (.ref (ad Z ca q1))]) b13_23_24 rfl ?_
  obtain ⟨q3, hq3, hM⟩ := own_bind hM
  refine m_len (pc' := 25) R0 hq3 d13_24 rfl ?_
  obtain ⟨q4, hq4, hM⟩ := own_bind hM
  refine o_callS (W := 2) (argsL := [(.int q2), (.int q3)]) (rest := [(.ref (ad Z ca r0)), (.ref (ad Z ca q1))]) (pc' := 28) (own_word hw 91 rfl) (own_word hw 92 rfl) (own_word hw 53 rfl) (own_word hw 93 rfl) (by decide) (fun hE => rm_dec l Z a0 hw ca K H q2 q3 q4 h0 hE R0 hq4) d13_25 pd_1 rfl rfl rfl (Nat.le_of_eq rfl) (by decide) (by decide) (by decide) (by decide) rfl ?_
  rintro _ h_q4 ⟨rfl, R_q4⟩ hs_q4
  refine o_blk (pc' := 29) (st' := [(.int q4.2), (.ref (ad Z ca r0)), (.int q4.2), (.ref (ad Z ca q1))]) (ls' := #[.val (.ref (ad Z ca r0)), .val (.ref (ad Z ca r1)), .val (.ref (ad Z ca q1))]) b13_28_29 rfl ?_
  obtain ⟨q5, hq5, hM⟩ := own_bind hM
  refine m_putI (t := 1) (i := 0) (pc' := 32) R_q4 (own_lay5 hw) hq5 rfl rfl (own_word hw 89 rfl) (Or.inl (own_word hw 90 rfl)) (own_word hw 52 rfl) d13_29 rfl ?_
  intro h_q5 R_q5
  refine o_blk (pc' := 33) (st' := [(.ref (ad Z ca r1)), (.int q4.2), (.ref (ad Z ca q1))]) (ls' := #[.val (.ref (ad Z ca r0)), .val (.ref (ad Z ca r1)), .val (.ref (ad Z ca q1))]) b13_32_33 rfl ?_
  obtain ⟨q6, hq6, hM⟩ := own_bind hM
  refine m_aast3 (pc' := 34) R_q5 K.1 (own_word hw 146 rfl) (own_word hw 94 rfl) hq6 d13_33 rfl ?_
  intro h_q6 R_q6
  refine o_blk (pc' := 35) (st' := [(.ref (ad Z ca r0))]) (ls' := #[.val (.ref (ad Z ca r0)), .val (.ref (ad Z ca r1)), .val (.ref (ad Z ca q1))]) b13_34_35 rfl ?_
  obtain ⟨q7, hq7, hM⟩ := own_bind hM
  refine m_getI (t := 1) (i := 0) (pc' := 38) R_q6 hq7 rfl rfl (own_word hw 89 rfl) d13_35 rfl ?_
  refine o_blk (pc' := 39) (st' := [(.ref (ad Z ca r0)), (.int q7)]) (ls' := #[.val (.ref (ad Z ca r0)), .val (.ref (ad Z ca r1)), .val (.ref (ad Z ca q1))]) b13_38_39 rfl ?_
  obtain ⟨q8, hq8, hM⟩ := own_bind hM
  refine m_getI (t := 1) (i := 1) (pc' := 42) R_q6 hq8 rfl rfl (own_word hw 95 rfl) d13_39 rfl ?_
  refine o_ic (pc' := 50) (pc'' := 45) d13_42 (by decide) (by decide) rfl (fun (hc42_9 : ¬ q7 = q8) => ?_) (fun (hc42_9 : q7 = q8) => ?_)
  ·
    rw [if_neg hc42_9] at hM
    cases hM
    exact o_retV d13_50 (by decide) (by decide) rfl ⟨rfl, R_q6⟩
  ·
    rw [if_pos hc42_9] at hM
    exact nomatch hM
def M_push (H : List AO) (r0 : Nat) (r1 : Nat) : Option (List AO × Nat) :=
  if ((hget H r0).any fun o => o.1 == 5) = true then ( (M_addf H r0 r1).bind fun q2 => some (q2.1, 0) ) else none
set_option maxRecDepth 65536 in
set_option maxHeartbeats 40000000 in
theorem rm_push (l : Launch) (Z : State) (a0 : Array Value) (hw : ∀ d ∈ tables_1, d.before a0 Z = true) (ca : Nat → Addr) (K : OKa Z ca) (H : List AO) (r0 : Nat) (r1 : Nat) (res : List AO × Nat) (h0 : Heap) (hE0 : Ext Z.heap h0) (R0 : Rep Z ca h0 H)  (hM : M_push H r0 r1 = some res) :
    OCtr l Z (⟨"java/util/ArrayDeque", "push", "(Ljava/lang/Object;)V"⟩ : MethodName) jdk_21_method_34_code 2 none ({ frames := 2, cells := 0, slots := 0, locals := 29 } : Room) #[(.ref (ad Z ca r0)), (.ref (ad Z ca r1))] h0 (fun v h => v = none ∧ Rep Z ca h res.1) := by
  refine o_bodyS (ls0 := #[.val (.ref (ad Z ca r0)), .val (.ref (ad Z ca r1))]) (plainFor_of_name pn_2) hE0 (fun m => by first | (simp [entryFrame, mkF, argsToLocals, Value.category]; done) | rfl) ?_
  intro pG eG sG mG bG meG cG hS0
  unfold M_push at hM
  refine o_blk (pc' := 2) (st' := [(.ref (ad Z ca r1)), (.ref (ad Z ca r0))]) (ls' := #[.val (.ref (ad Z ca r0)), .val (.ref (ad Z ca r1))]) b12_0_2 rfl ?_
  obtain ⟨hb1, hM⟩ := own_ite hM
  obtain ⟨q2, hq2, hM⟩ := own_bind hM
  refine o_callV (W := 0) (argsL := [(.ref (ad Z ca r1))]) (rest := []) (pc' := 5) (own_word hw 84 rfl) (own_word hw 85 rfl) (own_word hw 87 rfl) (own_word hw 87 rfl) (own_word hw 86 rfl) (own_word hw 88 rfl) (own_word hw 53 rfl) (by decide) (R0.exa (t := 1) hb1) (fun hE => rm_addf l Z a0 hw ca K H r0 r1 q2 h0 hE R0 hq2) d12_2 pd_2 rfl rfl rfl (Nat.le_of_eq rfl) (by decide) (by decide) (by decide) (by decide) rfl ?_
  rintro _ h_q2 ⟨rfl, R_q2⟩ hs_q2
  cases hM
  exact o_retV d12_5 (by decide) (by decide) rfl ⟨rfl, R_q2⟩
def M_pollf (H : List AO) (r0 : Nat) : Option (List AO × Nat) :=
  (gfr 5 H r0 0).bind fun q1 => (gfi 5 H r0 0).bind fun q2 => (M_elat H q1 q2).bind fun q3 => (rst 3 q3.1 q1 q2 0).bind fun q4 => (aln q4 q1).bind fun q5 => (M_inc q4 q2 q5).bind fun q6 => (pfi 5 q6.1 r0 0 q6.2).bind fun q7 => some (q7, q3.2)
set_option maxRecDepth 65536 in
set_option maxHeartbeats 40000000 in
theorem rm_pollf (l : Launch) (Z : State) (a0 : Array Value) (hw : ∀ d ∈ tables_1, d.before a0 Z = true) (ca : Nat → Addr) (K : OKa Z ca) (H : List AO) (r0 : Nat) (res : List AO × Nat) (h0 : Heap) (hE0 : Ext Z.heap h0) (R0 : Rep Z ca h0 H)  (hM : M_pollf H r0 = some res) :
    OCtr l Z (⟨"java/util/ArrayDeque", "pollFirst", "()Ljava/lang/Object;"⟩ : MethodName) jdk_21_method_20_code 4 (some (.object "java/lang/Object")) ({ frames := 1, cells := 0, slots := 0, locals := 14 } : Room) #[(.ref (ad Z ca r0))] h0 (fun v h => v = some (.ref (ad Z ca res.2)) ∧ Rep Z ca h res.1) := by
  refine o_bodyS (ls0 := #[.val (.ref (ad Z ca r0)), .unset, .unset, .unset]) (plainFor_of_name pn_2) hE0 (fun m => by first | (simp [entryFrame, mkF, argsToLocals, Value.category]; done) | rfl) ?_
  intro pG eG sG mG bG meG cG hS0
  unfold M_pollf at hM
  refine o_blk (pc' := 1) (st' := [(.ref (ad Z ca r0))]) (ls' := #[.val (.ref (ad Z ca r0)), .unset, .unset, .unset]) b18_0_1 rfl ?_
  obtain ⟨q1, hq1, hM⟩ := own_bind hM
  refine m_getR (t := 1) (i := 0) (pc' := 4) R0 hq1 rfl rfl (own_word hw 66 rfl) d18_1 rfl ?_
  refine o_blk (pc' := 6) (st' := [(.ref (ad Z ca q1))]) (ls' := #[.val (.ref (ad Z ca r0)), .val (.ref (ad Z ca q1)), .unset, .unset]) b18_4_6 rfl ?_
  refine o_blk (pc' := 7) (st' := [(.ref (ad Z ca r0)), (.ref (ad Z ca q1))]) (ls' := #[.val (.ref (ad Z ca r0)), .val (.ref (ad Z ca q1)), .unset, .unset]) b18_6_7 rfl ?_
  obtain ⟨q2, hq2, hM⟩ := own_bind hM
  refine m_getI (t := 1) (i := 0) (pc' := 10) R0 hq2 rfl rfl (own_word hw 89 rfl) d18_7 rfl ?_
  refine o_blk (pc' := 12) (st' := [(.int q2), (.ref (ad Z ca q1))]) (ls' := #[.val (.ref (ad Z ca r0)), .val (.ref (ad Z ca q1)), .val (.int q2), .unset]) b18_10_12 rfl ?_
  obtain ⟨q3, hq3, hM⟩ := own_bind hM
  refine o_callS (W := 0) (argsL := [(.ref (ad Z ca q1)), (.int q2)]) (rest := []) (pc' := 15) (own_word hw 123 rfl) (own_word hw 124 rfl) (own_word hw 53 rfl) (own_word hw 125 rfl) (by decide) (fun hE => rm_elat l Z a0 hw ca K H q1 q2 q3 h0 hE R0 hq3) d18_12 pd_3 rfl rfl rfl (Nat.le_of_eq rfl) (by decide) (by decide) (by decide) (by decide) rfl ?_
  rintro _ h_q3 ⟨rfl, R_q3⟩ hs_q3
  refine o_blk (pc' := 16) (st' := []) (ls' := #[.val (.ref (ad Z ca r0)), .val (.ref (ad Z ca q1)), .val (.int q2), .val (.ref (ad Z ca q3.2))]) b18_15_16 rfl ?_
  refine o_blk (pc' := 17) (st' := [(.ref (ad Z ca q3.2))]) (ls' := #[.val (.ref (ad Z ca r0)), .val (.ref (ad Z ca q1)), .val (.int q2), .val (.ref (ad Z ca q3.2))]) b18_16_17 rfl ?_
  refine o_nuN (pc' := 20) d18_17 rfl ?_
  refine o_blk (pc' := 23) (st' := [.null, (.int q2), (.ref (ad Z ca q1))]) (ls' := #[.val (.ref (ad Z ca r0)), .val (.ref (ad Z ca q1)), .val (.int q2), .val (.ref (ad Z ca q3.2))]) b18_20_23 rfl ?_
  obtain ⟨q4, hq4, hM⟩ := own_bind hM
  refine m_aastN (pc' := 24) R_q3 hq4 d18_23 rfl ?_
  intro h_q4 R_q4
  refine o_blk (pc' := 27) (st' := [(.ref (ad Z ca q1)), (.int q2), (.ref (ad Z ca r0))]) (ls' := #[.val (.ref (ad Z ca r0)), .val (.ref (ad Z ca q1)), .val (.int q2), .val (.ref (ad Z ca q3.2))]) b18_24_27 rfl ?_
  obtain ⟨q5, hq5, hM⟩ := own_bind hM
  refine m_len (pc' := 28) R_q4 hq5 d18_27 rfl ?_
  obtain ⟨q6, hq6, hM⟩ := own_bind hM
  refine o_callS (W := 1) (argsL := [(.int q2), (.int q5)]) (rest := [(.ref (ad Z ca r0))]) (pc' := 31) (own_word hw 126 rfl) (own_word hw 127 rfl) (own_word hw 53 rfl) (own_word hw 128 rfl) (by decide) (fun hE => rm_inc l Z a0 hw ca K q4 q2 q5 q6 h_q4 hE R_q4 hq6) d18_28 pd_1 rfl rfl rfl (Nat.le_of_eq rfl) (by decide) (by decide) (by decide) (by decide) rfl ?_
  rintro _ h_q6 ⟨rfl, R_q6⟩ hs_q6
  obtain ⟨q7, hq7, hM⟩ := own_bind hM
  refine m_putI (t := 1) (i := 0) (pc' := 34) R_q6 (own_lay5 hw) hq7 rfl rfl (own_word hw 89 rfl) (Or.inl (own_word hw 90 rfl)) (own_word hw 52 rfl) d18_31 rfl ?_
  intro h_q7 R_q7
  refine o_blk (pc' := 35) (st' := [(.ref (ad Z ca q3.2))]) (ls' := #[.val (.ref (ad Z ca r0)), .val (.ref (ad Z ca q1)), .val (.int q2), .val (.ref (ad Z ca q3.2))]) b18_34_35 rfl ?_
  cases hM
  exact o_retA d18_35 (by decide) (by decide) rfl rfl rfl ⟨rfl, R_q7⟩
def M_remf (H : List AO) (r0 : Nat) : Option (List AO × Nat) :=
  if ((hget H r0).any fun o => o.1 == 5) = true then ( (M_pollf H r0).bind fun q2 => some (q2.1, q2.2) ) else none
set_option maxRecDepth 65536 in
set_option maxHeartbeats 40000000 in
theorem rm_remf (l : Launch) (Z : State) (a0 : Array Value) (hw : ∀ d ∈ tables_1, d.before a0 Z = true) (ca : Nat → Addr) (K : OKa Z ca) (H : List AO) (r0 : Nat) (res : List AO × Nat) (h0 : Heap) (hE0 : Ext Z.heap h0) (R0 : Rep Z ca h0 H)  (hM : M_remf H r0 = some res) :
    OCtr l Z (⟨"java/util/ArrayDeque", "removeFirst", "()Ljava/lang/Object;"⟩ : MethodName) jdk_21_method_18_code 2 (some (.object "java/lang/Object")) ({ frames := 2, cells := 0, slots := 0, locals := 29 } : Room) #[(.ref (ad Z ca r0))] h0 (fun v h => v = some (.ref (ad Z ca res.2)) ∧ Rep Z ca h res.1) := by
  refine o_bodyS (ls0 := #[.val (.ref (ad Z ca r0)), .unset]) (plainFor_of_name pn_2) hE0 (fun m => by first | (simp [entryFrame, mkF, argsToLocals, Value.category]; done) | rfl) ?_
  intro pG eG sG mG bG meG cG hS0
  unfold M_remf at hM
  refine o_blk (pc' := 1) (st' := [(.ref (ad Z ca r0))]) (ls' := #[.val (.ref (ad Z ca r0)), .unset]) b17_0_1 rfl ?_
  obtain ⟨hb1, hM⟩ := own_ite hM
  obtain ⟨q2, hq2, hM⟩ := own_bind hM
  refine o_callV (W := 0) (argsL := []) (rest := []) (pc' := 4) (own_word hw 118 rfl) (own_word hw 119 rfl) (own_word hw 121 rfl) (own_word hw 121 rfl) (own_word hw 120 rfl) (own_word hw 122 rfl) (own_word hw 53 rfl) (by decide) (R0.exa (t := 1) hb1) (fun hE => rm_pollf l Z a0 hw ca K H r0 q2 h0 hE R0 hq2) d17_1 pd_4 rfl rfl rfl (Nat.le_of_eq rfl) (by decide) (by decide) (by decide) (by decide) rfl ?_
  rintro _ h_q2 ⟨rfl, R_q2⟩ hs_q2
  refine o_blk (pc' := 5) (st' := []) (ls' := #[.val (.ref (ad Z ca r0)), .val (.ref (ad Z ca q2.2))]) b17_4_5 rfl ?_
  refine o_blk (pc' := 6) (st' := [(.ref (ad Z ca q2.2))]) (ls' := #[.val (.ref (ad Z ca r0)), .val (.ref (ad Z ca q2.2))]) b17_5_6 rfl ?_
  refine o_nnY (pc' := 17) d17_6 (by decide) (by decide) ?_
  refine o_blk (pc' := 18) (st' := [(.ref (ad Z ca q2.2))]) (ls' := #[.val (.ref (ad Z ca r0)), .val (.ref (ad Z ca q2.2))]) b17_17_18 rfl ?_
  cases hM
  exact o_retA d17_18 (by decide) (by decide) rfl rfl rfl ⟨rfl, R_q2⟩
def M_pop (H : List AO) (r0 : Nat) : Option (List AO × Nat) :=
  if ((hget H r0).any fun o => o.1 == 5) = true then ( (M_remf H r0).bind fun q2 => some (q2.1, q2.2) ) else none
set_option maxRecDepth 65536 in
set_option maxHeartbeats 40000000 in
theorem rm_pop (l : Launch) (Z : State) (a0 : Array Value) (hw : ∀ d ∈ tables_1, d.before a0 Z = true) (ca : Nat → Addr) (K : OKa Z ca) (H : List AO) (r0 : Nat) (res : List AO × Nat) (h0 : Heap) (hE0 : Ext Z.heap h0) (R0 : Rep Z ca h0 H)  (hM : M_pop H r0 = some res) :
    OCtr l Z (⟨"java/util/ArrayDeque", "pop", "()Ljava/lang/Object;"⟩ : MethodName) jdk_21_method_35_code 1 (some (.object "java/lang/Object")) ({ frames := 3, cells := 0, slots := 0, locals := 42 } : Room) #[(.ref (ad Z ca r0))] h0 (fun v h => v = some (.ref (ad Z ca res.2)) ∧ Rep Z ca h res.1) := by
  refine o_bodyS (ls0 := #[.val (.ref (ad Z ca r0))]) (plainFor_of_name pn_2) hE0 (fun m => by first | (simp [entryFrame, mkF, argsToLocals, Value.category]; done) | rfl) ?_
  intro pG eG sG mG bG meG cG hS0
  unfold M_pop at hM
  refine o_blk (pc' := 1) (st' := [(.ref (ad Z ca r0))]) (ls' := #[.val (.ref (ad Z ca r0))]) b16_0_1 rfl ?_
  obtain ⟨hb1, hM⟩ := own_ite hM
  obtain ⟨q2, hq2, hM⟩ := own_bind hM
  refine o_callV (W := 0) (argsL := []) (rest := []) (pc' := 4) (own_word hw 113 rfl) (own_word hw 114 rfl) (own_word hw 116 rfl) (own_word hw 116 rfl) (own_word hw 115 rfl) (own_word hw 117 rfl) (own_word hw 53 rfl) (by decide) (R0.exa (t := 1) hb1) (fun hE => rm_remf l Z a0 hw ca K H r0 q2 h0 hE R0 hq2) d16_1 pd_4 rfl rfl rfl (Nat.le_of_eq rfl) (by decide) (by decide) (by decide) (by decide) rfl ?_
  rintro _ h_q2 ⟨rfl, R_q2⟩ hs_q2
  cases hM
  exact o_retA d16_4 (by decide) (by decide) rfl rfl rfl ⟨rfl, R_q2⟩
theorem own_minH {H : List AO} {a b : Int32} {q : List AO × Int32} (h : M_min H a b = some q) : q.1 = H := by
  unfold M_min at h
  split at h <;> cases h <;> rfl
def M_cpo (H : List AO) (r0 : Nat) (i1 : Int32) : Option (List AO × Nat) :=
  (aln H r0).bind fun q1 => if i1 = q1 then ( none ) else ( (newI 0 H i1).bind fun q3 => (aln q3.1 r0).bind fun q4 => (M_min q3.1 q4 i1).bind fun q5 => (cpy q5.1 r0 q3.2 q5.2).bind fun q6 => some (q6, q3.2) )
set_option maxRecDepth 65536 in
set_option maxHeartbeats 40000000 in
theorem rm_cpo (l : Launch) (Z : State) (a0 : Array Value) (hw : ∀ d ∈ tables_1, d.before a0 Z = true) (ca : Nat → Addr) (K : OKa Z ca) (H : List AO) (r0 : Nat) (i1 : Int32) (res : List AO × Nat) (h0 : Heap) (hE0 : Ext Z.heap h0) (R0 : Rep Z ca h0 H)  (hM : M_cpo H r0 i1 = some res) :
    OCtr l Z (⟨"java/util/Arrays", "copyOf", "([II)[I"⟩ : MethodName) jdk_65_method_123_code 3 (some (.array .int)) ({ frames := 1, cells := 1, slots := 8, locals := 18 } : Room) #[(.ref (ad Z ca r0)), (.int i1)] h0 (fun v h => v = some (.ref (ad Z ca res.2)) ∧ Rep Z ca h res.1) := by
  refine o_bodyS (ls0 := #[.val (.ref (ad Z ca r0)), .val (.int i1), .unset]) (plainFor_of_name pn_3) hE0 (fun m => by first | (simp [entryFrame, mkF, argsToLocals, Value.category]; done) | rfl) ?_
  intro pG eG sG mG bG meG cG hS0
  unfold M_cpo at hM
  refine o_blk (pc' := 2) (st' := [(.ref (ad Z ca r0)), (.int i1)]) (ls' := #[.val (.ref (ad Z ca r0)), .val (.int i1), .unset]) b6_0_2 rfl ?_
  obtain ⟨q1, hq1, hM⟩ := own_bind hM
  refine m_len (pc' := 3) R0 hq1 d6_2 rfl ?_
  refine o_ic (pc' := 14) (pc'' := 6) d6_3 (by decide) (by decide) rfl (fun (hc3_2 : ¬ i1 = q1) => ?_) (fun (hc3_2 : i1 = q1) => ?_)
  ·
    rw [if_neg hc3_2] at hM
    refine o_blk (pc' := 15) (st' := [(.int i1)]) (ls' := #[.val (.ref (ad Z ca r0)), .val (.int i1), .unset]) b6_14_15 rfl ?_
    obtain ⟨q3, hq3, hM⟩ := own_bind hM
    refine m_newI (pc' := 17) R0 (own_word hw 0 rfl) hq3 d6_15 (by decide) (by decide) rfl ?_
    intro h_q3 R_q3
    refine o_blk (pc' := 18) (st' := []) (ls' := #[.val (.ref (ad Z ca r0)), .val (.int i1), .val (.ref (ad Z ca q3.2))]) b6_17_18 rfl ?_
    refine o_blk (pc' := 23) (st' := [(.ref (ad Z ca r0)), (.int (0 : Int32)), (.ref (ad Z ca q3.2)), (.int (0 : Int32)), (.ref (ad Z ca r0))]) (ls' := #[.val (.ref (ad Z ca r0)), .val (.int i1), .val (.ref (ad Z ca q3.2))]) b6_18_23 rfl ?_
    obtain ⟨q4, hq4, hM⟩ := own_bind hM
    refine m_len (pc' := 24) R_q3 hq4 d6_23 rfl ?_
    refine o_blk (pc' := 25) (st' := [(.int i1), (.int q4), (.int (0 : Int32)), (.ref (ad Z ca q3.2)), (.int (0 : Int32)), (.ref (ad Z ca r0))]) (ls' := #[.val (.ref (ad Z ca r0)), .val (.int i1), .val (.ref (ad Z ca q3.2))]) b6_24_25 rfl ?_
    obtain ⟨q5, hq5, hM⟩ := own_bind hM
    refine o_callS (W := 4) (argsL := [(.int q4), (.int i1)]) (rest := [(.int (0 : Int32)), (.ref (ad Z ca q3.2)), (.int (0 : Int32)), (.ref (ad Z ca r0))]) (pc' := 28) (own_word hw 31 rfl) (own_word hw 32 rfl) (own_word hw 33 rfl) (own_word hw 34 rfl) (by decide) (fun hE => rm_min l Z a0 hw ca K q3.1 q4 i1 q5 h_q3 hE R_q3 hq5) d6_25 pd_1 rfl rfl rfl (Nat.le_of_eq rfl) (by decide) (by decide) (by decide) (by decide) rfl ?_
    rintro _ h_q5 ⟨rfl, R_q5⟩ hs_q5
    obtain ⟨q6, hq6, hM⟩ := own_bind hM
    refine m_cpy (W := 0) (pc' := 31) R_q5 (by rw [hS0, R_q5.2.1, R0.2.1, own_minH hq5, newI_len hq3]; rfl) (own_word hw 35 rfl) (own_word hw 38 rfl) (own_word hw 36 rfl) (own_word hw 37 rfl) hq6 d6_28 rfl (Nat.le_of_eq rfl) (by decide) (by decide) rfl ?_
    intro h_q6 R_q6
    refine o_blk (pc' := 32) (st' := [(.ref (ad Z ca q3.2))]) (ls' := #[.val (.ref (ad Z ca r0)), .val (.int i1), .val (.ref (ad Z ca q3.2))]) b6_31_32 rfl ?_
    cases hM
    exact o_retA d6_32 (by decide) (by decide) rfl rfl rfl ⟨rfl, R_q6⟩
  ·
    rw [if_pos hc3_2] at hM
    exact nomatch hM
def B_chi_13 (r0 : Nat) (rec : Nat → List AO → Nat → Nat → Nat → Int32 → Int32 → Option (List AO × Nat)) (H : List AO) (t : Nat) (r1 : Nat) (r2 : Nat) (i3 : Int32) (i4 : Int32) : Option (List AO × Nat) :=
  if i4 < i3 then ( (ilo 0 H r2 i4).bind fun q4 => if q4 < 0 then ( rec 13 H 0 r1 r2 i3 (i4 + (1 : Int32)) ) else ( (ilo 0 H r1 q4).bind fun q6 => (ist 0 H r1 q4 (q6 + (1 : Int32))).bind fun q7 => rec 13 q7 0 r1 r2 i3 (i4 + (1 : Int32)) ) ) else ( (aln H r0).bind fun q2 => (newQ 2 8 H q2).bind fun q3 => rec 52 q3.1 0 r1 q3.2 (0 : Int32) 0 )
def B_chi_52 (r0 : Nat) (rec : Nat → List AO → Nat → Nat → Nat → Int32 → Int32 → Option (List AO × Nat)) (H : List AO) (t : Nat) (r1 : Nat) (r2 : Nat) (i3 : Int32) (i4 : Int32) : Option (List AO × Nat) :=
  (aln H r0).bind fun q1 => if i3 < q1 then ( (ilo 0 H r1 i3).bind fun q3 => (newI 0 H q3).bind fun q4 => if t < 8 then ( (rst2 q4.1 r2 i3 q4.2).bind fun q6 => (ist 0 q6 r1 i3 (0 : Int32)).bind fun q7 => rec 52 q7 (t + 1) r1 r2 (i3 + (1 : Int32)) 0 ) else none ) else ( rec 78 H t r1 r2 (0 : Int32) 0 )
def B_chi_78 (r0 : Nat) (rec : Nat → List AO → Nat → Nat → Nat → Int32 → Int32 → Option (List AO × Nat)) (H : List AO) (t : Nat) (r1 : Nat) (r2 : Nat) (i3 : Int32) (i4 : Int32) : Option (List AO × Nat) :=
  (aln H r0).bind fun q1 => if i3 < q1 then ( (ilo 0 H r0 i3).bind fun q3 => if q3 < 0 then ( rec 78 H t r1 r2 (i3 + (1 : Int32)) 0 ) else ( (rlo H r2 q3).bind fun q5 => (ilo 0 H r1 q3).bind fun q6 => (ist 0 H r1 q3 (q6 + (1 : Int32))).bind fun q7 => (ist 0 q7 q5 q6 i3).bind fun q8 => rec 78 q8 t r1 r2 (i3 + (1 : Int32)) 0 ) ) else ( some (H, r2) )
def L_chi (r0 : Nat) : Nat → Nat → List AO → Nat → Nat → Nat → Int32 → Int32 → Option (List AO × Nat)
  | 0 => fun _ _ _ _ _ _ _ => none
  | f + 1 => fun hd H t r1 r2 i3 i4 => if hd = 13 then B_chi_13 r0 (L_chi r0 f) H t r1 r2 i3 i4 else if hd = 52 then B_chi_52 r0 (L_chi r0 f) H t r1 r2 i3 i4 else if hd = 78 then B_chi_78 r0 (L_chi r0 f) H t r1 r2 i3 i4 else none
def M_chi (H : List AO) (r0 : Nat) : Option (List AO × Nat) :=
  (aln H r0).bind fun q1 => (newI 0 H q1).bind fun q2 => (aln q2.1 r0).bind fun q3 => L_chi r0 60 13 q2.1 0 q2.2 r0 q3 (0 : Int32)
set_option maxRecDepth 65536 in
set_option maxHeartbeats 40000000 in
theorem rm_chi (l : Launch) (Z : State) (a0 : Array Value) (hw : ∀ d ∈ tables_1, d.before a0 Z = true) (ca : Nat → Addr) (K : OKa Z ca) (H : List AO) (r0 : Nat) (res : List AO × Nat) (h0 : Heap) (hE0 : Ext Z.heap h0) (R0 : Rep Z ca h0 H)  (hM : M_chi H r0 = some res) :
    OCtr l Z (⟨"com/example/mild_horn/mildhorn/translation/Centroids", "children", "([I)[[I"⟩ : MethodName) prog_40_method_6_code 6 (some (.array (.array .int))) ({ frames := 0, cells := 10, slots := 80, locals := 0 } : Room) #[(.ref (ad Z ca r0))] h0 (fun v h => v = some (.ref (ad Z ca res.2)) ∧ Rep Z ca h res.1) := by
  refine o_bodyS (ls0 := #[.val (.ref (ad Z ca r0)), .unset, .unset, .unset, .unset, .unset]) (plainFor_of_name pn_4) hE0 (fun m => by first | (simp [entryFrame, mkF, argsToLocals, Value.category]; done) | rfl) ?_
  intro pG eG sG mG bG meG cG hS0
  have LP : ∀ f : Nat, (∀ (h : Heap) (H : List AO) (r1 : Nat) (r2 : Nat) (i3 : Int32) (i4 : Int32) (x5 : Slot) (p5 : Pl x5) (R : Rep Z ca h H) (hM : L_chi r0 f 13 H 0 r1 r2 i3 i4 = some res), OG pG l eG ({ frames := 0, cells := 10, slots := 80, locals := 0 } : Room) sG mG #[(.ref (ad Z ca r0))] bG meG cG Z (⟨"com/example/mild_horn/mildhorn/translation/Centroids", "children", "([I)[[I"⟩ : MethodName).cls (⟨"com/example/mild_horn/mildhorn/translation/Centroids", "children", "([I)[[I"⟩ : MethodName).name prog_40_method_6_code 6 (some (.array (.array .int))) (fun v h => v = some (.ref (ad Z ca res.2)) ∧ Rep Z ca h res.1) ({ frames := 0, cells := 10, slots := 80, locals := 0 } : Room).cells ({ frames := 0, cells := 10, slots := 80, locals := 0 } : Room).slots h 1 8 (mkF mG 13 #[.val (.ref (ad Z ca r0)), .val (.ref (ad Z ca r1)), .val (.ref (ad Z ca r2)), .val (.int i3), .val (.int i4), x5] [])) ∧ (∀ (h : Heap) (H : List AO) (t : Nat) (ht : t ≤ 8) (c s : Nat) (ec : c = 2 + 1 * t) (es : s = 16 + 8 * t) (r1 : Nat) (r2 : Nat) (i3 : Int32) (x4 : Slot) (p4 : Pl x4) (x5 : Slot) (p5 : Pl x5) (R : Rep Z ca h H) (hM : L_chi r0 f 52 H t r1 r2 i3 0 = some res), OG pG l eG ({ frames := 0, cells := 10, slots := 80, locals := 0 } : Room) sG mG #[(.ref (ad Z ca r0))] bG meG cG Z (⟨"com/example/mild_horn/mildhorn/translation/Centroids", "children", "([I)[[I"⟩ : MethodName).cls (⟨"com/example/mild_horn/mildhorn/translation/Centroids", "children", "([I)[[I"⟩ : MethodName).name prog_40_method_6_code 6 (some (.array (.array .int))) (fun v h => v = some (.ref (ad Z ca res.2)) ∧ Rep Z ca h res.1) ({ frames := 0, cells := 10, slots := 80, locals := 0 } : Room).cells ({ frames := 0, cells := 10, slots := 80, locals := 0 } : Room).slots h c s (mkF mG 52 #[.val (.ref (ad Z ca r0)), .val (.ref (ad Z ca r1)), .val (.ref (ad Z ca r2)), .val (.int i3), x4, x5] [])) ∧ (∀ (h : Heap) (H : List AO) (t : Nat) (ht : t ≤ 8) (c s : Nat) (ec : c = 2 + 1 * t) (es : s = 16 + 8 * t) (r1 : Nat) (r2 : Nat) (i3 : Int32) (x4 : Slot) (p4 : Pl x4) (x5 : Slot) (p5 : Pl x5) (R : Rep Z ca h H) (hM : L_chi r0 f 78 H t r1 r2 i3 0 = some res), OG pG l eG ({ frames := 0, cells := 10, slots := 80, locals := 0 } : Room) sG mG #[(.ref (ad Z ca r0))] bG meG cG Z (⟨"com/example/mild_horn/mildhorn/translation/Centroids", "children", "([I)[[I"⟩ : MethodName).cls (⟨"com/example/mild_horn/mildhorn/translation/Centroids", "children", "([I)[[I"⟩ : MethodName).name prog_40_method_6_code 6 (some (.array (.array .int))) (fun v h => v = some (.ref (ad Z ca res.2)) ∧ Rep Z ca h res.1) ({ frames := 0, cells := 10, slots := 80, locals := 0 } : Room).cells ({ frames := 0, cells := 10, slots := 80, locals := 0 } : Room).slots h c s (mkF mG 78 #[.val (.ref (ad Z ca r0)), .val (.ref (ad Z ca r1)), .val (.ref (ad Z ca r2)), .val (.int i3), x4, x5] [])) := by
    intro f
    induction f with
    | zero =>
      refine ⟨?_, ?_, ?_⟩
      · intro h H r1 r2 i3 i4 x5 p5 R hM
        first | exact nomatch hM | (simp [L_chi] at hM; done)
      · intro h H t ht c s ec es r1 r2 i3 x4 p4 x5 p5 R hM
        first | exact nomatch hM | (simp [L_chi] at hM; done)
      · intro h H t ht c s ec es r1 r2 i3 x4 p4 x5 p5 R hM
        first | exact nomatch hM | (simp [L_chi] at hM; done)
    | succ f ih =>
      obtain ⟨ih_13, ih_52, ih_78⟩ := ih
      refine ⟨?_, ?_, ?_⟩
      · intro h H r1 r2 i3 i4 x5 p5 R hM
        have hM : B_chi_13 r0 (L_chi r0 f) H 0 r1 r2 i3 i4 = some res := hM
        unfold B_chi_13 at hM
        refine o_blk (pc' := 16) (st' := [(.int i3), (.int i4)]) (ls' := #[.val (.ref (ad Z ca r0)), .val (.ref (ad Z ca r1)), .val (.ref (ad Z ca r2)), .val (.int i3), .val (.int i4), x5]) b4_13_16 rfl ?_
        refine o_ic (pc' := 44) (pc'' := 19) d4_16 (by decide) (by decide) rfl (fun (hc16_1 : ¬ i4 < i3) => ?_) (fun (hc16_1 : i4 < i3) => ?_)
        ·
          rw [if_neg hc16_1] at hM
          refine o_blk (pc' := 45) (st' := [(.ref (ad Z ca r0))]) (ls' := #[.val (.ref (ad Z ca r0)), .val (.ref (ad Z ca r1)), .val (.ref (ad Z ca r2)), .val (.int i3), .val (.int i4), x5]) b4_44_45 rfl ?_
          obtain ⟨q2, hq2, hM⟩ := own_bind hM
          refine m_len (pc' := 46) R hq2 d4_45 rfl ?_
          obtain ⟨q3, hq3, hM⟩ := own_bind hM
          refine m_newG (pc' := 49) R (own_word hw 19 rfl) (own_word hw 20 rfl) hq3 d4_46 (by decide) (by decide) rfl ?_
          intro h_q3 R_q3
          refine o_blk (pc' := 50) (st' := []) (ls' := #[.val (.ref (ad Z ca r0)), .val (.ref (ad Z ca r1)), .val (.ref (ad Z ca q3.2)), .val (.int i3), .val (.int i4), x5]) b4_49_50 rfl ?_
          refine o_blk (pc' := 52) (st' := []) (ls' := #[.val (.ref (ad Z ca r0)), .val (.ref (ad Z ca r1)), .val (.ref (ad Z ca q3.2)), .val (.int (0 : Int32)), .val (.int i4), x5]) b4_50_52 rfl ?_
          exact ih_52 _ _ 0 (by omega) (2) (16) (by omega) (by omega) _ _ _ _ (Pl.i _) _ p5 R_q3 hM
        ·
          rw [if_pos hc16_1] at hM
          refine o_blk (pc' := 22) (st' := [(.int i4), (.ref (ad Z ca r2))]) (ls' := #[.val (.ref (ad Z ca r0)), .val (.ref (ad Z ca r1)), .val (.ref (ad Z ca r2)), .val (.int i3), .val (.int i4), x5]) b4_19_22 rfl ?_
          obtain ⟨q4, hq4, hM⟩ := own_bind hM
          refine m_iald (pc' := 23) R hq4 d4_22 rfl ?_
          refine o_stP (pc' := 25) (st' := []) (ls' := #[.val (.ref (ad Z ca r0)), .val (.ref (ad Z ca r1)), .val (.ref (ad Z ca r2)), .val (.int i3), .val (.int i4), .val (.int q4)]) d4_23 rfl rfl (own_stI (x := x5) rfl p5) ?_
          refine o_blk (pc' := 27) (st' := [(.int q4)]) (ls' := #[.val (.ref (ad Z ca r0)), .val (.ref (ad Z ca r1)), .val (.ref (ad Z ca r2)), .val (.int i3), .val (.int i4), .val (.int q4)]) b4_25_27 rfl ?_
          refine o_if (pc' := 38) (pc'' := 30) d4_27 (by decide) (by decide) rfl (fun (hc27_5 : q4 < 0) => ?_) (fun (hc27_5 : ¬ q4 < 0) => ?_)
          ·
            rw [if_pos hc27_5] at hM
            refine o_blk (pc' := 41) (st' := []) (ls' := #[.val (.ref (ad Z ca r0)), .val (.ref (ad Z ca r1)), .val (.ref (ad Z ca r2)), .val (.int i3), .val (.int (i4 + (1 : Int32))), .val (.int q4)]) b4_38_41 rfl ?_
            refine o_goto (pc' := 13) d4_41 (by decide) (by decide) ?_
            exact ih_13 _ _ _ _ _ _ _ (Pl.i _) R hM
          ·
            rw [if_neg hc27_5] at hM
            refine o_blk (pc' := 34) (st' := [(.int q4), (.ref (ad Z ca r1)), (.int q4), (.ref (ad Z ca r1))]) (ls' := #[.val (.ref (ad Z ca r0)), .val (.ref (ad Z ca r1)), .val (.ref (ad Z ca r2)), .val (.int i3), .val (.int i4), .val (.int q4)]) b4_30_34 rfl ?_
            obtain ⟨q6, hq6, hM⟩ := own_bind hM
            refine m_iald (pc' := 35) R hq6 d4_34 rfl ?_
            refine o_blk (pc' := 37) (st' := [(.int (q6 + (1 : Int32))), (.int q4), (.ref (ad Z ca r1))]) (ls' := #[.val (.ref (ad Z ca r0)), .val (.ref (ad Z ca r1)), .val (.ref (ad Z ca r2)), .val (.int i3), .val (.int i4), .val (.int q4)]) b4_35_37 rfl ?_
            obtain ⟨q7, hq7, hM⟩ := own_bind hM
            refine m_iast (pc' := 38) R hq7 d4_37 rfl ?_
            intro h_q7 R_q7
            refine o_blk (pc' := 41) (st' := []) (ls' := #[.val (.ref (ad Z ca r0)), .val (.ref (ad Z ca r1)), .val (.ref (ad Z ca r2)), .val (.int i3), .val (.int (i4 + (1 : Int32))), .val (.int q4)]) b4_38_41 rfl ?_
            refine o_goto (pc' := 13) d4_41 (by decide) (by decide) ?_
            exact ih_13 _ _ _ _ _ _ _ (Pl.i _) R_q7 hM
      · intro h H t ht c s ec es r1 r2 i3 x4 p4 x5 p5 R hM
        subst ec es
        have hM : B_chi_52 r0 (L_chi r0 f) H t r1 r2 i3 0 = some res := hM
        unfold B_chi_52 at hM
        refine o_blk (pc' := 54) (st' := [(.ref (ad Z ca r0)), (.int i3)]) (ls' := #[.val (.ref (ad Z ca r0)), .val (.ref (ad Z ca r1)), .val (.ref (ad Z ca r2)), .val (.int i3), x4, x5]) b4_52_54 rfl ?_
        obtain ⟨q1, hq1, hM⟩ := own_bind hM
        refine m_len (pc' := 55) R hq1 d4_54 rfl ?_
        refine o_ic (pc' := 76) (pc'' := 58) d4_55 (by decide) (by decide) rfl (fun (hc55_2 : ¬ i3 < q1) => ?_) (fun (hc55_2 : i3 < q1) => ?_)
        ·
          rw [if_neg hc55_2] at hM
          refine o_blk (pc' := 78) (st' := []) (ls' := #[.val (.ref (ad Z ca r0)), .val (.ref (ad Z ca r1)), .val (.ref (ad Z ca r2)), .val (.int (0 : Int32)), x4, x5]) b4_76_78 rfl ?_
          exact ih_78 _ _ t (by omega) ((2 + 1 * t)) ((16 + 8 * t)) (by omega) (by omega) _ _ _ _ p4 _ p5 R hM
        ·
          rw [if_pos hc55_2] at hM
          refine o_blk (pc' := 62) (st' := [(.int i3), (.ref (ad Z ca r1)), (.int i3), (.ref (ad Z ca r2))]) (ls' := #[.val (.ref (ad Z ca r0)), .val (.ref (ad Z ca r1)), .val (.ref (ad Z ca r2)), .val (.int i3), x4, x5]) b4_58_62 rfl ?_
          obtain ⟨q3, hq3, hM⟩ := own_bind hM
          refine m_iald (pc' := 63) R hq3 d4_62 rfl ?_
          obtain ⟨q4, hq4, hM⟩ := own_bind hM
          obtain ⟨hb5, hM⟩ := own_ite hM
          refine m_newI (pc' := 65) R (own_word hw 0 rfl) hq4 d4_63 (by show (2 + 1 * t) + 1 ≤ 10; omega) (by show (16 + 8 * t) + 8 ≤ 80; omega) rfl ?_
          intro h_q4 R_q4
          obtain ⟨q6, hq6, hM⟩ := own_bind hM
          refine m_aast2 (pc' := 66) R_q4 hq6 d4_65 rfl ?_
          intro h_q6 R_q6
          refine o_blk (pc' := 69) (st' := [(.int (0 : Int32)), (.int i3), (.ref (ad Z ca r1))]) (ls' := #[.val (.ref (ad Z ca r0)), .val (.ref (ad Z ca r1)), .val (.ref (ad Z ca r2)), .val (.int i3), x4, x5]) b4_66_69 rfl ?_
          obtain ⟨q7, hq7, hM⟩ := own_bind hM
          refine m_iast (pc' := 70) R_q6 hq7 d4_69 rfl ?_
          intro h_q7 R_q7
          refine o_blk (pc' := 73) (st' := []) (ls' := #[.val (.ref (ad Z ca r0)), .val (.ref (ad Z ca r1)), .val (.ref (ad Z ca r2)), .val (.int (i3 + (1 : Int32))), x4, x5]) b4_70_73 rfl ?_
          refine o_goto (pc' := 52) d4_73 (by decide) (by decide) ?_
          exact ih_52 _ _ (t + 1) (by omega) (((2 + 1 * t) + 1)) (((16 + 8 * t) + 8)) (by omega) (by omega) _ _ _ _ p4 _ p5 R_q7 hM
      · intro h H t ht c s ec es r1 r2 i3 x4 p4 x5 p5 R hM
        subst ec es
        have hM : B_chi_78 r0 (L_chi r0 f) H t r1 r2 i3 0 = some res := hM
        unfold B_chi_78 at hM
        refine o_blk (pc' := 80) (st' := [(.ref (ad Z ca r0)), (.int i3)]) (ls' := #[.val (.ref (ad Z ca r0)), .val (.ref (ad Z ca r1)), .val (.ref (ad Z ca r2)), .val (.int i3), x4, x5]) b4_78_80 rfl ?_
        obtain ⟨q1, hq1, hM⟩ := own_bind hM
        refine m_len (pc' := 81) R hq1 d4_80 rfl ?_
        refine o_ic (pc' := 115) (pc'' := 84) d4_81 (by decide) (by decide) rfl (fun (hc81_2 : ¬ i3 < q1) => ?_) (fun (hc81_2 : i3 < q1) => ?_)
        ·
          rw [if_neg hc81_2] at hM
          refine o_blk (pc' := 116) (st' := [(.ref (ad Z ca r2))]) (ls' := #[.val (.ref (ad Z ca r0)), .val (.ref (ad Z ca r1)), .val (.ref (ad Z ca r2)), .val (.int i3), x4, x5]) b4_115_116 rfl ?_
          cases hM
          exact o_retA d4_116 (by show (2 + 1 * t) ≤ 10; omega) (by show (16 + 8 * t) ≤ 80; omega) rfl rfl rfl ⟨rfl, R⟩
        ·
          rw [if_pos hc81_2] at hM
          refine o_blk (pc' := 86) (st' := [(.int i3), (.ref (ad Z ca r0))]) (ls' := #[.val (.ref (ad Z ca r0)), .val (.ref (ad Z ca r1)), .val (.ref (ad Z ca r2)), .val (.int i3), x4, x5]) b4_84_86 rfl ?_
          obtain ⟨q3, hq3, hM⟩ := own_bind hM
          refine m_iald (pc' := 87) R hq3 d4_86 rfl ?_
          refine o_stP (pc' := 89) (st' := []) (ls' := #[.val (.ref (ad Z ca r0)), .val (.ref (ad Z ca r1)), .val (.ref (ad Z ca r2)), .val (.int i3), .val (.int q3), x5]) d4_87 rfl rfl (own_stI (x := x4) rfl p4) ?_
          refine o_blk (pc' := 91) (st' := [(.int q3)]) (ls' := #[.val (.ref (ad Z ca r0)), .val (.ref (ad Z ca r1)), .val (.ref (ad Z ca r2)), .val (.int i3), .val (.int q3), x5]) b4_89_91 rfl ?_
          refine o_if (pc' := 109) (pc'' := 94) d4_91 (by decide) (by decide) rfl (fun (hc91_4 : q3 < 0) => ?_) (fun (hc91_4 : ¬ q3 < 0) => ?_)
          ·
            rw [if_pos hc91_4] at hM
            refine o_blk (pc' := 112) (st' := []) (ls' := #[.val (.ref (ad Z ca r0)), .val (.ref (ad Z ca r1)), .val (.ref (ad Z ca r2)), .val (.int (i3 + (1 : Int32))), .val (.int q3), x5]) b4_109_112 rfl ?_
            refine o_goto (pc' := 78) d4_112 (by decide) (by decide) ?_
            exact ih_78 _ _ t (by omega) ((2 + 1 * t)) ((16 + 8 * t)) (by omega) (by omega) _ _ _ _ (Pl.i _) _ p5 R hM
          ·
            rw [if_neg hc91_4] at hM
            refine o_blk (pc' := 97) (st' := [(.int q3), (.ref (ad Z ca r2))]) (ls' := #[.val (.ref (ad Z ca r0)), .val (.ref (ad Z ca r1)), .val (.ref (ad Z ca r2)), .val (.int i3), .val (.int q3), x5]) b4_94_97 rfl ?_
            obtain ⟨q5, hq5, hM⟩ := own_bind hM
            refine m_aald (pc' := 98) R hq5 d4_97 rfl ?_
            refine o_blk (pc' := 102) (st' := [(.int q3), (.ref (ad Z ca r1)), (.int q3), (.ref (ad Z ca r1)), (.ref (ad Z ca q5))]) (ls' := #[.val (.ref (ad Z ca r0)), .val (.ref (ad Z ca r1)), .val (.ref (ad Z ca r2)), .val (.int i3), .val (.int q3), x5]) b4_98_102 rfl ?_
            obtain ⟨q6, hq6, hM⟩ := own_bind hM
            refine m_iald (pc' := 103) R hq6 d4_102 rfl ?_
            refine o_blk (pc' := 106) (st' := [(.int (q6 + (1 : Int32))), (.int q3), (.ref (ad Z ca r1)), (.int q6), (.ref (ad Z ca q5))]) (ls' := #[.val (.ref (ad Z ca r0)), .val (.ref (ad Z ca r1)), .val (.ref (ad Z ca r2)), .val (.int i3), .val (.int q3), x5]) b4_103_106 rfl ?_
            obtain ⟨q7, hq7, hM⟩ := own_bind hM
            refine m_iast (pc' := 107) R hq7 d4_106 rfl ?_
            intro h_q7 R_q7
            refine o_blk (pc' := 108) (st' := [(.int i3), (.int q6), (.ref (ad Z ca q5))]) (ls' := #[.val (.ref (ad Z ca r0)), .val (.ref (ad Z ca r1)), .val (.ref (ad Z ca r2)), .val (.int i3), .val (.int q3), x5]) b4_107_108 rfl ?_
            obtain ⟨q8, hq8, hM⟩ := own_bind hM
            refine m_iast (pc' := 109) R_q7 hq8 d4_108 rfl ?_
            intro h_q8 R_q8
            refine o_blk (pc' := 112) (st' := []) (ls' := #[.val (.ref (ad Z ca r0)), .val (.ref (ad Z ca r1)), .val (.ref (ad Z ca r2)), .val (.int (i3 + (1 : Int32))), .val (.int q3), x5]) b4_109_112 rfl ?_
            refine o_goto (pc' := 78) d4_112 (by decide) (by decide) ?_
            exact ih_78 _ _ t (by omega) ((2 + 1 * t)) ((16 + 8 * t)) (by omega) (by omega) _ _ _ _ (Pl.i _) _ p5 R_q8 hM
  unfold M_chi at hM
  refine o_blk (pc' := 1) (st' := [(.ref (ad Z ca r0))]) (ls' := #[.val (.ref (ad Z ca r0)), .unset, .unset, .unset, .unset, .unset]) b4_0_1 rfl ?_
  obtain ⟨q1, hq1, hM⟩ := own_bind hM
  refine m_len (pc' := 2) R0 hq1 d4_1 rfl ?_
  obtain ⟨q2, hq2, hM⟩ := own_bind hM
  refine m_newI (pc' := 4) R0 (own_word hw 0 rfl) hq2 d4_2 (by decide) (by decide) rfl ?_
  intro h_q2 R_q2
  refine o_blk (pc' := 5) (st' := []) (ls' := #[.val (.ref (ad Z ca r0)), .val (.ref (ad Z ca q2.2)), .unset, .unset, .unset, .unset]) b4_4_5 rfl ?_
  refine o_blk (pc' := 7) (st' := []) (ls' := #[.val (.ref (ad Z ca r0)), .val (.ref (ad Z ca q2.2)), .val (.ref (ad Z ca r0)), .unset, .unset, .unset]) b4_5_7 rfl ?_
  refine o_blk (pc' := 8) (st' := [(.ref (ad Z ca r0))]) (ls' := #[.val (.ref (ad Z ca r0)), .val (.ref (ad Z ca q2.2)), .val (.ref (ad Z ca r0)), .unset, .unset, .unset]) b4_7_8 rfl ?_
  obtain ⟨q3, hq3, hM⟩ := own_bind hM
  refine m_len (pc' := 9) R_q2 hq3 d4_8 rfl ?_
  refine o_blk (pc' := 10) (st' := []) (ls' := #[.val (.ref (ad Z ca r0)), .val (.ref (ad Z ca q2.2)), .val (.ref (ad Z ca r0)), .val (.int q3), .unset, .unset]) b4_9_10 rfl ?_
  refine o_blk (pc' := 13) (st' := []) (ls' := #[.val (.ref (ad Z ca r0)), .val (.ref (ad Z ca q2.2)), .val (.ref (ad Z ca r0)), .val (.int q3), .val (.int (0 : Int32)), .unset]) b4_10_13 rfl ?_
  exact (LP 60).1 _ _ _ _ _ _ _ Pl.u R_q2 hM
def B_nei_8 (r0 : Nat) (r1 : Nat) (rec : Nat → List AO → Nat → Nat → Int32 → Option (List AO × Nat)) (H : List AO) (t : Nat) (r2 : Nat) (i3 : Int32) : Option (List AO × Nat) :=
  (aln H r0).bind fun q1 => if i3 < q1 then ( (rlo H r1 i3).bind fun q3 => (ilo 0 H r0 i3).bind fun q4 => if q4 < 0 then ( (rst2 H r2 i3 q3).bind fun q16 => (ilo 0 q16 r0 i3).bind fun q17 => if q17 < 0 then ( rec 8 q16 t r2 (i3 + (1 : Int32)) ) else ( (rlo q16 r2 i3).bind fun q19 => (aln q16 q3).bind fun q20 => (ilo 0 q16 r0 i3).bind fun q21 => (ist 0 q16 q19 q20 q21).bind fun q22 => rec 8 q22 t r2 (i3 + (1 : Int32)) ) ) else ( (aln H q3).bind fun q6 => (M_cpo H q3 (q6 + (1 : Int32))).bind fun q7 => if t < 8 then ( (rst2 q7.1 r2 i3 q7.2).bind fun q9 => (ilo 0 q9 r0 i3).bind fun q10 => if q10 < 0 then ( rec 8 q9 (t + 1) r2 (i3 + (1 : Int32)) ) else ( (rlo q9 r2 i3).bind fun q12 => (aln q9 q3).bind fun q13 => (ilo 0 q9 r0 i3).bind fun q14 => (ist 0 q9 q12 q13 q14).bind fun q15 => rec 8 q15 (t + 1) r2 (i3 + (1 : Int32)) ) ) else none ) ) else ( some (H, r2) )
def L_nei (r0 : Nat) (r1 : Nat) : Nat → Nat → List AO → Nat → Nat → Int32 → Option (List AO × Nat)
  | 0 => fun _ _ _ _ _ => none
  | f + 1 => fun hd H t r2 i3 => if hd = 8 then B_nei_8 r0 r1 (L_nei r0 r1 f) H t r2 i3 else none
def M_nei (H : List AO) (r0 : Nat) (r1 : Nat) : Option (List AO × Nat) :=
  (aln H r0).bind fun q1 => (newQ 2 8 H q1).bind fun q2 => L_nei r0 r1 20 8 q2.1 0 q2.2 (0 : Int32)
set_option maxRecDepth 65536 in
set_option maxHeartbeats 40000000 in
theorem rm_nei (l : Launch) (Z : State) (a0 : Array Value) (hw : ∀ d ∈ tables_1, d.before a0 Z = true) (ca : Nat → Addr) (K : OKa Z ca) (H : List AO) (r0 : Nat) (r1 : Nat) (res : List AO × Nat) (h0 : Heap) (hE0 : Ext Z.heap h0) (R0 : Rep Z ca h0 H)  (hM : M_nei H r0 r1 = some res) :
    OCtr l Z (⟨"com/example/mild_horn/mildhorn/translation/Centroids", "neighbours", "([I[[I)[[I"⟩ : MethodName) prog_40_method_11_code 5 (some (.array (.array .int))) ({ frames := 2, cells := 9, slots := 72, locals := 34 } : Room) #[(.ref (ad Z ca r0)), (.ref (ad Z ca r1))] h0 (fun v h => v = some (.ref (ad Z ca res.2)) ∧ Rep Z ca h res.1) := by
  refine o_bodyS (ls0 := #[.val (.ref (ad Z ca r0)), .val (.ref (ad Z ca r1)), .unset, .unset, .unset]) (plainFor_of_name pn_4) hE0 (fun m => by first | (simp [entryFrame, mkF, argsToLocals, Value.category]; done) | rfl) ?_
  intro pG eG sG mG bG meG cG hS0
  have LP : ∀ f : Nat, (∀ (h : Heap) (H : List AO) (t : Nat) (ht : t ≤ 8) (c s : Nat) (ec : c = 1 + 1 * t) (es : s = 8 + 8 * t) (r2 : Nat) (i3 : Int32) (x4 : Slot) (p4 : Pl x4) (R : Rep Z ca h H) (hM : L_nei r0 r1 f 8 H t r2 i3 = some res), OG pG l eG ({ frames := 2, cells := 9, slots := 72, locals := 34 } : Room) sG mG #[(.ref (ad Z ca r0)), (.ref (ad Z ca r1))] bG meG cG Z (⟨"com/example/mild_horn/mildhorn/translation/Centroids", "neighbours", "([I[[I)[[I"⟩ : MethodName).cls (⟨"com/example/mild_horn/mildhorn/translation/Centroids", "neighbours", "([I[[I)[[I"⟩ : MethodName).name prog_40_method_11_code 5 (some (.array (.array .int))) (fun v h => v = some (.ref (ad Z ca res.2)) ∧ Rep Z ca h res.1) ({ frames := 2, cells := 9, slots := 72, locals := 34 } : Room).cells ({ frames := 2, cells := 9, slots := 72, locals := 34 } : Room).slots h c s (mkF mG 8 #[.val (.ref (ad Z ca r0)), .val (.ref (ad Z ca r1)), .val (.ref (ad Z ca r2)), .val (.int i3), x4] [])) := by
    intro f
    induction f with
    | zero =>
      skip
      · intro h H t ht c s ec es r2 i3 x4 p4 R hM
        first | exact nomatch hM | (simp [L_nei] at hM; done)
    | succ f ih =>
      have ih_8 := ih
      skip
      · intro h H t ht c s ec es r2 i3 x4 p4 R hM
        subst ec es
        have hM : B_nei_8 r0 r1 (L_nei r0 r1 f) H t r2 i3 = some res := hM
        unfold B_nei_8 at hM
        refine o_blk (pc' := 10) (st' := [(.ref (ad Z ca r0)), (.int i3)]) (ls' := #[.val (.ref (ad Z ca r0)), .val (.ref (ad Z ca r1)), .val (.ref (ad Z ca r2)), .val (.int i3), x4]) b5_8_10 rfl ?_
        obtain ⟨q1, hq1, hM⟩ := own_bind hM
        refine m_len (pc' := 11) R hq1 d5_10 rfl ?_
        refine o_ic (pc' := 65) (pc'' := 14) d5_11 (by decide) (by decide) rfl (fun (hc11_2 : ¬ i3 < q1) => ?_) (fun (hc11_2 : i3 < q1) => ?_)
        ·
          rw [if_neg hc11_2] at hM
          refine o_blk (pc' := 66) (st' := [(.ref (ad Z ca r2))]) (ls' := #[.val (.ref (ad Z ca r0)), .val (.ref (ad Z ca r1)), .val (.ref (ad Z ca r2)), .val (.int i3), x4]) b5_65_66 rfl ?_
          cases hM
          exact o_retA d5_66 (by show (1 + 1 * t) ≤ 9; omega) (by show (8 + 8 * t) ≤ 72; omega) rfl rfl rfl ⟨rfl, R⟩
        ·
          rw [if_pos hc11_2] at hM
          refine o_blk (pc' := 16) (st' := [(.int i3), (.ref (ad Z ca r1))]) (ls' := #[.val (.ref (ad Z ca r0)), .val (.ref (ad Z ca r1)), .val (.ref (ad Z ca r2)), .val (.int i3), x4]) b5_14_16 rfl ?_
          obtain ⟨q3, hq3, hM⟩ := own_bind hM
          refine m_aald (pc' := 17) R hq3 d5_16 rfl ?_
          refine o_stP (pc' := 19) (st' := []) (ls' := #[.val (.ref (ad Z ca r0)), .val (.ref (ad Z ca r1)), .val (.ref (ad Z ca r2)), .val (.int i3), .val (.ref (ad Z ca q3))]) d5_17 rfl rfl (own_stA (x := x4) rfl p4) ?_
          refine o_blk (pc' := 23) (st' := [(.int i3), (.ref (ad Z ca r0)), (.int i3), (.ref (ad Z ca r2))]) (ls' := #[.val (.ref (ad Z ca r0)), .val (.ref (ad Z ca r1)), .val (.ref (ad Z ca r2)), .val (.int i3), .val (.ref (ad Z ca q3))]) b5_19_23 rfl ?_
          obtain ⟨q4, hq4, hM⟩ := own_bind hM
          refine m_iald (pc' := 24) R hq4 d5_23 rfl ?_
          refine o_if (pc' := 32) (pc'' := 27) d5_24 (by decide) (by decide) rfl (fun (hc24_5 : ¬ q4 < 0) => ?_) (fun (hc24_5 : q4 < 0) => ?_)
          ·
            rw [if_neg hc24_5] at hM
            refine o_blk (pc' := 36) (st' := [(.ref (ad Z ca q3)), (.ref (ad Z ca q3)), (.int i3), (.ref (ad Z ca r2))]) (ls' := #[.val (.ref (ad Z ca r0)), .val (.ref (ad Z ca r1)), .val (.ref (ad Z ca r2)), .val (.int i3), .val (.ref (ad Z ca q3))]) b5_32_36 rfl ?_
            obtain ⟨q6, hq6, hM⟩ := own_bind hM
            refine m_len (pc' := 37) R hq6 d5_36 rfl ?_
            refine o_blk (pc' := 39) (st' := [(.int (q6 + (1 : Int32))), (.ref (ad Z ca q3)), (.int i3), (.ref (ad Z ca r2))]) (ls' := #[.val (.ref (ad Z ca r0)), .val (.ref (ad Z ca r1)), .val (.ref (ad Z ca r2)), .val (.int i3), .val (.ref (ad Z ca q3))]) b5_37_39 rfl ?_
            obtain ⟨q7, hq7, hM⟩ := own_bind hM
            obtain ⟨hb8, hM⟩ := own_ite hM
            refine o_callS (W := 2) (argsL := [(.ref (ad Z ca q3)), (.int (q6 + (1 : Int32)))]) (rest := [(.int i3), (.ref (ad Z ca r2))]) (pc' := 42) (own_word hw 27 rfl) (own_word hw 28 rfl) (own_word hw 29 rfl) (own_word hw 30 rfl) (by decide) (fun hE => rm_cpo l Z a0 hw ca K H q3 (q6 + (1 : Int32)) q7 h hE R hq7) d5_39 pd_5 rfl rfl rfl (Nat.le_of_eq rfl) (by decide) (by decide) (by show (1 + 1 * t) + 1 ≤ 9; omega) (by show (8 + 8 * t) + 8 ≤ 72; omega) rfl ?_
            rintro _ h_q7 ⟨rfl, R_q7⟩ hs_q7
            obtain ⟨q9, hq9, hM⟩ := own_bind hM
            refine m_aast2 (pc' := 43) R_q7 hq9 d5_42 rfl ?_
            intro h_q9 R_q9
            refine o_blk (pc' := 45) (st' := [(.int i3), (.ref (ad Z ca r0))]) (ls' := #[.val (.ref (ad Z ca r0)), .val (.ref (ad Z ca r1)), .val (.ref (ad Z ca r2)), .val (.int i3), .val (.ref (ad Z ca q3))]) b5_43_45 rfl ?_
            obtain ⟨q10, hq10, hM⟩ := own_bind hM
            refine m_iald (pc' := 46) R_q9 hq10 d5_45 rfl ?_
            refine o_if (pc' := 59) (pc'' := 49) d5_46 (by decide) (by decide) rfl (fun (hc46_11 : q10 < 0) => ?_) (fun (hc46_11 : ¬ q10 < 0) => ?_)
            ·
              rw [if_pos hc46_11] at hM
              refine o_blk (pc' := 62) (st' := []) (ls' := #[.val (.ref (ad Z ca r0)), .val (.ref (ad Z ca r1)), .val (.ref (ad Z ca r2)), .val (.int (i3 + (1 : Int32))), .val (.ref (ad Z ca q3))]) b5_59_62 rfl ?_
              refine o_goto (pc' := 8) d5_62 (by decide) (by decide) ?_
              exact ih_8 _ _ (t + 1) (by omega) (((1 + 1 * t) + 1)) (((8 + 8 * t) + 8)) (by omega) (by omega) _ _ _ (Pl.r _) R_q9 hM
            ·
              rw [if_neg hc46_11] at hM
              refine o_blk (pc' := 51) (st' := [(.int i3), (.ref (ad Z ca r2))]) (ls' := #[.val (.ref (ad Z ca r0)), .val (.ref (ad Z ca r1)), .val (.ref (ad Z ca r2)), .val (.int i3), .val (.ref (ad Z ca q3))]) b5_49_51 rfl ?_
              obtain ⟨q12, hq12, hM⟩ := own_bind hM
              refine m_aald (pc' := 52) R_q9 hq12 d5_51 rfl ?_
              refine o_blk (pc' := 54) (st' := [(.ref (ad Z ca q3)), (.ref (ad Z ca q12))]) (ls' := #[.val (.ref (ad Z ca r0)), .val (.ref (ad Z ca r1)), .val (.ref (ad Z ca r2)), .val (.int i3), .val (.ref (ad Z ca q3))]) b5_52_54 rfl ?_
              obtain ⟨q13, hq13, hM⟩ := own_bind hM
              refine m_len (pc' := 55) R_q9 hq13 d5_54 rfl ?_
              refine o_blk (pc' := 57) (st' := [(.int i3), (.ref (ad Z ca r0)), (.int q13), (.ref (ad Z ca q12))]) (ls' := #[.val (.ref (ad Z ca r0)), .val (.ref (ad Z ca r1)), .val (.ref (ad Z ca r2)), .val (.int i3), .val (.ref (ad Z ca q3))]) b5_55_57 rfl ?_
              obtain ⟨q14, hq14, hM⟩ := own_bind hM
              refine m_iald (pc' := 58) R_q9 hq14 d5_57 rfl ?_
              obtain ⟨q15, hq15, hM⟩ := own_bind hM
              refine m_iast (pc' := 59) R_q9 hq15 d5_58 rfl ?_
              intro h_q15 R_q15
              refine o_blk (pc' := 62) (st' := []) (ls' := #[.val (.ref (ad Z ca r0)), .val (.ref (ad Z ca r1)), .val (.ref (ad Z ca r2)), .val (.int (i3 + (1 : Int32))), .val (.ref (ad Z ca q3))]) b5_59_62 rfl ?_
              refine o_goto (pc' := 8) d5_62 (by decide) (by decide) ?_
              exact ih_8 _ _ (t + 1) (by omega) (((1 + 1 * t) + 1)) (((8 + 8 * t) + 8)) (by omega) (by omega) _ _ _ (Pl.r _) R_q15 hM
          ·
            rw [if_pos hc24_5] at hM
            refine o_blk (pc' := 29) (st' := [(.ref (ad Z ca q3)), (.int i3), (.ref (ad Z ca r2))]) (ls' := #[.val (.ref (ad Z ca r0)), .val (.ref (ad Z ca r1)), .val (.ref (ad Z ca r2)), .val (.int i3), .val (.ref (ad Z ca q3))]) b5_27_29 rfl ?_
            refine o_goto (pc' := 42) d5_29 (by decide) (by decide) ?_
            obtain ⟨q16, hq16, hM⟩ := own_bind hM
            refine m_aast2 (pc' := 43) R hq16 d5_42 rfl ?_
            intro h_q16 R_q16
            refine o_blk (pc' := 45) (st' := [(.int i3), (.ref (ad Z ca r0))]) (ls' := #[.val (.ref (ad Z ca r0)), .val (.ref (ad Z ca r1)), .val (.ref (ad Z ca r2)), .val (.int i3), .val (.ref (ad Z ca q3))]) b5_43_45 rfl ?_
            obtain ⟨q17, hq17, hM⟩ := own_bind hM
            refine m_iald (pc' := 46) R_q16 hq17 d5_45 rfl ?_
            refine o_if (pc' := 59) (pc'' := 49) d5_46 (by decide) (by decide) rfl (fun (hc46_18 : q17 < 0) => ?_) (fun (hc46_18 : ¬ q17 < 0) => ?_)
            ·
              rw [if_pos hc46_18] at hM
              refine o_blk (pc' := 62) (st' := []) (ls' := #[.val (.ref (ad Z ca r0)), .val (.ref (ad Z ca r1)), .val (.ref (ad Z ca r2)), .val (.int (i3 + (1 : Int32))), .val (.ref (ad Z ca q3))]) b5_59_62 rfl ?_
              refine o_goto (pc' := 8) d5_62 (by decide) (by decide) ?_
              exact ih_8 _ _ t (by omega) ((1 + 1 * t)) ((8 + 8 * t)) (by omega) (by omega) _ _ _ (Pl.r _) R_q16 hM
            ·
              rw [if_neg hc46_18] at hM
              refine o_blk (pc' := 51) (st' := [(.int i3), (.ref (ad Z ca r2))]) (ls' := #[.val (.ref (ad Z ca r0)), .val (.ref (ad Z ca r1)), .val (.ref (ad Z ca r2)), .val (.int i3), .val (.ref (ad Z ca q3))]) b5_49_51 rfl ?_
              obtain ⟨q19, hq19, hM⟩ := own_bind hM
              refine m_aald (pc' := 52) R_q16 hq19 d5_51 rfl ?_
              refine o_blk (pc' := 54) (st' := [(.ref (ad Z ca q3)), (.ref (ad Z ca q19))]) (ls' := #[.val (.ref (ad Z ca r0)), .val (.ref (ad Z ca r1)), .val (.ref (ad Z ca r2)), .val (.int i3), .val (.ref (ad Z ca q3))]) b5_52_54 rfl ?_
              obtain ⟨q20, hq20, hM⟩ := own_bind hM
              refine m_len (pc' := 55) R_q16 hq20 d5_54 rfl ?_
              refine o_blk (pc' := 57) (st' := [(.int i3), (.ref (ad Z ca r0)), (.int q20), (.ref (ad Z ca q19))]) (ls' := #[.val (.ref (ad Z ca r0)), .val (.ref (ad Z ca r1)), .val (.ref (ad Z ca r2)), .val (.int i3), .val (.ref (ad Z ca q3))]) b5_55_57 rfl ?_
              obtain ⟨q21, hq21, hM⟩ := own_bind hM
              refine m_iald (pc' := 58) R_q16 hq21 d5_57 rfl ?_
              obtain ⟨q22, hq22, hM⟩ := own_bind hM
              refine m_iast (pc' := 59) R_q16 hq22 d5_58 rfl ?_
              intro h_q22 R_q22
              refine o_blk (pc' := 62) (st' := []) (ls' := #[.val (.ref (ad Z ca r0)), .val (.ref (ad Z ca r1)), .val (.ref (ad Z ca r2)), .val (.int (i3 + (1 : Int32))), .val (.ref (ad Z ca q3))]) b5_59_62 rfl ?_
              refine o_goto (pc' := 8) d5_62 (by decide) (by decide) ?_
              exact ih_8 _ _ t (by omega) ((1 + 1 * t)) ((8 + 8 * t)) (by omega) (by omega) _ _ _ (Pl.r _) R_q22 hM
  unfold M_nei at hM
  refine o_blk (pc' := 1) (st' := [(.ref (ad Z ca r0))]) (ls' := #[.val (.ref (ad Z ca r0)), .val (.ref (ad Z ca r1)), .unset, .unset, .unset]) b5_0_1 rfl ?_
  obtain ⟨q1, hq1, hM⟩ := own_bind hM
  refine m_len (pc' := 2) R0 hq1 d5_1 rfl ?_
  obtain ⟨q2, hq2, hM⟩ := own_bind hM
  refine m_newG (pc' := 5) R0 (own_word hw 19 rfl) (own_word hw 20 rfl) hq2 d5_2 (by decide) (by decide) rfl ?_
  intro h_q2 R_q2
  refine o_blk (pc' := 6) (st' := []) (ls' := #[.val (.ref (ad Z ca r0)), .val (.ref (ad Z ca r1)), .val (.ref (ad Z ca q2.2)), .unset, .unset]) b5_5_6 rfl ?_
  refine o_blk (pc' := 8) (st' := []) (ls' := #[.val (.ref (ad Z ca r0)), .val (.ref (ad Z ca r1)), .val (.ref (ad Z ca q2.2)), .val (.int (0 : Int32)), .unset]) b5_6_8 rfl ?_
  exact (LP 20) _ _ 0 (by omega) (1) (8) (by omega) (by omega) _ _ _ Pl.u R_q2 hM
def B_num_29 (r0 : Nat) (i1 : Int32) (rec : Nat → List AO → Nat → Nat → Int32 → Int32 → Int32 → Option (List AO × Nat)) (H : List AO) (r2 : Nat) (r3 : Nat) (i4 : Int32) (i5 : Int32) (i6 : Int32) : Option (List AO × Nat) :=
  if ((hget H r3).any fun o => o.1 == 5) = true then ( (M_isemp H r3).bind fun q2 => if q2.2 = 0 then ( if ((hget q2.1 r3).any fun o => o.1 == 5) = true then ( (M_pop q2.1 r3).bind fun q7 => if 1000 ≤ q7.2 ∧ q7.2 < 1256 then ( (M_ival q7.1 q7.2).bind fun q9 => (ist 0 q9.1 r2 i4 q9.2).bind fun q10 => (gfr 4 q10 r0 3).bind fun q11 => (ist 0 q10 q11 q9.2 i4).bind fun q12 => (gfr 4 q12 r0 1).bind fun q13 => (rlo q12 q13 q9.2).bind fun q14 => (aln q12 q14).bind fun q15 => rec 82 q12 r2 r3 (i4 + (1 : Int32)) q9.2 (q15 - (1 : Int32)) ) else none ) else none ) else ( (gfr 4 q2.1 r0 0).bind fun q4 => (aln q2.1 q4).bind fun q5 => rec 124 q2.1 r2 0 (q5 - (1 : Int32)) 0 0 ) ) else none
def B_num_82 (r0 : Nat) (i1 : Int32) (rec : Nat → List AO → Nat → Nat → Int32 → Int32 → Int32 → Option (List AO × Nat)) (H : List AO) (r2 : Nat) (r3 : Nat) (i4 : Int32) (i5 : Int32) (i6 : Int32) : Option (List AO × Nat) :=
  if i6 < 0 then ( rec 29 H r2 r3 i4 0 0 ) else ( (gfr 4 H r0 1).bind fun q2 => (rlo H q2 i5).bind fun q3 => (ilo 0 H q3 i6).bind fun q4 => (M_vof H q4).bind fun q5 => if ((hget q5.1 r3).any fun o => o.1 == 5) = true then ( (M_push q5.1 r3 q5.2).bind fun q7 => rec 82 q7.1 r2 r3 i4 i5 (i6 + (-1 : Int32)) ) else none )
def B_num_124 (r0 : Nat) (i1 : Int32) (rec : Nat → List AO → Nat → Nat → Int32 → Int32 → Int32 → Option (List AO × Nat)) (H : List AO) (r2 : Nat) (r3 : Nat) (i4 : Int32) (i5 : Int32) (i6 : Int32) : Option (List AO × Nat) :=
  if i4 < 0 then ( some (H, 0) ) else ( (ilo 0 H r2 i4).bind fun q2 => (gfr 4 H r0 4).bind fun q3 => (gfr 4 H r0 4).bind fun q4 => (ilo 0 H q4 q2).bind fun q5 => (gfr 4 H r0 3).bind fun q6 => (ilo 0 H q6 q2).bind fun q7 => (M_max H q5 q7).bind fun q8 => (ist 0 q8.1 q3 q2 q8.2).bind fun q9 => (gfr 4 q9 r0 0).bind fun q10 => (ilo 0 q9 q10 q2).bind fun q11 => if q11 < 0 then ( rec 124 q9 r2 0 (i4 + (-1 : Int32)) 0 0 ) else ( (gfr 4 q9 r0 4).bind fun q13 => (gfr 4 q9 r0 0).bind fun q14 => (ilo 0 q9 q14 q2).bind fun q15 => (gfr 4 q9 r0 4).bind fun q16 => (gfr 4 q9 r0 0).bind fun q17 => (ilo 0 q9 q17 q2).bind fun q18 => (ilo 0 q9 q16 q18).bind fun q19 => (gfr 4 q9 r0 4).bind fun q20 => (ilo 0 q9 q20 q2).bind fun q21 => (M_max q9 q19 q21).bind fun q22 => (ist 0 q22.1 q13 q15 q22.2).bind fun q23 => rec 124 q23 r2 0 (i4 + (-1 : Int32)) 0 0 ) )
def L_num (r0 : Nat) (i1 : Int32) : Nat → Nat → List AO → Nat → Nat → Int32 → Int32 → Int32 → Option (List AO × Nat)
  | 0 => fun _ _ _ _ _ _ _ => none
  | f + 1 => fun hd H r2 r3 i4 i5 i6 => if hd = 29 then B_num_29 r0 i1 (L_num r0 i1 f) H r2 r3 i4 i5 i6 else if hd = 82 then B_num_82 r0 i1 (L_num r0 i1 f) H r2 r3 i4 i5 i6 else if hd = 124 then B_num_124 r0 i1 (L_num r0 i1 f) H r2 r3 i4 i5 i6 else none
def M_num (H : List AO) (r0 : Nat) (i1 : Int32) : Option (List AO × Nat) :=
  (gfr 4 H r0 0).bind fun q1 => (aln H q1).bind fun q2 => (newI 0 H q2).bind fun q3 => (hnew q3.1 (5, [0, 0], [0])).bind fun q4 => (M_deq q4.1 q4.2).bind fun q5 => (M_vof q5.1 i1).bind fun q6 => if ((hget q6.1 q4.2).any fun o => o.1 == 5) = true then ( (M_push q6.1 q4.2 q6.2).bind fun q8 => L_num r0 i1 90 29 q8.1 q3.2 q4.2 (0 : Int32) 0 0 ) else none
set_option maxRecDepth 65536 in
set_option maxHeartbeats 40000000 in
theorem rm_num (l : Launch) (Z : State) (a0 : Array Value) (hw : ∀ d ∈ tables_1, d.before a0 Z = true) (ca : Nat → Addr) (K : OKa Z ca) (H : List AO) (r0 : Nat) (i1 : Int32) (res : List AO × Nat) (h0 : Heap) (hE0 : Ext Z.heap h0) (R0 : Rep Z ca h0 H)  (hM : M_num H r0 i1 = some res) :
    OCtr l Z (⟨"com/example/mild_horn/mildhorn/translation/Centroids", "number", "(I)V"⟩ : MethodName) prog_40_method_7_code 7 none ({ frames := 4, cells := 3, slots := 28, locals := 54 } : Room) #[(.ref (ad Z ca r0)), (.int i1)] h0 (fun v h => v = none ∧ Rep Z ca h res.1) := by
  refine o_bodyS (ls0 := #[.val (.ref (ad Z ca r0)), .val (.int i1), .unset, .unset, .unset, .unset, .unset]) (plainFor_of_name pn_4) hE0 (fun m => by first | (simp [entryFrame, mkF, argsToLocals, Value.category]; done) | rfl) ?_
  intro pG eG sG mG bG meG cG hS0
  have LP : ∀ f : Nat, (∀ (h : Heap) (H : List AO) (r2 : Nat) (r3 : Nat) (i4 : Int32) (x5 : Slot) (p5 : Pl x5) (x6 : Slot) (p6 : Pl x6) (R : Rep Z ca h H) (hM : L_num r0 i1 f 29 H r2 r3 i4 0 0 = some res), OG pG l eG ({ frames := 4, cells := 3, slots := 28, locals := 54 } : Room) sG mG #[(.ref (ad Z ca r0)), (.int i1)] bG meG cG Z (⟨"com/example/mild_horn/mildhorn/translation/Centroids", "number", "(I)V"⟩ : MethodName).cls (⟨"com/example/mild_horn/mildhorn/translation/Centroids", "number", "(I)V"⟩ : MethodName).name prog_40_method_7_code 7 none (fun v h => v = none ∧ Rep Z ca h res.1) ({ frames := 4, cells := 3, slots := 28, locals := 54 } : Room).cells ({ frames := 4, cells := 3, slots := 28, locals := 54 } : Room).slots h 3 28 (mkF mG 29 #[.val (.ref (ad Z ca r0)), .val (.int i1), .val (.ref (ad Z ca r2)), .val (.ref (ad Z ca r3)), .val (.int i4), x5, x6] [])) ∧ (∀ (h : Heap) (H : List AO) (r2 : Nat) (r3 : Nat) (i4 : Int32) (i5 : Int32) (i6 : Int32)  (R : Rep Z ca h H) (hM : L_num r0 i1 f 82 H r2 r3 i4 i5 i6 = some res), OG pG l eG ({ frames := 4, cells := 3, slots := 28, locals := 54 } : Room) sG mG #[(.ref (ad Z ca r0)), (.int i1)] bG meG cG Z (⟨"com/example/mild_horn/mildhorn/translation/Centroids", "number", "(I)V"⟩ : MethodName).cls (⟨"com/example/mild_horn/mildhorn/translation/Centroids", "number", "(I)V"⟩ : MethodName).name prog_40_method_7_code 7 none (fun v h => v = none ∧ Rep Z ca h res.1) ({ frames := 4, cells := 3, slots := 28, locals := 54 } : Room).cells ({ frames := 4, cells := 3, slots := 28, locals := 54 } : Room).slots h 3 28 (mkF mG 82 #[.val (.ref (ad Z ca r0)), .val (.int i1), .val (.ref (ad Z ca r2)), .val (.ref (ad Z ca r3)), .val (.int i4), .val (.int i5), .val (.int i6)] [])) ∧ (∀ (h : Heap) (H : List AO) (r2 : Nat) (i4 : Int32) (x3 : Slot) (p3 : Pl x3) (x5 : Slot) (p5 : Pl x5) (x6 : Slot) (p6 : Pl x6) (R : Rep Z ca h H) (hM : L_num r0 i1 f 124 H r2 0 i4 0 0 = some res), OG pG l eG ({ frames := 4, cells := 3, slots := 28, locals := 54 } : Room) sG mG #[(.ref (ad Z ca r0)), (.int i1)] bG meG cG Z (⟨"com/example/mild_horn/mildhorn/translation/Centroids", "number", "(I)V"⟩ : MethodName).cls (⟨"com/example/mild_horn/mildhorn/translation/Centroids", "number", "(I)V"⟩ : MethodName).name prog_40_method_7_code 7 none (fun v h => v = none ∧ Rep Z ca h res.1) ({ frames := 4, cells := 3, slots := 28, locals := 54 } : Room).cells ({ frames := 4, cells := 3, slots := 28, locals := 54 } : Room).slots h 3 28 (mkF mG 124 #[.val (.ref (ad Z ca r0)), .val (.int i1), .val (.ref (ad Z ca r2)), x3, .val (.int i4), x5, x6] [])) := by
    intro f
    induction f with
    | zero =>
      refine ⟨?_, ?_, ?_⟩
      · intro h H r2 r3 i4 x5 p5 x6 p6 R hM
        first | exact nomatch hM | (simp [L_num] at hM; done)
      · intro h H r2 r3 i4 i5 i6  R hM
        first | exact nomatch hM | (simp [L_num] at hM; done)
      · intro h H r2 i4 x3 p3 x5 p5 x6 p6 R hM
        first | exact nomatch hM | (simp [L_num] at hM; done)
    | succ f ih =>
      obtain ⟨ih_29, ih_82, ih_124⟩ := ih
      refine ⟨?_, ?_, ?_⟩
      · intro h H r2 r3 i4 x5 p5 x6 p6 R hM
        have hM : B_num_29 r0 i1 (L_num r0 i1 f) H r2 r3 i4 0 0 = some res := hM
        unfold B_num_29 at hM
        refine o_blk (pc' := 30) (st' := [(.ref (ad Z ca r3))]) (ls' := #[.val (.ref (ad Z ca r0)), .val (.int i1), .val (.ref (ad Z ca r2)), .val (.ref (ad Z ca r3)), .val (.int i4), x5, x6]) b8_29_30 rfl ?_
        obtain ⟨hb1, hM⟩ := own_ite hM
        obtain ⟨q2, hq2, hM⟩ := own_bind hM
        refine o_callFU (W := 0) (argsL := []) (rest := []) (pc' := 35) (own_word hw 97 rfl) (own_word hw 98 rfl) (own_word hw 99 rfl) (by decide) (by decide) (own_word hw 100 rfl) (own_word hw 101 rfl) (own_word hw 102 rfl) (own_word hw 103 rfl) (own_word hw 82 rfl) (own_word hw 104 rfl) (own_word hw 53 rfl) (by decide) (R.exa (t := 1) hb1) (fun hE => rm_isemp l Z a0 hw ca K H r3 q2 h hE R hq2) d8_30 pd_7 rfl rfl rfl (Nat.le_of_eq rfl) (by decide) (by decide) (by decide) (by decide) rfl ?_
        rintro _ h_q2 ⟨rfl, R_q2⟩ hs_q2
        refine o_if (pc' := 115) (pc'' := 38) d8_35 (by decide) (by decide) rfl (fun (hc35_3 : ¬ q2.2 = 0) => ?_) (fun (hc35_3 : q2.2 = 0) => ?_)
        ·
          rw [if_neg hc35_3] at hM
          refine o_blk (pc' := 116) (st' := [(.ref (ad Z ca r0))]) (ls' := #[.val (.ref (ad Z ca r0)), .val (.int i1), .val (.ref (ad Z ca r2)), .val (.ref (ad Z ca r3)), .val (.int i4), x5, x6]) b8_115_116 rfl ?_
          obtain ⟨q4, hq4, hM⟩ := own_bind hM
          refine m_getR (t := 0) (i := 0) (pc' := 119) R_q2 hq4 rfl rfl (own_word hw 14 rfl) d8_116 rfl ?_
          obtain ⟨q5, hq5, hM⟩ := own_bind hM
          refine m_len (pc' := 120) R_q2 hq5 d8_119 rfl ?_
          refine o_blk (pc' := 124) (st' := []) (ls' := #[.val (.ref (ad Z ca r0)), .val (.int i1), .val (.ref (ad Z ca r2)), .val (.ref (ad Z ca r3)), .val (.int (q5 - (1 : Int32))), x5, x6]) b8_120_124 rfl ?_
          exact ih_124 _ _ _ _ _ (Pl.r _) _ p5 _ p6 R_q2 hM
        ·
          rw [if_pos hc35_3] at hM
          refine o_blk (pc' := 39) (st' := [(.ref (ad Z ca r3))]) (ls' := #[.val (.ref (ad Z ca r0)), .val (.int i1), .val (.ref (ad Z ca r2)), .val (.ref (ad Z ca r3)), .val (.int i4), x5, x6]) b8_38_39 rfl ?_
          obtain ⟨hb6, hM⟩ := own_ite hM
          obtain ⟨q7, hq7, hM⟩ := own_bind hM
          refine o_callF (W := 0) (argsL := []) (rest := []) (pc' := 44) (own_word hw 105 rfl) (own_word hw 106 rfl) (own_word hw 107 rfl) rfl (own_word hw 108 rfl) (own_word hw 109 rfl) (own_word hw 110 rfl) (own_word hw 111 rfl) (own_word hw 82 rfl) (own_word hw 112 rfl) (own_word hw 53 rfl) (by decide) (R_q2.exa (t := 1) hb6) (fun hE => rm_pop l Z a0 hw ca K q2.1 r3 q7 h_q2 hE R_q2 hq7) d8_39 pd_4 rfl rfl rfl (Nat.le_of_eq rfl) (by decide) (by decide) (by decide) (by decide) rfl ?_
          rintro _ h_q7 ⟨rfl, R_q7⟩ hs_q7
          obtain ⟨hb8, hM⟩ := own_ite hM
          refine m_castI (pc' := 47) K.1 R_q7.1 hb8 (own_word hw 129 rfl) d8_44 rfl ?_
          obtain ⟨q9, hq9, hM⟩ := own_bind hM
          refine o_callV (W := 0) (argsL := []) (rest := []) (pc' := 50) (own_word hw 131 rfl) (own_word hw 132 rfl) (own_word hw 134 rfl) (own_word hw 134 rfl) (own_word hw 133 rfl) (own_word hw 135 rfl) (own_word hw 70 rfl) (by decide) (own_int K.1 R_q7.1 hb8).1 (fun hE => rm_ival l Z a0 hw ca K q7.1 q7.2 q9 h_q7 hE R_q7 hq9) d8_47 pd_8 rfl rfl rfl (Nat.le_of_eq rfl) (by decide) (by decide) (by decide) (by decide) rfl ?_
          rintro _ h_q9 ⟨rfl, R_q9⟩ hs_q9
          refine o_stP (pc' := 52) (st' := []) (ls' := #[.val (.ref (ad Z ca r0)), .val (.int i1), .val (.ref (ad Z ca r2)), .val (.ref (ad Z ca r3)), .val (.int i4), .val (.int q9.2), x6]) d8_50 rfl rfl (own_stI (x := x5) rfl p5) ?_
          refine o_blk (pc' := 57) (st' := [(.int q9.2), (.int i4), (.ref (ad Z ca r2))]) (ls' := #[.val (.ref (ad Z ca r0)), .val (.int i1), .val (.ref (ad Z ca r2)), .val (.ref (ad Z ca r3)), .val (.int i4), .val (.int q9.2), x6]) b8_52_57 rfl ?_
          obtain ⟨q10, hq10, hM⟩ := own_bind hM
          refine m_iast (pc' := 58) R_q9 hq10 d8_57 rfl ?_
          intro h_q10 R_q10
          refine o_blk (pc' := 59) (st' := [(.ref (ad Z ca r0))]) (ls' := #[.val (.ref (ad Z ca r0)), .val (.int i1), .val (.ref (ad Z ca r2)), .val (.ref (ad Z ca r3)), .val (.int i4), .val (.int q9.2), x6]) b8_58_59 rfl ?_
          obtain ⟨q11, hq11, hM⟩ := own_bind hM
          refine m_getR (t := 0) (i := 3) (pc' := 62) R_q10 hq11 rfl rfl (own_word hw 41 rfl) d8_59 rfl ?_
          refine o_blk (pc' := 69) (st' := [(.int i4), (.int q9.2), (.ref (ad Z ca q11))]) (ls' := #[.val (.ref (ad Z ca r0)), .val (.int i1), .val (.ref (ad Z ca r2)), .val (.ref (ad Z ca r3)), .val (.int (i4 + (1 : Int32))), .val (.int q9.2), x6]) b8_62_69 rfl ?_
          obtain ⟨q12, hq12, hM⟩ := own_bind hM
          refine m_iast (pc' := 70) R_q10 hq12 d8_69 rfl ?_
          intro h_q12 R_q12
          refine o_blk (pc' := 71) (st' := [(.ref (ad Z ca r0))]) (ls' := #[.val (.ref (ad Z ca r0)), .val (.int i1), .val (.ref (ad Z ca r2)), .val (.ref (ad Z ca r3)), .val (.int (i4 + (1 : Int32))), .val (.int q9.2), x6]) b8_70_71 rfl ?_
          obtain ⟨q13, hq13, hM⟩ := own_bind hM
          refine m_getR (t := 0) (i := 1) (pc' := 74) R_q12 hq13 rfl rfl (own_word hw 22 rfl) d8_71 rfl ?_
          refine o_blk (pc' := 76) (st' := [(.int q9.2), (.ref (ad Z ca q13))]) (ls' := #[.val (.ref (ad Z ca r0)), .val (.int i1), .val (.ref (ad Z ca r2)), .val (.ref (ad Z ca r3)), .val (.int (i4 + (1 : Int32))), .val (.int q9.2), x6]) b8_74_76 rfl ?_
          obtain ⟨q14, hq14, hM⟩ := own_bind hM
          refine m_aald (pc' := 77) R_q12 hq14 d8_76 rfl ?_
          obtain ⟨q15, hq15, hM⟩ := own_bind hM
          refine m_len (pc' := 78) R_q12 hq15 d8_77 rfl ?_
          refine o_blk (pc' := 80) (st' := [(.int (q15 - (1 : Int32)))]) (ls' := #[.val (.ref (ad Z ca r0)), .val (.int i1), .val (.ref (ad Z ca r2)), .val (.ref (ad Z ca r3)), .val (.int (i4 + (1 : Int32))), .val (.int q9.2), x6]) b8_78_80 rfl ?_
          refine o_stP (pc' := 82) (st' := []) (ls' := #[.val (.ref (ad Z ca r0)), .val (.int i1), .val (.ref (ad Z ca r2)), .val (.ref (ad Z ca r3)), .val (.int (i4 + (1 : Int32))), .val (.int q9.2), .val (.int (q15 - (1 : Int32)))]) d8_80 rfl rfl (own_stI (x := x6) rfl p6) ?_
          exact ih_82 _ _ _ _ _ _ _  R_q12 hM
      · intro h H r2 r3 i4 i5 i6  R hM
        have hM : B_num_82 r0 i1 (L_num r0 i1 f) H r2 r3 i4 i5 i6 = some res := hM
        unfold B_num_82 at hM
        refine o_blk (pc' := 84) (st' := [(.int i6)]) (ls' := #[.val (.ref (ad Z ca r0)), .val (.int i1), .val (.ref (ad Z ca r2)), .val (.ref (ad Z ca r3)), .val (.int i4), .val (.int i5), .val (.int i6)]) b8_82_84 rfl ?_
        refine o_if (pc' := 112) (pc'' := 87) d8_84 (by decide) (by decide) rfl (fun (hc84_1 : i6 < 0) => ?_) (fun (hc84_1 : ¬ i6 < 0) => ?_)
        ·
          rw [if_pos hc84_1] at hM
          refine o_goto (pc' := 29) d8_112 (by decide) (by decide) ?_
          exact ih_29 _ _ _ _ _ _ (Pl.i _) _ (Pl.i _) R hM
        ·
          rw [if_neg hc84_1] at hM
          refine o_blk (pc' := 89) (st' := [(.ref (ad Z ca r0)), (.ref (ad Z ca r3))]) (ls' := #[.val (.ref (ad Z ca r0)), .val (.int i1), .val (.ref (ad Z ca r2)), .val (.ref (ad Z ca r3)), .val (.int i4), .val (.int i5), .val (.int i6)]) b8_87_89 rfl ?_
          obtain ⟨q2, hq2, hM⟩ := own_bind hM
          refine m_getR (t := 0) (i := 1) (pc' := 92) R hq2 rfl rfl (own_word hw 22 rfl) d8_89 rfl ?_
          refine o_blk (pc' := 94) (st' := [(.int i5), (.ref (ad Z ca q2)), (.ref (ad Z ca r3))]) (ls' := #[.val (.ref (ad Z ca r0)), .val (.int i1), .val (.ref (ad Z ca r2)), .val (.ref (ad Z ca r3)), .val (.int i4), .val (.int i5), .val (.int i6)]) b8_92_94 rfl ?_
          obtain ⟨q3, hq3, hM⟩ := own_bind hM
          refine m_aald (pc' := 95) R hq3 d8_94 rfl ?_
          refine o_blk (pc' := 97) (st' := [(.int i6), (.ref (ad Z ca q3)), (.ref (ad Z ca r3))]) (ls' := #[.val (.ref (ad Z ca r0)), .val (.int i1), .val (.ref (ad Z ca r2)), .val (.ref (ad Z ca r3)), .val (.int i4), .val (.int i5), .val (.int i6)]) b8_95_97 rfl ?_
          obtain ⟨q4, hq4, hM⟩ := own_bind hM
          refine m_iald (pc' := 98) R hq4 d8_97 rfl ?_
          obtain ⟨q5, hq5, hM⟩ := own_bind hM
          refine o_callS (W := 1) (argsL := [(.int q4)]) (rest := [(.ref (ad Z ca r3))]) (pc' := 101) (own_word hw 68 rfl) (own_word hw 69 rfl) (own_word hw 70 rfl) (own_word hw 71 rfl) (by decide) (fun hE => rm_vof l Z a0 hw ca K H q4 q5 h hE R hq5) d8_98 pd_6 rfl rfl rfl (Nat.le_of_eq rfl) (by decide) (by decide) (by decide) (by decide) rfl ?_
          rintro _ h_q5 ⟨rfl, R_q5⟩ hs_q5
          obtain ⟨hb6, hM⟩ := own_ite hM
          obtain ⟨q7, hq7, hM⟩ := own_bind hM
          refine o_callF (W := 0) (argsL := [(.ref (ad Z ca q5.2))]) (rest := []) (pc' := 106) (own_word hw 75 rfl) (own_word hw 76 rfl) (own_word hw 77 rfl) rfl (own_word hw 78 rfl) (own_word hw 79 rfl) (own_word hw 80 rfl) (own_word hw 81 rfl) (own_word hw 82 rfl) (own_word hw 83 rfl) (own_word hw 53 rfl) (by decide) (R_q5.exa (t := 1) hb6) (fun hE => rm_push l Z a0 hw ca K q5.1 r3 q5.2 q7 h_q5 hE R_q5 hq7) d8_101 pd_2 rfl rfl rfl (Nat.le_of_eq rfl) (by decide) (by decide) (by decide) (by decide) rfl ?_
          rintro _ h_q7 ⟨rfl, R_q7⟩ hs_q7
          refine o_blk (pc' := 109) (st' := []) (ls' := #[.val (.ref (ad Z ca r0)), .val (.int i1), .val (.ref (ad Z ca r2)), .val (.ref (ad Z ca r3)), .val (.int i4), .val (.int i5), .val (.int (i6 + (-1 : Int32)))]) b8_106_109 rfl ?_
          refine o_goto (pc' := 82) d8_109 (by decide) (by decide) ?_
          exact ih_82 _ _ _ _ _ _ _  R_q7 hM
      · intro h H r2 i4 x3 p3 x5 p5 x6 p6 R hM
        have hM : B_num_124 r0 i1 (L_num r0 i1 f) H r2 0 i4 0 0 = some res := hM
        unfold B_num_124 at hM
        refine o_blk (pc' := 126) (st' := [(.int i4)]) (ls' := #[.val (.ref (ad Z ca r0)), .val (.int i1), .val (.ref (ad Z ca r2)), x3, .val (.int i4), x5, x6]) b8_124_126 rfl ?_
        refine o_if (pc' := 209) (pc'' := 129) d8_126 (by decide) (by decide) rfl (fun (hc126_1 : i4 < 0) => ?_) (fun (hc126_1 : ¬ i4 < 0) => ?_)
        ·
          rw [if_pos hc126_1] at hM
          cases hM
          exact o_retV d8_209 (by decide) (by decide) rfl ⟨rfl, R⟩
        ·
          rw [if_neg hc126_1] at hM
          refine o_blk (pc' := 132) (st' := [(.int i4), (.ref (ad Z ca r2))]) (ls' := #[.val (.ref (ad Z ca r0)), .val (.int i1), .val (.ref (ad Z ca r2)), x3, .val (.int i4), x5, x6]) b8_129_132 rfl ?_
          obtain ⟨q2, hq2, hM⟩ := own_bind hM
          refine m_iald (pc' := 133) R hq2 d8_132 rfl ?_
          refine o_stP (pc' := 135) (st' := []) (ls' := #[.val (.ref (ad Z ca r0)), .val (.int i1), .val (.ref (ad Z ca r2)), x3, .val (.int i4), .val (.int q2), x6]) d8_133 rfl rfl (own_stI (x := x5) rfl p5) ?_
          refine o_blk (pc' := 136) (st' := [(.ref (ad Z ca r0))]) (ls' := #[.val (.ref (ad Z ca r0)), .val (.int i1), .val (.ref (ad Z ca r2)), x3, .val (.int i4), .val (.int q2), x6]) b8_135_136 rfl ?_
          obtain ⟨q3, hq3, hM⟩ := own_bind hM
          refine m_getR (t := 0) (i := 4) (pc' := 139) R hq3 rfl rfl (own_word hw 43 rfl) d8_136 rfl ?_
          refine o_blk (pc' := 142) (st' := [(.ref (ad Z ca r0)), (.int q2), (.ref (ad Z ca q3))]) (ls' := #[.val (.ref (ad Z ca r0)), .val (.int i1), .val (.ref (ad Z ca r2)), x3, .val (.int i4), .val (.int q2), x6]) b8_139_142 rfl ?_
          obtain ⟨q4, hq4, hM⟩ := own_bind hM
          refine m_getR (t := 0) (i := 4) (pc' := 145) R hq4 rfl rfl (own_word hw 43 rfl) d8_142 rfl ?_
          refine o_blk (pc' := 147) (st' := [(.int q2), (.ref (ad Z ca q4)), (.int q2), (.ref (ad Z ca q3))]) (ls' := #[.val (.ref (ad Z ca r0)), .val (.int i1), .val (.ref (ad Z ca r2)), x3, .val (.int i4), .val (.int q2), x6]) b8_145_147 rfl ?_
          obtain ⟨q5, hq5, hM⟩ := own_bind hM
          refine m_iald (pc' := 148) R hq5 d8_147 rfl ?_
          refine o_blk (pc' := 149) (st' := [(.ref (ad Z ca r0)), (.int q5), (.int q2), (.ref (ad Z ca q3))]) (ls' := #[.val (.ref (ad Z ca r0)), .val (.int i1), .val (.ref (ad Z ca r2)), x3, .val (.int i4), .val (.int q2), x6]) b8_148_149 rfl ?_
          obtain ⟨q6, hq6, hM⟩ := own_bind hM
          refine m_getR (t := 0) (i := 3) (pc' := 152) R hq6 rfl rfl (own_word hw 41 rfl) d8_149 rfl ?_
          refine o_blk (pc' := 154) (st' := [(.int q2), (.ref (ad Z ca q6)), (.int q5), (.int q2), (.ref (ad Z ca q3))]) (ls' := #[.val (.ref (ad Z ca r0)), .val (.int i1), .val (.ref (ad Z ca r2)), x3, .val (.int i4), .val (.int q2), x6]) b8_152_154 rfl ?_
          obtain ⟨q7, hq7, hM⟩ := own_bind hM
          refine m_iald (pc' := 155) R hq7 d8_154 rfl ?_
          obtain ⟨q8, hq8, hM⟩ := own_bind hM
          refine o_callS (W := 2) (argsL := [(.int q5), (.int q7)]) (rest := [(.int q2), (.ref (ad Z ca q3))]) (pc' := 158) (own_word hw 138 rfl) (own_word hw 139 rfl) (own_word hw 33 rfl) (own_word hw 140 rfl) (by decide) (fun hE => rm_max l Z a0 hw ca K H q5 q7 q8 h hE R hq8) d8_155 pd_1 rfl rfl rfl (Nat.le_of_eq rfl) (by decide) (by decide) (by decide) (by decide) rfl ?_
          rintro _ h_q8 ⟨rfl, R_q8⟩ hs_q8
          obtain ⟨q9, hq9, hM⟩ := own_bind hM
          refine m_iast (pc' := 159) R_q8 hq9 d8_158 rfl ?_
          intro h_q9 R_q9
          refine o_blk (pc' := 160) (st' := [(.ref (ad Z ca r0))]) (ls' := #[.val (.ref (ad Z ca r0)), .val (.int i1), .val (.ref (ad Z ca r2)), x3, .val (.int i4), .val (.int q2), x6]) b8_159_160 rfl ?_
          obtain ⟨q10, hq10, hM⟩ := own_bind hM
          refine m_getR (t := 0) (i := 0) (pc' := 163) R_q9 hq10 rfl rfl (own_word hw 14 rfl) d8_160 rfl ?_
          refine o_blk (pc' := 165) (st' := [(.int q2), (.ref (ad Z ca q10))]) (ls' := #[.val (.ref (ad Z ca r0)), .val (.int i1), .val (.ref (ad Z ca r2)), x3, .val (.int i4), .val (.int q2), x6]) b8_163_165 rfl ?_
          obtain ⟨q11, hq11, hM⟩ := own_bind hM
          refine m_iald (pc' := 166) R_q9 hq11 d8_165 rfl ?_
          refine o_if (pc' := 203) (pc'' := 169) d8_166 (by decide) (by decide) rfl (fun (hc166_12 : q11 < 0) => ?_) (fun (hc166_12 : ¬ q11 < 0) => ?_)
          ·
            rw [if_pos hc166_12] at hM
            refine o_blk (pc' := 206) (st' := []) (ls' := #[.val (.ref (ad Z ca r0)), .val (.int i1), .val (.ref (ad Z ca r2)), x3, .val (.int (i4 + (-1 : Int32))), .val (.int q2), x6]) b8_203_206 rfl ?_
            refine o_goto (pc' := 124) d8_206 (by decide) (by decide) ?_
            exact ih_124 _ _ _ _ _ p3 _ (Pl.i _) _ p6 R_q9 hM
          ·
            rw [if_neg hc166_12] at hM
            refine o_blk (pc' := 170) (st' := [(.ref (ad Z ca r0))]) (ls' := #[.val (.ref (ad Z ca r0)), .val (.int i1), .val (.ref (ad Z ca r2)), x3, .val (.int i4), .val (.int q2), x6]) b8_169_170 rfl ?_
            obtain ⟨q13, hq13, hM⟩ := own_bind hM
            refine m_getR (t := 0) (i := 4) (pc' := 173) R_q9 hq13 rfl rfl (own_word hw 43 rfl) d8_170 rfl ?_
            refine o_blk (pc' := 174) (st' := [(.ref (ad Z ca r0)), (.ref (ad Z ca q13))]) (ls' := #[.val (.ref (ad Z ca r0)), .val (.int i1), .val (.ref (ad Z ca r2)), x3, .val (.int i4), .val (.int q2), x6]) b8_173_174 rfl ?_
            obtain ⟨q14, hq14, hM⟩ := own_bind hM
            refine m_getR (t := 0) (i := 0) (pc' := 177) R_q9 hq14 rfl rfl (own_word hw 14 rfl) d8_174 rfl ?_
            refine o_blk (pc' := 179) (st' := [(.int q2), (.ref (ad Z ca q14)), (.ref (ad Z ca q13))]) (ls' := #[.val (.ref (ad Z ca r0)), .val (.int i1), .val (.ref (ad Z ca r2)), x3, .val (.int i4), .val (.int q2), x6]) b8_177_179 rfl ?_
            obtain ⟨q15, hq15, hM⟩ := own_bind hM
            refine m_iald (pc' := 180) R_q9 hq15 d8_179 rfl ?_
            refine o_blk (pc' := 181) (st' := [(.ref (ad Z ca r0)), (.int q15), (.ref (ad Z ca q13))]) (ls' := #[.val (.ref (ad Z ca r0)), .val (.int i1), .val (.ref (ad Z ca r2)), x3, .val (.int i4), .val (.int q2), x6]) b8_180_181 rfl ?_
            obtain ⟨q16, hq16, hM⟩ := own_bind hM
            refine m_getR (t := 0) (i := 4) (pc' := 184) R_q9 hq16 rfl rfl (own_word hw 43 rfl) d8_181 rfl ?_
            refine o_blk (pc' := 185) (st' := [(.ref (ad Z ca r0)), (.ref (ad Z ca q16)), (.int q15), (.ref (ad Z ca q13))]) (ls' := #[.val (.ref (ad Z ca r0)), .val (.int i1), .val (.ref (ad Z ca r2)), x3, .val (.int i4), .val (.int q2), x6]) b8_184_185 rfl ?_
            obtain ⟨q17, hq17, hM⟩ := own_bind hM
            refine m_getR (t := 0) (i := 0) (pc' := 188) R_q9 hq17 rfl rfl (own_word hw 14 rfl) d8_185 rfl ?_
            refine o_blk (pc' := 190) (st' := [(.int q2), (.ref (ad Z ca q17)), (.ref (ad Z ca q16)), (.int q15), (.ref (ad Z ca q13))]) (ls' := #[.val (.ref (ad Z ca r0)), .val (.int i1), .val (.ref (ad Z ca r2)), x3, .val (.int i4), .val (.int q2), x6]) b8_188_190 rfl ?_
            obtain ⟨q18, hq18, hM⟩ := own_bind hM
            refine m_iald (pc' := 191) R_q9 hq18 d8_190 rfl ?_
            obtain ⟨q19, hq19, hM⟩ := own_bind hM
            refine m_iald (pc' := 192) R_q9 hq19 d8_191 rfl ?_
            refine o_blk (pc' := 193) (st' := [(.ref (ad Z ca r0)), (.int q19), (.int q15), (.ref (ad Z ca q13))]) (ls' := #[.val (.ref (ad Z ca r0)), .val (.int i1), .val (.ref (ad Z ca r2)), x3, .val (.int i4), .val (.int q2), x6]) b8_192_193 rfl ?_
            obtain ⟨q20, hq20, hM⟩ := own_bind hM
            refine m_getR (t := 0) (i := 4) (pc' := 196) R_q9 hq20 rfl rfl (own_word hw 43 rfl) d8_193 rfl ?_
            refine o_blk (pc' := 198) (st' := [(.int q2), (.ref (ad Z ca q20)), (.int q19), (.int q15), (.ref (ad Z ca q13))]) (ls' := #[.val (.ref (ad Z ca r0)), .val (.int i1), .val (.ref (ad Z ca r2)), x3, .val (.int i4), .val (.int q2), x6]) b8_196_198 rfl ?_
            obtain ⟨q21, hq21, hM⟩ := own_bind hM
            refine m_iald (pc' := 199) R_q9 hq21 d8_198 rfl ?_
            obtain ⟨q22, hq22, hM⟩ := own_bind hM
            refine o_callS (W := 2) (argsL := [(.int q19), (.int q21)]) (rest := [(.int q15), (.ref (ad Z ca q13))]) (pc' := 202) (own_word hw 138 rfl) (own_word hw 139 rfl) (own_word hw 33 rfl) (own_word hw 140 rfl) (by decide) (fun hE => rm_max l Z a0 hw ca K q9 q19 q21 q22 h_q9 hE R_q9 hq22) d8_199 pd_1 rfl rfl rfl (Nat.le_of_eq rfl) (by decide) (by decide) (by decide) (by decide) rfl ?_
            rintro _ h_q22 ⟨rfl, R_q22⟩ hs_q22
            obtain ⟨q23, hq23, hM⟩ := own_bind hM
            refine m_iast (pc' := 203) R_q22 hq23 d8_202 rfl ?_
            intro h_q23 R_q23
            refine o_blk (pc' := 206) (st' := []) (ls' := #[.val (.ref (ad Z ca r0)), .val (.int i1), .val (.ref (ad Z ca r2)), x3, .val (.int (i4 + (-1 : Int32))), .val (.int q2), x6]) b8_203_206 rfl ?_
            refine o_goto (pc' := 124) d8_206 (by decide) (by decide) ?_
            exact ih_124 _ _ _ _ _ p3 _ (Pl.i _) _ p6 R_q23 hM
  unfold M_num at hM
  refine o_blk (pc' := 1) (st' := [(.ref (ad Z ca r0))]) (ls' := #[.val (.ref (ad Z ca r0)), .val (.int i1), .unset, .unset, .unset, .unset, .unset]) b8_0_1 rfl ?_
  obtain ⟨q1, hq1, hM⟩ := own_bind hM
  refine m_getR (t := 0) (i := 0) (pc' := 4) R0 hq1 rfl rfl (own_word hw 14 rfl) d8_1 rfl ?_
  obtain ⟨q2, hq2, hM⟩ := own_bind hM
  refine m_len (pc' := 5) R0 hq2 d8_4 rfl ?_
  obtain ⟨q3, hq3, hM⟩ := own_bind hM
  refine m_newI (pc' := 7) R0 (own_word hw 0 rfl) hq3 d8_5 (by decide) (by decide) rfl ?_
  intro h_q3 R_q3
  refine o_blk (pc' := 8) (st' := []) (ls' := #[.val (.ref (ad Z ca r0)), .val (.int i1), .val (.ref (ad Z ca q3.2)), .unset, .unset, .unset, .unset]) b8_7_8 rfl ?_
  obtain ⟨q4, hq4, hM⟩ := own_bind hM
  refine m_newO (t := 1) (ni := 2) (nr := 1) (pc' := 11) R_q3 (own_lay5 hw) rfl (own_word hw 51 rfl) (own_word hw 52 rfl) (own_word hw 53 rfl) hq4 d8_8 (by decide) (by decide) rfl ?_
  intro h_q4 R_q4
  refine o_blk (pc' := 12) (st' := [(.ref (ad Z ca q4.2)), (.ref (ad Z ca q4.2))]) (ls' := #[.val (.ref (ad Z ca r0)), .val (.int i1), .val (.ref (ad Z ca q3.2)), .unset, .unset, .unset, .unset]) b8_11_12 rfl ?_
  obtain ⟨q5, hq5, hM⟩ := own_bind hM
  refine o_callI (W := 1) (argsL := []) (rest := [(.ref (ad Z ca q4.2))]) (pc' := 15) rfl (own_word hw 54 rfl) (own_word hw 55 rfl) (own_word hw 56 rfl) (own_word hw 53 rfl) (by decide) (fun hE => rm_deq l Z a0 hw ca K q4.1 q4.2 q5 h_q4 hE R_q4 hq5) d8_12 pd_0 rfl rfl rfl (Nat.le_of_eq rfl) (by decide) (by decide) (by decide) (by decide) rfl ?_
  rintro _ h_q5 ⟨rfl, R_q5⟩ hs_q5
  refine o_blk (pc' := 16) (st' := []) (ls' := #[.val (.ref (ad Z ca r0)), .val (.int i1), .val (.ref (ad Z ca q3.2)), .val (.ref (ad Z ca q4.2)), .unset, .unset, .unset]) b8_15_16 rfl ?_
  refine o_blk (pc' := 19) (st' := []) (ls' := #[.val (.ref (ad Z ca r0)), .val (.int i1), .val (.ref (ad Z ca q3.2)), .val (.ref (ad Z ca q4.2)), .val (.int (0 : Int32)), .unset, .unset]) b8_16_19 rfl ?_
  refine o_blk (pc' := 21) (st' := [(.int i1), (.ref (ad Z ca q4.2))]) (ls' := #[.val (.ref (ad Z ca r0)), .val (.int i1), .val (.ref (ad Z ca q3.2)), .val (.ref (ad Z ca q4.2)), .val (.int (0 : Int32)), .unset, .unset]) b8_19_21 rfl ?_
  obtain ⟨q6, hq6, hM⟩ := own_bind hM
  refine o_callS (W := 1) (argsL := [(.int i1)]) (rest := [(.ref (ad Z ca q4.2))]) (pc' := 24) (own_word hw 68 rfl) (own_word hw 69 rfl) (own_word hw 70 rfl) (own_word hw 71 rfl) (by decide) (fun hE => rm_vof l Z a0 hw ca K q5.1 i1 q6 h_q5 hE R_q5 hq6) d8_21 pd_6 rfl rfl rfl (Nat.le_of_eq rfl) (by decide) (by decide) (by decide) (by decide) rfl ?_
  rintro _ h_q6 ⟨rfl, R_q6⟩ hs_q6
  obtain ⟨hb7, hM⟩ := own_ite hM
  obtain ⟨q8, hq8, hM⟩ := own_bind hM
  refine o_callF (W := 0) (argsL := [(.ref (ad Z ca q6.2))]) (rest := []) (pc' := 29) (own_word hw 75 rfl) (own_word hw 76 rfl) (own_word hw 77 rfl) rfl (own_word hw 78 rfl) (own_word hw 79 rfl) (own_word hw 80 rfl) (own_word hw 81 rfl) (own_word hw 82 rfl) (own_word hw 83 rfl) (own_word hw 53 rfl) (by decide) (R_q6.exa (t := 1) hb7) (fun hE => rm_push l Z a0 hw ca K q6.1 q4.2 q6.2 q8 h_q6 hE R_q6 hq8) d8_24 pd_2 rfl rfl rfl (Nat.le_of_eq rfl) (by decide) (by decide) (by decide) (by decide) rfl ?_
  rintro _ h_q8 ⟨rfl, R_q8⟩ hs_q8
  exact (LP 90).1 _ _ _ _ _ _ Pl.u _ Pl.u R_q8 hM
def B_rea_19 (r0 : Nat) (i1 : Int32) (r2 : Nat) (r3 : Nat) (r4 : Nat) (rec : Nat → List AO → Int32 → Int32 → Int32 → Nat → Int32 → Int32 → Option (List AO × Int32)) (H : List AO) (i5 : Int32) (i6 : Int32) (i7 : Int32) (r8 : Nat) (i9 : Int32) (i10 : Int32) : Option (List AO × Int32) :=
  if i6 < i5 then ( (ilo 0 H r3 i6).bind fun q2 => (gfr 4 H r0 2).bind fun q3 => (rlo H q3 q2).bind fun q4 => (aln H q4).bind fun q5 => rec 49 H i5 i6 q2 q4 q5 (0 : Int32) ) else ( some (H, i5) )
def B_rea_49 (r0 : Nat) (i1 : Int32) (r2 : Nat) (r3 : Nat) (r4 : Nat) (rec : Nat → List AO → Int32 → Int32 → Int32 → Nat → Int32 → Int32 → Option (List AO × Int32)) (H : List AO) (i5 : Int32) (i6 : Int32) (i7 : Int32) (r8 : Nat) (i9 : Int32) (i10 : Int32) : Option (List AO × Int32) :=
  if i10 < i9 then ( (ilo 0 H r8 i10).bind fun q2 => (ilo 1 H r2 q2).bind fun q3 => if q3 = 0 then ( (ilo 0 H r4 i7).bind fun q5 => if q2 = q5 then ( rec 49 H i5 i6 i7 r8 i9 (i10 + (1 : Int32)) ) else ( (ist 0 H r4 q2 i7).bind fun q7 => (ist 0 q7 r3 i5 q2).bind fun q8 => rec 49 q8 (i5 + (1 : Int32)) i6 i7 r8 i9 (i10 + (1 : Int32)) ) ) else ( rec 49 H i5 i6 i7 r8 i9 (i10 + (1 : Int32)) ) ) else ( rec 19 H i5 (i6 + (1 : Int32)) 0 0 0 0 )
def L_rea (r0 : Nat) (i1 : Int32) (r2 : Nat) (r3 : Nat) (r4 : Nat) : Nat → Nat → List AO → Int32 → Int32 → Int32 → Nat → Int32 → Int32 → Option (List AO × Int32)
  | 0 => fun _ _ _ _ _ _ _ _ => none
  | f + 1 => fun hd H i5 i6 i7 r8 i9 i10 => if hd = 19 then B_rea_19 r0 i1 r2 r3 r4 (L_rea r0 i1 r2 r3 r4 f) H i5 i6 i7 r8 i9 i10 else if hd = 49 then B_rea_49 r0 i1 r2 r3 r4 (L_rea r0 i1 r2 r3 r4 f) H i5 i6 i7 r8 i9 i10 else none
def M_rea (H : List AO) (r0 : Nat) (i1 : Int32) (r2 : Nat) (r3 : Nat) (r4 : Nat) : Option (List AO × Int32) :=
  (ist 0 H r3 (0 : Int32) i1).bind fun q1 => (ist 0 q1 r4 i1 (-1 : Int32)).bind fun q2 => L_rea r0 i1 r2 r3 r4 90 19 q2 (1 : Int32) (0 : Int32) 0 0 0 0
set_option maxRecDepth 65536 in
set_option maxHeartbeats 40000000 in
theorem rm_rea (l : Launch) (Z : State) (a0 : Array Value) (hw : ∀ d ∈ tables_1, d.before a0 Z = true) (ca : Nat → Addr) (K : OKa Z ca) (H : List AO) (r0 : Nat) (i1 : Int32) (r2 : Nat) (r3 : Nat) (r4 : Nat) (res : List AO × Int32) (h0 : Heap) (hE0 : Ext Z.heap h0) (R0 : Rep Z ca h0 H)  (hM : M_rea H r0 i1 r2 r3 r4 = some res) :
    OCtr l Z (⟨"com/example/mild_horn/mildhorn/translation/Centroids", "reach", "(I[Z[I[I)I"⟩ : MethodName) prog_40_method_9_code 12 (some .int) ({ frames := 0, cells := 0, slots := 0, locals := 0 } : Room) #[(.ref (ad Z ca r0)), (.int i1), (.ref (ad Z ca r2)), (.ref (ad Z ca r3)), (.ref (ad Z ca r4))] h0 (fun v h => v = some (.int res.2) ∧ Rep Z ca h res.1) := by
  refine o_bodyS (ls0 := #[.val (.ref (ad Z ca r0)), .val (.int i1), .val (.ref (ad Z ca r2)), .val (.ref (ad Z ca r3)), .val (.ref (ad Z ca r4)), .unset, .unset, .unset, .unset, .unset, .unset, .unset]) (plainFor_of_name pn_4) hE0 (fun m => by first | (simp [entryFrame, mkF, argsToLocals, Value.category]; done) | rfl) ?_
  intro pG eG sG mG bG meG cG hS0
  have LP : ∀ f : Nat, (∀ (h : Heap) (H : List AO) (i5 : Int32) (i6 : Int32) (x7 : Slot) (p7 : Pl x7) (x8 : Slot) (p8 : Pl x8) (x9 : Slot) (p9 : Pl x9) (x10 : Slot) (p10 : Pl x10) (x11 : Slot) (p11 : Pl x11) (R : Rep Z ca h H) (hM : L_rea r0 i1 r2 r3 r4 f 19 H i5 i6 0 0 0 0 = some res), OG pG l eG ({ frames := 0, cells := 0, slots := 0, locals := 0 } : Room) sG mG #[(.ref (ad Z ca r0)), (.int i1), (.ref (ad Z ca r2)), (.ref (ad Z ca r3)), (.ref (ad Z ca r4))] bG meG cG Z (⟨"com/example/mild_horn/mildhorn/translation/Centroids", "reach", "(I[Z[I[I)I"⟩ : MethodName).cls (⟨"com/example/mild_horn/mildhorn/translation/Centroids", "reach", "(I[Z[I[I)I"⟩ : MethodName).name prog_40_method_9_code 12 (some .int) (fun v h => v = some (.int res.2) ∧ Rep Z ca h res.1) ({ frames := 0, cells := 0, slots := 0, locals := 0 } : Room).cells ({ frames := 0, cells := 0, slots := 0, locals := 0 } : Room).slots h 0 0 (mkF mG 19 #[.val (.ref (ad Z ca r0)), .val (.int i1), .val (.ref (ad Z ca r2)), .val (.ref (ad Z ca r3)), .val (.ref (ad Z ca r4)), .val (.int i5), .val (.int i6), x7, x8, x9, x10, x11] [])) ∧ (∀ (h : Heap) (H : List AO) (i5 : Int32) (i6 : Int32) (i7 : Int32) (r8 : Nat) (i9 : Int32) (i10 : Int32) (x11 : Slot) (p11 : Pl x11) (R : Rep Z ca h H) (hM : L_rea r0 i1 r2 r3 r4 f 49 H i5 i6 i7 r8 i9 i10 = some res), OG pG l eG ({ frames := 0, cells := 0, slots := 0, locals := 0 } : Room) sG mG #[(.ref (ad Z ca r0)), (.int i1), (.ref (ad Z ca r2)), (.ref (ad Z ca r3)), (.ref (ad Z ca r4))] bG meG cG Z (⟨"com/example/mild_horn/mildhorn/translation/Centroids", "reach", "(I[Z[I[I)I"⟩ : MethodName).cls (⟨"com/example/mild_horn/mildhorn/translation/Centroids", "reach", "(I[Z[I[I)I"⟩ : MethodName).name prog_40_method_9_code 12 (some .int) (fun v h => v = some (.int res.2) ∧ Rep Z ca h res.1) ({ frames := 0, cells := 0, slots := 0, locals := 0 } : Room).cells ({ frames := 0, cells := 0, slots := 0, locals := 0 } : Room).slots h 0 0 (mkF mG 49 #[.val (.ref (ad Z ca r0)), .val (.int i1), .val (.ref (ad Z ca r2)), .val (.ref (ad Z ca r3)), .val (.ref (ad Z ca r4)), .val (.int i5), .val (.int i6), .val (.int i7), .val (.ref (ad Z ca r8)), .val (.int i9), .val (.int i10), x11] [])) := by
    intro f
    induction f with
    | zero =>
      refine ⟨?_, ?_⟩
      · intro h H i5 i6 x7 p7 x8 p8 x9 p9 x10 p10 x11 p11 R hM
        first | exact nomatch hM | (simp [L_rea] at hM; done)
      · intro h H i5 i6 i7 r8 i9 i10 x11 p11 R hM
        first | exact nomatch hM | (simp [L_rea] at hM; done)
    | succ f ih =>
      obtain ⟨ih_19, ih_49⟩ := ih
      refine ⟨?_, ?_⟩
      · intro h H i5 i6 x7 p7 x8 p8 x9 p9 x10 p10 x11 p11 R hM
        have hM : B_rea_19 r0 i1 r2 r3 r4 (L_rea r0 i1 r2 r3 r4 f) H i5 i6 0 0 0 0 = some res := hM
        unfold B_rea_19 at hM
        refine o_blk (pc' := 23) (st' := [(.int i5), (.int i6)]) (ls' := #[.val (.ref (ad Z ca r0)), .val (.int i1), .val (.ref (ad Z ca r2)), .val (.ref (ad Z ca r3)), .val (.ref (ad Z ca r4)), .val (.int i5), .val (.int i6), x7, x8, x9, x10, x11]) b24_19_23 rfl ?_
        refine o_ic (pc' := 108) (pc'' := 26) d24_23 (by decide) (by decide) rfl (fun (hc23_1 : ¬ i6 < i5) => ?_) (fun (hc23_1 : i6 < i5) => ?_)
        ·
          rw [if_neg hc23_1] at hM
          refine o_blk (pc' := 110) (st' := [(.int i5)]) (ls' := #[.val (.ref (ad Z ca r0)), .val (.int i1), .val (.ref (ad Z ca r2)), .val (.ref (ad Z ca r3)), .val (.ref (ad Z ca r4)), .val (.int i5), .val (.int i6), x7, x8, x9, x10, x11]) b24_108_110 rfl ?_
          cases hM
          exact o_retI d24_110 (by decide) (by decide) rfl ⟨rfl, R⟩
        ·
          rw [if_pos hc23_1] at hM
          refine o_blk (pc' := 29) (st' := [(.int i6), (.ref (ad Z ca r3))]) (ls' := #[.val (.ref (ad Z ca r0)), .val (.int i1), .val (.ref (ad Z ca r2)), .val (.ref (ad Z ca r3)), .val (.ref (ad Z ca r4)), .val (.int i5), .val (.int i6), x7, x8, x9, x10, x11]) b24_26_29 rfl ?_
          obtain ⟨q2, hq2, hM⟩ := own_bind hM
          refine m_iald (pc' := 30) R hq2 d24_29 rfl ?_
          refine o_stP (pc' := 32) (st' := []) (ls' := #[.val (.ref (ad Z ca r0)), .val (.int i1), .val (.ref (ad Z ca r2)), .val (.ref (ad Z ca r3)), .val (.ref (ad Z ca r4)), .val (.int i5), .val (.int i6), .val (.int q2), x8, x9, x10, x11]) d24_30 rfl rfl (own_stI (x := x7) rfl p7) ?_
          refine o_blk (pc' := 33) (st' := [(.ref (ad Z ca r0))]) (ls' := #[.val (.ref (ad Z ca r0)), .val (.int i1), .val (.ref (ad Z ca r2)), .val (.ref (ad Z ca r3)), .val (.ref (ad Z ca r4)), .val (.int i5), .val (.int i6), .val (.int q2), x8, x9, x10, x11]) b24_32_33 rfl ?_
          obtain ⟨q3, hq3, hM⟩ := own_bind hM
          refine m_getR (t := 0) (i := 2) (pc' := 36) R hq3 rfl rfl (own_word hw 39 rfl) d24_33 rfl ?_
          refine o_blk (pc' := 38) (st' := [(.int q2), (.ref (ad Z ca q3))]) (ls' := #[.val (.ref (ad Z ca r0)), .val (.int i1), .val (.ref (ad Z ca r2)), .val (.ref (ad Z ca r3)), .val (.ref (ad Z ca r4)), .val (.int i5), .val (.int i6), .val (.int q2), x8, x9, x10, x11]) b24_36_38 rfl ?_
          obtain ⟨q4, hq4, hM⟩ := own_bind hM
          refine m_aald (pc' := 39) R hq4 d24_38 rfl ?_
          refine o_stP (pc' := 41) (st' := []) (ls' := #[.val (.ref (ad Z ca r0)), .val (.int i1), .val (.ref (ad Z ca r2)), .val (.ref (ad Z ca r3)), .val (.ref (ad Z ca r4)), .val (.int i5), .val (.int i6), .val (.int q2), .val (.ref (ad Z ca q4)), x9, x10, x11]) d24_39 rfl rfl (own_stA (x := x8) rfl p8) ?_
          refine o_blk (pc' := 43) (st' := [(.ref (ad Z ca q4))]) (ls' := #[.val (.ref (ad Z ca r0)), .val (.int i1), .val (.ref (ad Z ca r2)), .val (.ref (ad Z ca r3)), .val (.ref (ad Z ca r4)), .val (.int i5), .val (.int i6), .val (.int q2), .val (.ref (ad Z ca q4)), x9, x10, x11]) b24_41_43 rfl ?_
          obtain ⟨q5, hq5, hM⟩ := own_bind hM
          refine m_len (pc' := 44) R hq5 d24_43 rfl ?_
          refine o_stP (pc' := 46) (st' := []) (ls' := #[.val (.ref (ad Z ca r0)), .val (.int i1), .val (.ref (ad Z ca r2)), .val (.ref (ad Z ca r3)), .val (.ref (ad Z ca r4)), .val (.int i5), .val (.int i6), .val (.int q2), .val (.ref (ad Z ca q4)), .val (.int q5), x10, x11]) d24_44 rfl rfl (own_stI (x := x9) rfl p9) ?_
          refine o_blk (pc' := 47) (st' := [(.int (0 : Int32))]) (ls' := #[.val (.ref (ad Z ca r0)), .val (.int i1), .val (.ref (ad Z ca r2)), .val (.ref (ad Z ca r3)), .val (.ref (ad Z ca r4)), .val (.int i5), .val (.int i6), .val (.int q2), .val (.ref (ad Z ca q4)), .val (.int q5), x10, x11]) b24_46_47 rfl ?_
          refine o_stP (pc' := 49) (st' := []) (ls' := #[.val (.ref (ad Z ca r0)), .val (.int i1), .val (.ref (ad Z ca r2)), .val (.ref (ad Z ca r3)), .val (.ref (ad Z ca r4)), .val (.int i5), .val (.int i6), .val (.int q2), .val (.ref (ad Z ca q4)), .val (.int q5), .val (.int (0 : Int32)), x11]) d24_47 rfl rfl (own_stI (x := x10) rfl p10) ?_
          exact ih_49 _ _ _ _ _ _ _ _ _ p11 R hM
      · intro h H i5 i6 i7 r8 i9 i10 x11 p11 R hM
        have hM : B_rea_49 r0 i1 r2 r3 r4 (L_rea r0 i1 r2 r3 r4 f) H i5 i6 i7 r8 i9 i10 = some res := hM
        unfold B_rea_49 at hM
        refine o_blk (pc' := 53) (st' := [(.int i9), (.int i10)]) (ls' := #[.val (.ref (ad Z ca r0)), .val (.int i1), .val (.ref (ad Z ca r2)), .val (.ref (ad Z ca r3)), .val (.ref (ad Z ca r4)), .val (.int i5), .val (.int i6), .val (.int i7), .val (.ref (ad Z ca r8)), .val (.int i9), .val (.int i10), x11]) b24_49_53 rfl ?_
        refine o_ic (pc' := 102) (pc'' := 56) d24_53 (by decide) (by decide) rfl (fun (hc53_1 : ¬ i10 < i9) => ?_) (fun (hc53_1 : i10 < i9) => ?_)
        ·
          rw [if_neg hc53_1] at hM
          refine o_blk (pc' := 105) (st' := []) (ls' := #[.val (.ref (ad Z ca r0)), .val (.int i1), .val (.ref (ad Z ca r2)), .val (.ref (ad Z ca r3)), .val (.ref (ad Z ca r4)), .val (.int i5), .val (.int (i6 + (1 : Int32))), .val (.int i7), .val (.ref (ad Z ca r8)), .val (.int i9), .val (.int i10), x11]) b24_102_105 rfl ?_
          refine o_goto (pc' := 19) d24_105 (by decide) (by decide) ?_
          exact ih_19 _ _ _ _ _ (Pl.i _) _ (Pl.r _) _ (Pl.i _) _ (Pl.i _) _ p11 R hM
        ·
          rw [if_pos hc53_1] at hM
          refine o_blk (pc' := 60) (st' := [(.int i10), (.ref (ad Z ca r8))]) (ls' := #[.val (.ref (ad Z ca r0)), .val (.int i1), .val (.ref (ad Z ca r2)), .val (.ref (ad Z ca r3)), .val (.ref (ad Z ca r4)), .val (.int i5), .val (.int i6), .val (.int i7), .val (.ref (ad Z ca r8)), .val (.int i9), .val (.int i10), x11]) b24_56_60 rfl ?_
          obtain ⟨q2, hq2, hM⟩ := own_bind hM
          refine m_iald (pc' := 61) R hq2 d24_60 rfl ?_
          refine o_stP (pc' := 63) (st' := []) (ls' := #[.val (.ref (ad Z ca r0)), .val (.int i1), .val (.ref (ad Z ca r2)), .val (.ref (ad Z ca r3)), .val (.ref (ad Z ca r4)), .val (.int i5), .val (.int i6), .val (.int i7), .val (.ref (ad Z ca r8)), .val (.int i9), .val (.int i10), .val (.int q2)]) d24_61 rfl rfl (own_stI (x := x11) rfl p11) ?_
          refine o_blk (pc' := 66) (st' := [(.int q2), (.ref (ad Z ca r2))]) (ls' := #[.val (.ref (ad Z ca r0)), .val (.int i1), .val (.ref (ad Z ca r2)), .val (.ref (ad Z ca r3)), .val (.ref (ad Z ca r4)), .val (.int i5), .val (.int i6), .val (.int i7), .val (.ref (ad Z ca r8)), .val (.int i9), .val (.int i10), .val (.int q2)]) b24_63_66 rfl ?_
          obtain ⟨q3, hq3, hM⟩ := own_bind hM
          refine m_zald (pc' := 67) R hq3 d24_66 rfl ?_
          refine o_if (pc' := 96) (pc'' := 70) d24_67 (by decide) (by decide) rfl (fun (hc67_4 : ¬ q3 = 0) => ?_) (fun (hc67_4 : q3 = 0) => ?_)
          ·
            rw [if_neg hc67_4] at hM
            refine o_blk (pc' := 99) (st' := []) (ls' := #[.val (.ref (ad Z ca r0)), .val (.int i1), .val (.ref (ad Z ca r2)), .val (.ref (ad Z ca r3)), .val (.ref (ad Z ca r4)), .val (.int i5), .val (.int i6), .val (.int i7), .val (.ref (ad Z ca r8)), .val (.int i9), .val (.int (i10 + (1 : Int32))), .val (.int q2)]) b24_96_99 rfl ?_
            refine o_goto (pc' := 49) d24_99 (by decide) (by decide) ?_
            exact ih_49 _ _ _ _ _ _ _ _ _ (Pl.i _) R hM
          ·
            rw [if_pos hc67_4] at hM
            refine o_blk (pc' := 76) (st' := [(.int i7), (.ref (ad Z ca r4)), (.int q2)]) (ls' := #[.val (.ref (ad Z ca r0)), .val (.int i1), .val (.ref (ad Z ca r2)), .val (.ref (ad Z ca r3)), .val (.ref (ad Z ca r4)), .val (.int i5), .val (.int i6), .val (.int i7), .val (.ref (ad Z ca r8)), .val (.int i9), .val (.int i10), .val (.int q2)]) b24_70_76 rfl ?_
            obtain ⟨q5, hq5, hM⟩ := own_bind hM
            refine m_iald (pc' := 77) R hq5 d24_76 rfl ?_
            refine o_ic (pc' := 96) (pc'' := 80) d24_77 (by decide) (by decide) rfl (fun (hc77_6 : q2 = q5) => ?_) (fun (hc77_6 : ¬ q2 = q5) => ?_)
            ·
              rw [if_pos hc77_6] at hM
              refine o_blk (pc' := 99) (st' := []) (ls' := #[.val (.ref (ad Z ca r0)), .val (.int i1), .val (.ref (ad Z ca r2)), .val (.ref (ad Z ca r3)), .val (.ref (ad Z ca r4)), .val (.int i5), .val (.int i6), .val (.int i7), .val (.ref (ad Z ca r8)), .val (.int i9), .val (.int (i10 + (1 : Int32))), .val (.int q2)]) b24_96_99 rfl ?_
              refine o_goto (pc' := 49) d24_99 (by decide) (by decide) ?_
              exact ih_49 _ _ _ _ _ _ _ _ _ (Pl.i _) R hM
            ·
              rw [if_neg hc77_6] at hM
              refine o_blk (pc' := 86) (st' := [(.int i7), (.int q2), (.ref (ad Z ca r4))]) (ls' := #[.val (.ref (ad Z ca r0)), .val (.int i1), .val (.ref (ad Z ca r2)), .val (.ref (ad Z ca r3)), .val (.ref (ad Z ca r4)), .val (.int i5), .val (.int i6), .val (.int i7), .val (.ref (ad Z ca r8)), .val (.int i9), .val (.int i10), .val (.int q2)]) b24_80_86 rfl ?_
              obtain ⟨q7, hq7, hM⟩ := own_bind hM
              refine m_iast (pc' := 87) R hq7 d24_86 rfl ?_
              intro h_q7 R_q7
              refine o_blk (pc' := 93) (st' := [(.int i5), (.ref (ad Z ca r3))]) (ls' := #[.val (.ref (ad Z ca r0)), .val (.int i1), .val (.ref (ad Z ca r2)), .val (.ref (ad Z ca r3)), .val (.ref (ad Z ca r4)), .val (.int (i5 + (1 : Int32))), .val (.int i6), .val (.int i7), .val (.ref (ad Z ca r8)), .val (.int i9), .val (.int i10), .val (.int q2)]) b24_87_93 rfl ?_
              refine o_blk (pc' := 95) (st' := [(.int q2), (.int i5), (.ref (ad Z ca r3))]) (ls' := #[.val (.ref (ad Z ca r0)), .val (.int i1), .val (.ref (ad Z ca r2)), .val (.ref (ad Z ca r3)), .val (.ref (ad Z ca r4)), .val (.int (i5 + (1 : Int32))), .val (.int i6), .val (.int i7), .val (.ref (ad Z ca r8)), .val (.int i9), .val (.int i10), .val (.int q2)]) b24_93_95 rfl ?_
              obtain ⟨q8, hq8, hM⟩ := own_bind hM
              refine m_iast (pc' := 96) R_q7 hq8 d24_95 rfl ?_
              intro h_q8 R_q8
              refine o_blk (pc' := 99) (st' := []) (ls' := #[.val (.ref (ad Z ca r0)), .val (.int i1), .val (.ref (ad Z ca r2)), .val (.ref (ad Z ca r3)), .val (.ref (ad Z ca r4)), .val (.int (i5 + (1 : Int32))), .val (.int i6), .val (.int i7), .val (.ref (ad Z ca r8)), .val (.int i9), .val (.int (i10 + (1 : Int32))), .val (.int q2)]) b24_96_99 rfl ?_
              refine o_goto (pc' := 49) d24_99 (by decide) (by decide) ?_
              exact ih_49 _ _ _ _ _ _ _ _ _ (Pl.i _) R_q8 hM
  unfold M_rea at hM
  refine o_blk (pc' := 3) (st' := []) (ls' := #[.val (.ref (ad Z ca r0)), .val (.int i1), .val (.ref (ad Z ca r2)), .val (.ref (ad Z ca r3)), .val (.ref (ad Z ca r4)), .val (.int (0 : Int32)), .unset, .unset, .unset, .unset, .unset, .unset]) b24_0_3 rfl ?_
  refine o_blk (pc' := 9) (st' := [(.int (0 : Int32)), (.ref (ad Z ca r3))]) (ls' := #[.val (.ref (ad Z ca r0)), .val (.int i1), .val (.ref (ad Z ca r2)), .val (.ref (ad Z ca r3)), .val (.ref (ad Z ca r4)), .val (.int (1 : Int32)), .unset, .unset, .unset, .unset, .unset, .unset]) b24_3_9 rfl ?_
  refine o_blk (pc' := 10) (st' := [(.int i1), (.int (0 : Int32)), (.ref (ad Z ca r3))]) (ls' := #[.val (.ref (ad Z ca r0)), .val (.int i1), .val (.ref (ad Z ca r2)), .val (.ref (ad Z ca r3)), .val (.ref (ad Z ca r4)), .val (.int (1 : Int32)), .unset, .unset, .unset, .unset, .unset, .unset]) b24_9_10 rfl ?_
  obtain ⟨q1, hq1, hM⟩ := own_bind hM
  refine m_iast (pc' := 11) R0 hq1 d24_10 rfl ?_
  intro h_q1 R_q1
  refine o_blk (pc' := 15) (st' := [(.int (-1 : Int32)), (.int i1), (.ref (ad Z ca r4))]) (ls' := #[.val (.ref (ad Z ca r0)), .val (.int i1), .val (.ref (ad Z ca r2)), .val (.ref (ad Z ca r3)), .val (.ref (ad Z ca r4)), .val (.int (1 : Int32)), .unset, .unset, .unset, .unset, .unset, .unset]) b24_11_15 rfl ?_
  obtain ⟨q2, hq2, hM⟩ := own_bind hM
  refine m_iast (pc' := 16) R_q1 hq2 d24_15 rfl ?_
  intro h_q2 R_q2
  refine o_blk (pc' := 19) (st' := []) (ls' := #[.val (.ref (ad Z ca r0)), .val (.int i1), .val (.ref (ad Z ca r2)), .val (.ref (ad Z ca r3)), .val (.ref (ad Z ca r4)), .val (.int (1 : Int32)), .val (.int (0 : Int32)), .unset, .unset, .unset, .unset, .unset]) b24_16_19 rfl ?_
  exact (LP 90).1 _ _ _ _ _ Pl.u _ Pl.u _ Pl.u _ Pl.u _ Pl.u R_q2 hM
def B_hea_6 (r0 : Nat) (i1 : Int32) (i2 : Int32) (r3 : Nat) (r4 : Nat) (r5 : Nat) (rec : Nat → List AO → Int32 → Int32 → Nat → Int32 → Int32 → Option (List AO × Int32)) (H : List AO) (i6 : Int32) (i7 : Int32) (r8 : Nat) (i9 : Int32) (i10 : Int32) : Option (List AO × Int32) :=
  if i7 = 0 then ( some (H, i6) ) else ( (gfr 4 H r0 2).bind fun q2 => (rlo H q2 i6).bind fun q3 => (aln H q3).bind fun q4 => rec 31 H i6 (0 : Int32) q3 q4 (0 : Int32) )
def B_hea_31 (r0 : Nat) (i1 : Int32) (i2 : Int32) (r3 : Nat) (r4 : Nat) (r5 : Nat) (rec : Nat → List AO → Int32 → Int32 → Nat → Int32 → Int32 → Option (List AO × Int32)) (H : List AO) (i6 : Int32) (i7 : Int32) (r8 : Nat) (i9 : Int32) (i10 : Int32) : Option (List AO × Int32) :=
  if i10 < i9 then ( (ilo 0 H r8 i10).bind fun q2 => (ilo 1 H r3 q2).bind fun q3 => if q3 = 0 then ( (ilo 0 H r4 q2).bind fun q5 => if q5 = i6 then ( (ilo 0 H r5 q2).bind fun q7 => if (i2 / (2 : Int32)) < q7 then ( rec 6 H q2 (1 : Int32) 0 0 0 ) else ( rec 31 H i6 i7 r8 i9 (i10 + (1 : Int32)) ) ) else ( rec 31 H i6 i7 r8 i9 (i10 + (1 : Int32)) ) ) else ( rec 31 H i6 i7 r8 i9 (i10 + (1 : Int32)) ) ) else ( rec 6 H i6 i7 0 0 0 )
def L_hea (r0 : Nat) (i1 : Int32) (i2 : Int32) (r3 : Nat) (r4 : Nat) (r5 : Nat) : Nat → Nat → List AO → Int32 → Int32 → Nat → Int32 → Int32 → Option (List AO × Int32)
  | 0 => fun _ _ _ _ _ _ _ => none
  | f + 1 => fun hd H i6 i7 r8 i9 i10 => if hd = 6 then B_hea_6 r0 i1 i2 r3 r4 r5 (L_hea r0 i1 i2 r3 r4 r5 f) H i6 i7 r8 i9 i10 else if hd = 31 then B_hea_31 r0 i1 i2 r3 r4 r5 (L_hea r0 i1 i2 r3 r4 r5 f) H i6 i7 r8 i9 i10 else none
def M_hea (H : List AO) (r0 : Nat) (i1 : Int32) (i2 : Int32) (r3 : Nat) (r4 : Nat) (r5 : Nat) : Option (List AO × Int32) :=
  L_hea r0 i1 i2 r3 r4 r5 90 6 H i1 (1 : Int32) 0 0 0
set_option maxRecDepth 65536 in
set_option maxHeartbeats 40000000 in
theorem rm_hea (l : Launch) (Z : State) (a0 : Array Value) (hw : ∀ d ∈ tables_1, d.before a0 Z = true) (ca : Nat → Addr) (K : OKa Z ca) (H : List AO) (r0 : Nat) (i1 : Int32) (i2 : Int32) (r3 : Nat) (r4 : Nat) (r5 : Nat) (res : List AO × Int32) (h0 : Heap) (hE0 : Ext Z.heap h0) (R0 : Rep Z ca h0 H)  (hM : M_hea H r0 i1 i2 r3 r4 r5 = some res) :
    OCtr l Z (⟨"com/example/mild_horn/mildhorn/translation/Centroids", "heaviest", "(II[Z[I[I)I"⟩ : MethodName) prog_40_method_10_code 12 (some .int) ({ frames := 0, cells := 0, slots := 0, locals := 0 } : Room) #[(.ref (ad Z ca r0)), (.int i1), (.int i2), (.ref (ad Z ca r3)), (.ref (ad Z ca r4)), (.ref (ad Z ca r5))] h0 (fun v h => v = some (.int res.2) ∧ Rep Z ca h res.1) := by
  refine o_bodyS (ls0 := #[.val (.ref (ad Z ca r0)), .val (.int i1), .val (.int i2), .val (.ref (ad Z ca r3)), .val (.ref (ad Z ca r4)), .val (.ref (ad Z ca r5)), .unset, .unset, .unset, .unset, .unset, .unset]) (plainFor_of_name pn_4) hE0 (fun m => by first | (simp [entryFrame, mkF, argsToLocals, Value.category]; done) | rfl) ?_
  intro pG eG sG mG bG meG cG hS0
  have LP : ∀ f : Nat, (∀ (h : Heap) (H : List AO) (i6 : Int32) (i7 : Int32) (x8 : Slot) (p8 : Pl x8) (x9 : Slot) (p9 : Pl x9) (x10 : Slot) (p10 : Pl x10) (x11 : Slot) (p11 : Pl x11) (R : Rep Z ca h H) (hM : L_hea r0 i1 i2 r3 r4 r5 f 6 H i6 i7 0 0 0 = some res), OG pG l eG ({ frames := 0, cells := 0, slots := 0, locals := 0 } : Room) sG mG #[(.ref (ad Z ca r0)), (.int i1), (.int i2), (.ref (ad Z ca r3)), (.ref (ad Z ca r4)), (.ref (ad Z ca r5))] bG meG cG Z (⟨"com/example/mild_horn/mildhorn/translation/Centroids", "heaviest", "(II[Z[I[I)I"⟩ : MethodName).cls (⟨"com/example/mild_horn/mildhorn/translation/Centroids", "heaviest", "(II[Z[I[I)I"⟩ : MethodName).name prog_40_method_10_code 12 (some .int) (fun v h => v = some (.int res.2) ∧ Rep Z ca h res.1) ({ frames := 0, cells := 0, slots := 0, locals := 0 } : Room).cells ({ frames := 0, cells := 0, slots := 0, locals := 0 } : Room).slots h 0 0 (mkF mG 6 #[.val (.ref (ad Z ca r0)), .val (.int i1), .val (.int i2), .val (.ref (ad Z ca r3)), .val (.ref (ad Z ca r4)), .val (.ref (ad Z ca r5)), .val (.int i6), .val (.int i7), x8, x9, x10, x11] [])) ∧ (∀ (h : Heap) (H : List AO) (i6 : Int32) (i7 : Int32) (r8 : Nat) (i9 : Int32) (i10 : Int32) (x11 : Slot) (p11 : Pl x11) (R : Rep Z ca h H) (hM : L_hea r0 i1 i2 r3 r4 r5 f 31 H i6 i7 r8 i9 i10 = some res), OG pG l eG ({ frames := 0, cells := 0, slots := 0, locals := 0 } : Room) sG mG #[(.ref (ad Z ca r0)), (.int i1), (.int i2), (.ref (ad Z ca r3)), (.ref (ad Z ca r4)), (.ref (ad Z ca r5))] bG meG cG Z (⟨"com/example/mild_horn/mildhorn/translation/Centroids", "heaviest", "(II[Z[I[I)I"⟩ : MethodName).cls (⟨"com/example/mild_horn/mildhorn/translation/Centroids", "heaviest", "(II[Z[I[I)I"⟩ : MethodName).name prog_40_method_10_code 12 (some .int) (fun v h => v = some (.int res.2) ∧ Rep Z ca h res.1) ({ frames := 0, cells := 0, slots := 0, locals := 0 } : Room).cells ({ frames := 0, cells := 0, slots := 0, locals := 0 } : Room).slots h 0 0 (mkF mG 31 #[.val (.ref (ad Z ca r0)), .val (.int i1), .val (.int i2), .val (.ref (ad Z ca r3)), .val (.ref (ad Z ca r4)), .val (.ref (ad Z ca r5)), .val (.int i6), .val (.int i7), .val (.ref (ad Z ca r8)), .val (.int i9), .val (.int i10), x11] [])) := by
    intro f
    induction f with
    | zero =>
      refine ⟨?_, ?_⟩
      · intro h H i6 i7 x8 p8 x9 p9 x10 p10 x11 p11 R hM
        first | exact nomatch hM | (simp [L_hea] at hM; done)
      · intro h H i6 i7 r8 i9 i10 x11 p11 R hM
        first | exact nomatch hM | (simp [L_hea] at hM; done)
    | succ f ih =>
      obtain ⟨ih_6, ih_31⟩ := ih
      refine ⟨?_, ?_⟩
      · intro h H i6 i7 x8 p8 x9 p9 x10 p10 x11 p11 R hM
        have hM : B_hea_6 r0 i1 i2 r3 r4 r5 (L_hea r0 i1 i2 r3 r4 r5 f) H i6 i7 0 0 0 = some res := hM
        unfold B_hea_6 at hM
        refine o_blk (pc' := 8) (st' := [(.int i7)]) (ls' := #[.val (.ref (ad Z ca r0)), .val (.int i1), .val (.int i2), .val (.ref (ad Z ca r3)), .val (.ref (ad Z ca r4)), .val (.ref (ad Z ca r5)), .val (.int i6), .val (.int i7), x8, x9, x10, x11]) b25_6_8 rfl ?_
        refine o_if (pc' := 92) (pc'' := 11) d25_8 (by decide) (by decide) rfl (fun (hc8_1 : i7 = 0) => ?_) (fun (hc8_1 : ¬ i7 = 0) => ?_)
        ·
          rw [if_pos hc8_1] at hM
          refine o_blk (pc' := 94) (st' := [(.int i6)]) (ls' := #[.val (.ref (ad Z ca r0)), .val (.int i1), .val (.int i2), .val (.ref (ad Z ca r3)), .val (.ref (ad Z ca r4)), .val (.ref (ad Z ca r5)), .val (.int i6), .val (.int i7), x8, x9, x10, x11]) b25_92_94 rfl ?_
          cases hM
          exact o_retI d25_94 (by decide) (by decide) rfl ⟨rfl, R⟩
        ·
          rw [if_neg hc8_1] at hM
          refine o_blk (pc' := 14) (st' := []) (ls' := #[.val (.ref (ad Z ca r0)), .val (.int i1), .val (.int i2), .val (.ref (ad Z ca r3)), .val (.ref (ad Z ca r4)), .val (.ref (ad Z ca r5)), .val (.int i6), .val (.int (0 : Int32)), x8, x9, x10, x11]) b25_11_14 rfl ?_
          refine o_blk (pc' := 15) (st' := [(.ref (ad Z ca r0))]) (ls' := #[.val (.ref (ad Z ca r0)), .val (.int i1), .val (.int i2), .val (.ref (ad Z ca r3)), .val (.ref (ad Z ca r4)), .val (.ref (ad Z ca r5)), .val (.int i6), .val (.int (0 : Int32)), x8, x9, x10, x11]) b25_14_15 rfl ?_
          obtain ⟨q2, hq2, hM⟩ := own_bind hM
          refine m_getR (t := 0) (i := 2) (pc' := 18) R hq2 rfl rfl (own_word hw 39 rfl) d25_15 rfl ?_
          refine o_blk (pc' := 20) (st' := [(.int i6), (.ref (ad Z ca q2))]) (ls' := #[.val (.ref (ad Z ca r0)), .val (.int i1), .val (.int i2), .val (.ref (ad Z ca r3)), .val (.ref (ad Z ca r4)), .val (.ref (ad Z ca r5)), .val (.int i6), .val (.int (0 : Int32)), x8, x9, x10, x11]) b25_18_20 rfl ?_
          obtain ⟨q3, hq3, hM⟩ := own_bind hM
          refine m_aald (pc' := 21) R hq3 d25_20 rfl ?_
          refine o_stP (pc' := 23) (st' := []) (ls' := #[.val (.ref (ad Z ca r0)), .val (.int i1), .val (.int i2), .val (.ref (ad Z ca r3)), .val (.ref (ad Z ca r4)), .val (.ref (ad Z ca r5)), .val (.int i6), .val (.int (0 : Int32)), .val (.ref (ad Z ca q3)), x9, x10, x11]) d25_21 rfl rfl (own_stA (x := x8) rfl p8) ?_
          refine o_blk (pc' := 25) (st' := [(.ref (ad Z ca q3))]) (ls' := #[.val (.ref (ad Z ca r0)), .val (.int i1), .val (.int i2), .val (.ref (ad Z ca r3)), .val (.ref (ad Z ca r4)), .val (.ref (ad Z ca r5)), .val (.int i6), .val (.int (0 : Int32)), .val (.ref (ad Z ca q3)), x9, x10, x11]) b25_23_25 rfl ?_
          obtain ⟨q4, hq4, hM⟩ := own_bind hM
          refine m_len (pc' := 26) R hq4 d25_25 rfl ?_
          refine o_stP (pc' := 28) (st' := []) (ls' := #[.val (.ref (ad Z ca r0)), .val (.int i1), .val (.int i2), .val (.ref (ad Z ca r3)), .val (.ref (ad Z ca r4)), .val (.ref (ad Z ca r5)), .val (.int i6), .val (.int (0 : Int32)), .val (.ref (ad Z ca q3)), .val (.int q4), x10, x11]) d25_26 rfl rfl (own_stI (x := x9) rfl p9) ?_
          refine o_blk (pc' := 29) (st' := [(.int (0 : Int32))]) (ls' := #[.val (.ref (ad Z ca r0)), .val (.int i1), .val (.int i2), .val (.ref (ad Z ca r3)), .val (.ref (ad Z ca r4)), .val (.ref (ad Z ca r5)), .val (.int i6), .val (.int (0 : Int32)), .val (.ref (ad Z ca q3)), .val (.int q4), x10, x11]) b25_28_29 rfl ?_
          refine o_stP (pc' := 31) (st' := []) (ls' := #[.val (.ref (ad Z ca r0)), .val (.int i1), .val (.int i2), .val (.ref (ad Z ca r3)), .val (.ref (ad Z ca r4)), .val (.ref (ad Z ca r5)), .val (.int i6), .val (.int (0 : Int32)), .val (.ref (ad Z ca q3)), .val (.int q4), .val (.int (0 : Int32)), x11]) d25_29 rfl rfl (own_stI (x := x10) rfl p10) ?_
          exact ih_31 _ _ _ _ _ _ _ _ p11 R hM
      · intro h H i6 i7 r8 i9 i10 x11 p11 R hM
        have hM : B_hea_31 r0 i1 i2 r3 r4 r5 (L_hea r0 i1 i2 r3 r4 r5 f) H i6 i7 r8 i9 i10 = some res := hM
        unfold B_hea_31 at hM
        refine o_blk (pc' := 35) (st' := [(.int i9), (.int i10)]) (ls' := #[.val (.ref (ad Z ca r0)), .val (.int i1), .val (.int i2), .val (.ref (ad Z ca r3)), .val (.ref (ad Z ca r4)), .val (.ref (ad Z ca r5)), .val (.int i6), .val (.int i7), .val (.ref (ad Z ca r8)), .val (.int i9), .val (.int i10), x11]) b25_31_35 rfl ?_
        refine o_ic (pc' := 89) (pc'' := 38) d25_35 (by decide) (by decide) rfl (fun (hc35_1 : ¬ i10 < i9) => ?_) (fun (hc35_1 : i10 < i9) => ?_)
        ·
          rw [if_neg hc35_1] at hM
          refine o_goto (pc' := 6) d25_89 (by decide) (by decide) ?_
          exact ih_6 _ _ _ _ _ (Pl.r _) _ (Pl.i _) _ (Pl.i _) _ p11 R hM
        ·
          rw [if_pos hc35_1] at hM
          refine o_blk (pc' := 42) (st' := [(.int i10), (.ref (ad Z ca r8))]) (ls' := #[.val (.ref (ad Z ca r0)), .val (.int i1), .val (.int i2), .val (.ref (ad Z ca r3)), .val (.ref (ad Z ca r4)), .val (.ref (ad Z ca r5)), .val (.int i6), .val (.int i7), .val (.ref (ad Z ca r8)), .val (.int i9), .val (.int i10), x11]) b25_38_42 rfl ?_
          obtain ⟨q2, hq2, hM⟩ := own_bind hM
          refine m_iald (pc' := 43) R hq2 d25_42 rfl ?_
          refine o_stP (pc' := 45) (st' := []) (ls' := #[.val (.ref (ad Z ca r0)), .val (.int i1), .val (.int i2), .val (.ref (ad Z ca r3)), .val (.ref (ad Z ca r4)), .val (.ref (ad Z ca r5)), .val (.int i6), .val (.int i7), .val (.ref (ad Z ca r8)), .val (.int i9), .val (.int i10), .val (.int q2)]) d25_43 rfl rfl (own_stI (x := x11) rfl p11) ?_
          refine o_blk (pc' := 48) (st' := [(.int q2), (.ref (ad Z ca r3))]) (ls' := #[.val (.ref (ad Z ca r0)), .val (.int i1), .val (.int i2), .val (.ref (ad Z ca r3)), .val (.ref (ad Z ca r4)), .val (.ref (ad Z ca r5)), .val (.int i6), .val (.int i7), .val (.ref (ad Z ca r8)), .val (.int i9), .val (.int i10), .val (.int q2)]) b25_45_48 rfl ?_
          obtain ⟨q3, hq3, hM⟩ := own_bind hM
          refine m_zald (pc' := 49) R hq3 d25_48 rfl ?_
          refine o_if (pc' := 83) (pc'' := 52) d25_49 (by decide) (by decide) rfl (fun (hc49_4 : ¬ q3 = 0) => ?_) (fun (hc49_4 : q3 = 0) => ?_)
          ·
            rw [if_neg hc49_4] at hM
            refine o_blk (pc' := 86) (st' := []) (ls' := #[.val (.ref (ad Z ca r0)), .val (.int i1), .val (.int i2), .val (.ref (ad Z ca r3)), .val (.ref (ad Z ca r4)), .val (.ref (ad Z ca r5)), .val (.int i6), .val (.int i7), .val (.ref (ad Z ca r8)), .val (.int i9), .val (.int (i10 + (1 : Int32))), .val (.int q2)]) b25_83_86 rfl ?_
            refine o_goto (pc' := 31) d25_86 (by decide) (by decide) ?_
            exact ih_31 _ _ _ _ _ _ _ _ (Pl.i _) R hM
          ·
            rw [if_pos hc49_4] at hM
            refine o_blk (pc' := 56) (st' := [(.int q2), (.ref (ad Z ca r4))]) (ls' := #[.val (.ref (ad Z ca r0)), .val (.int i1), .val (.int i2), .val (.ref (ad Z ca r3)), .val (.ref (ad Z ca r4)), .val (.ref (ad Z ca r5)), .val (.int i6), .val (.int i7), .val (.ref (ad Z ca r8)), .val (.int i9), .val (.int i10), .val (.int q2)]) b25_52_56 rfl ?_
            obtain ⟨q5, hq5, hM⟩ := own_bind hM
            refine m_iald (pc' := 57) R hq5 d25_56 rfl ?_
            refine o_blk (pc' := 59) (st' := [(.int i6), (.int q5)]) (ls' := #[.val (.ref (ad Z ca r0)), .val (.int i1), .val (.int i2), .val (.ref (ad Z ca r3)), .val (.ref (ad Z ca r4)), .val (.ref (ad Z ca r5)), .val (.int i6), .val (.int i7), .val (.ref (ad Z ca r8)), .val (.int i9), .val (.int i10), .val (.int q2)]) b25_57_59 rfl ?_
            refine o_ic (pc' := 83) (pc'' := 62) d25_59 (by decide) (by decide) rfl (fun (hc59_6 : ¬ q5 = i6) => ?_) (fun (hc59_6 : q5 = i6) => ?_)
            ·
              rw [if_neg hc59_6] at hM
              refine o_blk (pc' := 86) (st' := []) (ls' := #[.val (.ref (ad Z ca r0)), .val (.int i1), .val (.int i2), .val (.ref (ad Z ca r3)), .val (.ref (ad Z ca r4)), .val (.ref (ad Z ca r5)), .val (.int i6), .val (.int i7), .val (.ref (ad Z ca r8)), .val (.int i9), .val (.int (i10 + (1 : Int32))), .val (.int q2)]) b25_83_86 rfl ?_
              refine o_goto (pc' := 31) d25_86 (by decide) (by decide) ?_
              exact ih_31 _ _ _ _ _ _ _ _ (Pl.i _) R hM
            ·
              rw [if_pos hc59_6] at hM
              refine o_blk (pc' := 66) (st' := [(.int q2), (.ref (ad Z ca r5))]) (ls' := #[.val (.ref (ad Z ca r0)), .val (.int i1), .val (.int i2), .val (.ref (ad Z ca r3)), .val (.ref (ad Z ca r4)), .val (.ref (ad Z ca r5)), .val (.int i6), .val (.int i7), .val (.ref (ad Z ca r8)), .val (.int i9), .val (.int i10), .val (.int q2)]) b25_62_66 rfl ?_
              obtain ⟨q7, hq7, hM⟩ := own_bind hM
              refine m_iald (pc' := 67) R hq7 d25_66 rfl ?_
              refine o_blk (pc' := 69) (st' := [(.int (2 : Int32)), (.int i2), (.int q7)]) (ls' := #[.val (.ref (ad Z ca r0)), .val (.int i1), .val (.int i2), .val (.ref (ad Z ca r3)), .val (.ref (ad Z ca r4)), .val (.ref (ad Z ca r5)), .val (.int i6), .val (.int i7), .val (.ref (ad Z ca r8)), .val (.int i9), .val (.int i10), .val (.int q2)]) b25_67_69 rfl ?_
              refine o_idiv (pc' := 70) d25_69 (by decide) rfl ?_
              refine o_ic (pc' := 83) (pc'' := 73) d25_70 (by decide) (by decide) rfl (fun (hc70_8 : ¬ (i2 / (2 : Int32)) < q7) => ?_) (fun (hc70_8 : (i2 / (2 : Int32)) < q7) => ?_)
              ·
                rw [if_neg hc70_8] at hM
                refine o_blk (pc' := 86) (st' := []) (ls' := #[.val (.ref (ad Z ca r0)), .val (.int i1), .val (.int i2), .val (.ref (ad Z ca r3)), .val (.ref (ad Z ca r4)), .val (.ref (ad Z ca r5)), .val (.int i6), .val (.int i7), .val (.ref (ad Z ca r8)), .val (.int i9), .val (.int (i10 + (1 : Int32))), .val (.int q2)]) b25_83_86 rfl ?_
                refine o_goto (pc' := 31) d25_86 (by decide) (by decide) ?_
                exact ih_31 _ _ _ _ _ _ _ _ (Pl.i _) R hM
              ·
                rw [if_pos hc70_8] at hM
                refine o_blk (pc' := 77) (st' := []) (ls' := #[.val (.ref (ad Z ca r0)), .val (.int i1), .val (.int i2), .val (.ref (ad Z ca r3)), .val (.ref (ad Z ca r4)), .val (.ref (ad Z ca r5)), .val (.int q2), .val (.int i7), .val (.ref (ad Z ca r8)), .val (.int i9), .val (.int i10), .val (.int q2)]) b25_73_77 rfl ?_
                refine o_blk (pc' := 80) (st' := []) (ls' := #[.val (.ref (ad Z ca r0)), .val (.int i1), .val (.int i2), .val (.ref (ad Z ca r3)), .val (.ref (ad Z ca r4)), .val (.ref (ad Z ca r5)), .val (.int q2), .val (.int (1 : Int32)), .val (.ref (ad Z ca r8)), .val (.int i9), .val (.int i10), .val (.int q2)]) b25_77_80 rfl ?_
                refine o_goto (pc' := 89) d25_80 (by decide) (by decide) ?_
                refine o_goto (pc' := 6) d25_89 (by decide) (by decide) ?_
                exact ih_6 _ _ _ _ _ (Pl.r _) _ (Pl.i _) _ (Pl.i _) _ (Pl.i _) R hM
  unfold M_hea at hM
  refine o_blk (pc' := 3) (st' := []) (ls' := #[.val (.ref (ad Z ca r0)), .val (.int i1), .val (.int i2), .val (.ref (ad Z ca r3)), .val (.ref (ad Z ca r4)), .val (.ref (ad Z ca r5)), .val (.int i1), .unset, .unset, .unset, .unset, .unset]) b25_0_3 rfl ?_
  refine o_blk (pc' := 6) (st' := []) (ls' := #[.val (.ref (ad Z ca r0)), .val (.int i1), .val (.int i2), .val (.ref (ad Z ca r3)), .val (.ref (ad Z ca r4)), .val (.ref (ad Z ca r5)), .val (.int i1), .val (.int (1 : Int32)), .unset, .unset, .unset, .unset]) b25_3_6 rfl ?_
  exact (LP 90).1 _ _ _ _ _ Pl.u _ Pl.u _ Pl.u _ Pl.u R0 hM
def B_dcp_64 (r0 : Nat) (i1 : Int32) (rec : Nat → List AO → Nat → Nat → Nat → Nat → Nat → Nat → Int32 → Nat → Int32 → Int32 → Int32 → Nat → Int32 → Nat → Int32 → Int32 → Option (List AO × Int32)) (H : List AO) (t : Nat) (r2 : Nat) (r3 : Nat) (r4 : Nat) (r5 : Nat) (r6 : Nat) (i7 : Int32) (r8 : Nat) (i9 : Int32) (i10 : Int32) (i11 : Int32) (r11 : Nat) (i12 : Int32) (r12 : Nat) (i13 : Int32) (i14 : Int32) : Option (List AO × Int32) :=
  if ((hget H r6).any fun o => o.1 == 5) = true then ( (M_isemp H r6).bind fun q2 => if q2.2 = 0 then ( if ((hget q2.1 r6).any fun o => o.1 == 5) = true then ( (M_pop q2.1 r6).bind fun q5 => if isA 0 q5.1 q5.2 = true then ( (ilo 0 q5.1 q5.2 (0 : Int32)).bind fun q7 => if ((hget q5.1 r0).any fun o => o.1 == 4) = true then ( (M_rea q5.1 r0 q7 r2 r3 r4).bind fun q9 => rec 106 q9.1 t r2 r3 r4 r5 r6 i7 q5.2 q9.2 (q9.2 - (1 : Int32)) 0 0 0 0 0 0 ) else none ) else none ) else none ) else ( some (q2.1, i7) ) ) else none
def B_dcp_106 (r0 : Nat) (i1 : Int32) (rec : Nat → List AO → Nat → Nat → Nat → Nat → Nat → Nat → Int32 → Nat → Int32 → Int32 → Int32 → Nat → Int32 → Nat → Int32 → Int32 → Option (List AO × Int32)) (H : List AO) (t : Nat) (r2 : Nat) (r3 : Nat) (r4 : Nat) (r5 : Nat) (r6 : Nat) (i7 : Int32) (r8 : Nat) (i9 : Int32) (i10 : Int32) (i11 : Int32) (r11 : Nat) (i12 : Int32) (r12 : Nat) (i13 : Int32) (i14 : Int32) : Option (List AO × Int32) :=
  if i10 < 0 then ( (ilo 0 H r8 (0 : Int32)).bind fun q2 => if ((hget H r0).any fun o => o.1 == 4) = true then ( (M_hea H r0 q2 i9 r2 r4 r5).bind fun q4 => (ist 1 q4.1 r2 q4.2 (1 : Int32)).bind fun q5 => (gfr 4 q5 r0 5).bind fun q6 => (ilo 0 q5 r8 (1 : Int32)).bind fun q7 => (ist 0 q5 q6 q4.2 q7).bind fun q8 => (ilo 0 q8 r8 (1 : Int32)).bind fun q9 => if q9 < 0 then ( (gfr 4 q8 r0 2).bind fun q14 => (rlo q8 q14 q4.2).bind fun q15 => (aln q8 q15).bind fun q16 => rec 257 q8 t r2 r3 r4 r5 r6 q4.2 0 0 q4.2 0 q15 q16 0 (0 : Int32) 0 ) else ( (gfr 4 q8 r0 2).bind fun q11 => (rlo q8 q11 q4.2).bind fun q12 => (aln q8 q12).bind fun q13 => rec 257 q8 t r2 r3 r4 r5 r6 i7 0 0 q4.2 0 q12 q13 0 (0 : Int32) 0 ) ) else none ) else ( (ilo 0 H r3 i10).bind fun q17 => (ist 0 H r5 q17 (1 : Int32)).bind fun q18 => (gfr 4 q18 r0 2).bind fun q19 => (rlo q18 q19 q17).bind fun q20 => (aln q18 q20).bind fun q21 => rec 140 q18 t r2 r3 r4 r5 r6 i7 r8 i9 i10 q17 0 0 q20 q21 (0 : Int32) )
def B_dcp_140 (r0 : Nat) (i1 : Int32) (rec : Nat → List AO → Nat → Nat → Nat → Nat → Nat → Nat → Int32 → Nat → Int32 → Int32 → Int32 → Nat → Int32 → Nat → Int32 → Int32 → Option (List AO × Int32)) (H : List AO) (t : Nat) (r2 : Nat) (r3 : Nat) (r4 : Nat) (r5 : Nat) (r6 : Nat) (i7 : Int32) (r8 : Nat) (i9 : Int32) (i10 : Int32) (i11 : Int32) (r11 : Nat) (i12 : Int32) (r12 : Nat) (i13 : Int32) (i14 : Int32) : Option (List AO × Int32) :=
  if i14 < i13 then ( (ilo 0 H r12 i14).bind fun q2 => (ilo 1 H r2 q2).bind fun q3 => if q3 = 0 then ( (ilo 0 H r4 q2).bind fun q5 => if q5 = i11 then ( (ilo 0 H r5 i11).bind fun q7 => (ilo 0 H r5 q2).bind fun q8 => (ist 0 H r5 i11 (q7 + q8)).bind fun q9 => rec 140 q9 t r2 r3 r4 r5 r6 i7 r8 i9 i10 i11 0 0 r12 i13 (i14 + (1 : Int32)) ) else ( rec 140 H t r2 r3 r4 r5 r6 i7 r8 i9 i10 i11 0 0 r12 i13 (i14 + (1 : Int32)) ) ) else ( rec 140 H t r2 r3 r4 r5 r6 i7 r8 i9 i10 i11 0 0 r12 i13 (i14 + (1 : Int32)) ) ) else ( rec 106 H t r2 r3 r4 r5 r6 i7 r8 i9 (i10 + (-1 : Int32)) 0 0 0 0 0 0 )
def B_dcp_257 (r0 : Nat) (i1 : Int32) (rec : Nat → List AO → Nat → Nat → Nat → Nat → Nat → Nat → Int32 → Nat → Int32 → Int32 → Int32 → Nat → Int32 → Nat → Int32 → Int32 → Option (List AO × Int32)) (H : List AO) (t : Nat) (r2 : Nat) (r3 : Nat) (r4 : Nat) (r5 : Nat) (r6 : Nat) (i7 : Int32) (r8 : Nat) (i9 : Int32) (i10 : Int32) (i11 : Int32) (r11 : Nat) (i12 : Int32) (r12 : Nat) (i13 : Int32) (i14 : Int32) : Option (List AO × Int32) :=
  if i13 < i12 then ( (ilo 0 H r11 i13).bind fun q2 => (ilo 1 H r2 q2).bind fun q3 => if q3 = 0 then ( (newI 0 H (2 : Int32)).bind fun q5 => if t < 8 then ( (ist 0 q5.1 q5.2 (0 : Int32) q2).bind fun q7 => (ist 0 q7 q5.2 (1 : Int32) i10).bind fun q8 => if ((hget q8 r6).any fun o => o.1 == 5) = true then ( (M_push q8 r6 q5.2).bind fun q10 => rec 257 q10.1 (t + 1) r2 r3 r4 r5 r6 i7 0 0 i10 0 r11 i12 0 (i13 + (1 : Int32)) 0 ) else none ) else none ) else ( rec 257 H t r2 r3 r4 r5 r6 i7 0 0 i10 0 r11 i12 0 (i13 + (1 : Int32)) 0 ) ) else ( rec 64 H t r2 r3 r4 r5 r6 i7 0 0 0 0 0 0 0 0 0 )
def L_dcp (r0 : Nat) (i1 : Int32) : Nat → Nat → List AO → Nat → Nat → Nat → Nat → Nat → Nat → Int32 → Nat → Int32 → Int32 → Int32 → Nat → Int32 → Nat → Int32 → Int32 → Option (List AO × Int32)
  | 0 => fun _ _ _ _ _ _ _ _ _ _ _ _ _ _ _ _ _ _ => none
  | f + 1 => fun hd H t r2 r3 r4 r5 r6 i7 r8 i9 i10 i11 r11 i12 r12 i13 i14 => if hd = 64 then B_dcp_64 r0 i1 (L_dcp r0 i1 f) H t r2 r3 r4 r5 r6 i7 r8 i9 i10 i11 r11 i12 r12 i13 i14 else if hd = 106 then B_dcp_106 r0 i1 (L_dcp r0 i1 f) H t r2 r3 r4 r5 r6 i7 r8 i9 i10 i11 r11 i12 r12 i13 i14 else if hd = 140 then B_dcp_140 r0 i1 (L_dcp r0 i1 f) H t r2 r3 r4 r5 r6 i7 r8 i9 i10 i11 r11 i12 r12 i13 i14 else if hd = 257 then B_dcp_257 r0 i1 (L_dcp r0 i1 f) H t r2 r3 r4 r5 r6 i7 r8 i9 i10 i11 r11 i12 r12 i13 i14 else none
def M_dcp (H : List AO) (r0 : Nat) (i1 : Int32) : Option (List AO × Int32) :=
  (gfr 4 H r0 0).bind fun q1 => (aln H q1).bind fun q2 => (newI 1 H q2).bind fun q3 => (gfr 4 q3.1 r0 0).bind fun q4 => (aln q3.1 q4).bind fun q5 => (newI 0 q3.1 q5).bind fun q6 => (gfr 4 q6.1 r0 0).bind fun q7 => (aln q6.1 q7).bind fun q8 => (newI 0 q6.1 q8).bind fun q9 => (gfr 4 q9.1 r0 0).bind fun q10 => (aln q9.1 q10).bind fun q11 => (newI 0 q9.1 q11).bind fun q12 => (hnew q12.1 (5, [0, 0], [0])).bind fun q13 => (M_deq q13.1 q13.2).bind fun q14 => (newI 0 q14.1 (2 : Int32)).bind fun q15 => (ist 0 q15.1 q15.2 (0 : Int32) i1).bind fun q16 => (ist 0 q16 q15.2 (1 : Int32) (-1 : Int32)).bind fun q17 => if ((hget q17 q13.2).any fun o => o.1 == 5) = true then ( (M_push q17 q13.2 q15.2).bind fun q19 => L_dcp r0 i1 400 64 q19.1 0 q3.2 q6.2 q9.2 q12.2 q13.2 (-1 : Int32) 0 0 0 0 0 0 0 0 0 ) else none
set_option maxRecDepth 65536 in
set_option maxHeartbeats 40000000 in
theorem rm_dcp (l : Launch) (Z : State) (a0 : Array Value) (hw : ∀ d ∈ tables_1, d.before a0 Z = true) (ca : Nat → Addr) (K : OKa Z ca) (H : List AO) (r0 : Nat) (i1 : Int32) (res : List AO × Int32) (h0 : Heap) (hE0 : Ext Z.heap h0) (R0 : Rep Z ca h0 H)  (hM : M_dcp H r0 i1 = some res) :
    OCtr l Z (⟨"com/example/mild_horn/mildhorn/translation/Centroids", "decompose", "(I)I"⟩ : MethodName) prog_40_method_8_code 16 (some .int) ({ frames := 4, cells := 15, slots := 124, locals := 54 } : Room) #[(.ref (ad Z ca r0)), (.int i1)] h0 (fun v h => v = some (.int res.2) ∧ Rep Z ca h res.1) := by
  refine o_bodyS (ls0 := #[.val (.ref (ad Z ca r0)), .val (.int i1), .unset, .unset, .unset, .unset, .unset, .unset, .unset, .unset, .unset, .unset, .unset, .unset, .unset, .unset]) (plainFor_of_name pn_4) hE0 (fun m => by first | (simp [entryFrame, mkF, argsToLocals, Value.category]; done) | rfl) ?_
  intro pG eG sG mG bG meG cG hS0
  have LP : ∀ f : Nat, (∀ (h : Heap) (H : List AO) (t : Nat) (ht : t ≤ 8) (c s : Nat) (ec : c = 7 + 1 * t) (es : s = 60 + 8 * t) (r2 : Nat) (r3 : Nat) (r4 : Nat) (r5 : Nat) (r6 : Nat) (i7 : Int32) (x8 : Slot) (p8 : Pl x8) (x9 : Slot) (p9 : Pl x9) (x10 : Slot) (p10 : Pl x10) (x11 : Slot) (p11 : Pl x11) (x12 : Slot) (p12 : Pl x12) (x13 : Slot) (p13 : Pl x13) (x14 : Slot) (p14 : Pl x14) (x15 : Slot) (p15 : Pl x15) (R : Rep Z ca h H) (hM : L_dcp r0 i1 f 64 H t r2 r3 r4 r5 r6 i7 0 0 0 0 0 0 0 0 0 = some res), OG pG l eG ({ frames := 4, cells := 15, slots := 124, locals := 54 } : Room) sG mG #[(.ref (ad Z ca r0)), (.int i1)] bG meG cG Z (⟨"com/example/mild_horn/mildhorn/translation/Centroids", "decompose", "(I)I"⟩ : MethodName).cls (⟨"com/example/mild_horn/mildhorn/translation/Centroids", "decompose", "(I)I"⟩ : MethodName).name prog_40_method_8_code 16 (some .int) (fun v h => v = some (.int res.2) ∧ Rep Z ca h res.1) ({ frames := 4, cells := 15, slots := 124, locals := 54 } : Room).cells ({ frames := 4, cells := 15, slots := 124, locals := 54 } : Room).slots h c s (mkF mG 64 #[.val (.ref (ad Z ca r0)), .val (.int i1), .val (.ref (ad Z ca r2)), .val (.ref (ad Z ca r3)), .val (.ref (ad Z ca r4)), .val (.ref (ad Z ca r5)), .val (.ref (ad Z ca r6)), .val (.int i7), x8, x9, x10, x11, x12, x13, x14, x15] [])) ∧ (∀ (h : Heap) (H : List AO) (t : Nat) (ht : t ≤ 8) (c s : Nat) (ec : c = 7 + 1 * t) (es : s = 60 + 8 * t) (r2 : Nat) (r3 : Nat) (r4 : Nat) (r5 : Nat) (r6 : Nat) (i7 : Int32) (r8 : Nat) (i9 : Int32) (i10 : Int32) (x11 : Slot) (p11 : Pl x11) (x12 : Slot) (p12 : Pl x12) (x13 : Slot) (p13 : Pl x13) (x14 : Slot) (p14 : Pl x14) (x15 : Slot) (p15 : Pl x15) (R : Rep Z ca h H) (hM : L_dcp r0 i1 f 106 H t r2 r3 r4 r5 r6 i7 r8 i9 i10 0 0 0 0 0 0 = some res), OG pG l eG ({ frames := 4, cells := 15, slots := 124, locals := 54 } : Room) sG mG #[(.ref (ad Z ca r0)), (.int i1)] bG meG cG Z (⟨"com/example/mild_horn/mildhorn/translation/Centroids", "decompose", "(I)I"⟩ : MethodName).cls (⟨"com/example/mild_horn/mildhorn/translation/Centroids", "decompose", "(I)I"⟩ : MethodName).name prog_40_method_8_code 16 (some .int) (fun v h => v = some (.int res.2) ∧ Rep Z ca h res.1) ({ frames := 4, cells := 15, slots := 124, locals := 54 } : Room).cells ({ frames := 4, cells := 15, slots := 124, locals := 54 } : Room).slots h c s (mkF mG 106 #[.val (.ref (ad Z ca r0)), .val (.int i1), .val (.ref (ad Z ca r2)), .val (.ref (ad Z ca r3)), .val (.ref (ad Z ca r4)), .val (.ref (ad Z ca r5)), .val (.ref (ad Z ca r6)), .val (.int i7), .val (.ref (ad Z ca r8)), .val (.int i9), .val (.int i10), x11, x12, x13, x14, x15] [])) ∧ (∀ (h : Heap) (H : List AO) (t : Nat) (ht : t ≤ 8) (c s : Nat) (ec : c = 7 + 1 * t) (es : s = 60 + 8 * t) (r2 : Nat) (r3 : Nat) (r4 : Nat) (r5 : Nat) (r6 : Nat) (i7 : Int32) (r8 : Nat) (i9 : Int32) (i10 : Int32) (i11 : Int32) (r12 : Nat) (i13 : Int32) (i14 : Int32) (x15 : Slot) (p15 : Pl x15) (R : Rep Z ca h H) (hM : L_dcp r0 i1 f 140 H t r2 r3 r4 r5 r6 i7 r8 i9 i10 i11 0 0 r12 i13 i14 = some res), OG pG l eG ({ frames := 4, cells := 15, slots := 124, locals := 54 } : Room) sG mG #[(.ref (ad Z ca r0)), (.int i1)] bG meG cG Z (⟨"com/example/mild_horn/mildhorn/translation/Centroids", "decompose", "(I)I"⟩ : MethodName).cls (⟨"com/example/mild_horn/mildhorn/translation/Centroids", "decompose", "(I)I"⟩ : MethodName).name prog_40_method_8_code 16 (some .int) (fun v h => v = some (.int res.2) ∧ Rep Z ca h res.1) ({ frames := 4, cells := 15, slots := 124, locals := 54 } : Room).cells ({ frames := 4, cells := 15, slots := 124, locals := 54 } : Room).slots h c s (mkF mG 140 #[.val (.ref (ad Z ca r0)), .val (.int i1), .val (.ref (ad Z ca r2)), .val (.ref (ad Z ca r3)), .val (.ref (ad Z ca r4)), .val (.ref (ad Z ca r5)), .val (.ref (ad Z ca r6)), .val (.int i7), .val (.ref (ad Z ca r8)), .val (.int i9), .val (.int i10), .val (.int i11), .val (.ref (ad Z ca r12)), .val (.int i13), .val (.int i14), x15] [])) ∧ (∀ (h : Heap) (H : List AO) (t : Nat) (ht : t ≤ 8) (c s : Nat) (ec : c = 7 + 1 * t) (es : s = 60 + 8 * t) (r2 : Nat) (r3 : Nat) (r4 : Nat) (r5 : Nat) (r6 : Nat) (i7 : Int32) (i10 : Int32) (r11 : Nat) (i12 : Int32) (i13 : Int32) (x8 : Slot) (p8 : Pl x8) (x9 : Slot) (p9 : Pl x9) (x14 : Slot) (p14 : Pl x14) (x15 : Slot) (p15 : Pl x15) (R : Rep Z ca h H) (hM : L_dcp r0 i1 f 257 H t r2 r3 r4 r5 r6 i7 0 0 i10 0 r11 i12 0 i13 0 = some res), OG pG l eG ({ frames := 4, cells := 15, slots := 124, locals := 54 } : Room) sG mG #[(.ref (ad Z ca r0)), (.int i1)] bG meG cG Z (⟨"com/example/mild_horn/mildhorn/translation/Centroids", "decompose", "(I)I"⟩ : MethodName).cls (⟨"com/example/mild_horn/mildhorn/translation/Centroids", "decompose", "(I)I"⟩ : MethodName).name prog_40_method_8_code 16 (some .int) (fun v h => v = some (.int res.2) ∧ Rep Z ca h res.1) ({ frames := 4, cells := 15, slots := 124, locals := 54 } : Room).cells ({ frames := 4, cells := 15, slots := 124, locals := 54 } : Room).slots h c s (mkF mG 257 #[.val (.ref (ad Z ca r0)), .val (.int i1), .val (.ref (ad Z ca r2)), .val (.ref (ad Z ca r3)), .val (.ref (ad Z ca r4)), .val (.ref (ad Z ca r5)), .val (.ref (ad Z ca r6)), .val (.int i7), x8, x9, .val (.int i10), .val (.ref (ad Z ca r11)), .val (.int i12), .val (.int i13), x14, x15] [])) := by
    intro f
    induction f with
    | zero =>
      refine ⟨?_, ?_, ?_, ?_⟩
      · intro h H t ht c s ec es r2 r3 r4 r5 r6 i7 x8 p8 x9 p9 x10 p10 x11 p11 x12 p12 x13 p13 x14 p14 x15 p15 R hM
        first | exact nomatch hM | (simp [L_dcp] at hM; done)
      · intro h H t ht c s ec es r2 r3 r4 r5 r6 i7 r8 i9 i10 x11 p11 x12 p12 x13 p13 x14 p14 x15 p15 R hM
        first | exact nomatch hM | (simp [L_dcp] at hM; done)
      · intro h H t ht c s ec es r2 r3 r4 r5 r6 i7 r8 i9 i10 i11 r12 i13 i14 x15 p15 R hM
        first | exact nomatch hM | (simp [L_dcp] at hM; done)
      · intro h H t ht c s ec es r2 r3 r4 r5 r6 i7 i10 r11 i12 i13 x8 p8 x9 p9 x14 p14 x15 p15 R hM
        first | exact nomatch hM | (simp [L_dcp] at hM; done)
    | succ f ih =>
      obtain ⟨ih_64, ih_106, ih_140, ih_257⟩ := ih
      refine ⟨?_, ?_, ?_, ?_⟩
      · intro h H t ht c s ec es r2 r3 r4 r5 r6 i7 x8 p8 x9 p9 x10 p10 x11 p11 x12 p12 x13 p13 x14 p14 x15 p15 R hM
        subst ec es
        have hM : B_dcp_64 r0 i1 (L_dcp r0 i1 f) H t r2 r3 r4 r5 r6 i7 0 0 0 0 0 0 0 0 0 = some res := hM
        unfold B_dcp_64 at hM
        refine o_blk (pc' := 66) (st' := [(.ref (ad Z ca r6))]) (ls' := #[.val (.ref (ad Z ca r0)), .val (.int i1), .val (.ref (ad Z ca r2)), .val (.ref (ad Z ca r3)), .val (.ref (ad Z ca r4)), .val (.ref (ad Z ca r5)), .val (.ref (ad Z ca r6)), .val (.int i7), x8, x9, x10, x11, x12, x13, x14, x15]) b23_64_66 rfl ?_
        obtain ⟨hb1, hM⟩ := own_ite hM
        obtain ⟨q2, hq2, hM⟩ := own_bind hM
        refine o_callFU (W := 0) (argsL := []) (rest := []) (pc' := 71) (own_word hw 97 rfl) (own_word hw 98 rfl) (own_word hw 99 rfl) (by decide) (by decide) (own_word hw 100 rfl) (own_word hw 101 rfl) (own_word hw 102 rfl) (own_word hw 103 rfl) (own_word hw 82 rfl) (own_word hw 104 rfl) (own_word hw 53 rfl) (by decide) (R.exa (t := 1) hb1) (fun hE => rm_isemp l Z a0 hw ca K H r6 q2 h hE R hq2) d23_66 pd_7 rfl rfl rfl (Nat.le_of_eq rfl) (by decide) (by decide) (by show (7 + 1 * t) + 0 ≤ 15; omega) (by show (60 + 8 * t) + 0 ≤ 124; omega) rfl ?_
        rintro _ h_q2 ⟨rfl, R_q2⟩ hs_q2
        refine o_if (pc' := 307) (pc'' := 74) d23_71 (by decide) (by decide) rfl (fun (hc71_3 : ¬ q2.2 = 0) => ?_) (fun (hc71_3 : q2.2 = 0) => ?_)
        ·
          rw [if_neg hc71_3] at hM
          refine o_blk (pc' := 309) (st' := [(.int i7)]) (ls' := #[.val (.ref (ad Z ca r0)), .val (.int i1), .val (.ref (ad Z ca r2)), .val (.ref (ad Z ca r3)), .val (.ref (ad Z ca r4)), .val (.ref (ad Z ca r5)), .val (.ref (ad Z ca r6)), .val (.int i7), x8, x9, x10, x11, x12, x13, x14, x15]) b23_307_309 rfl ?_
          cases hM
          exact o_retI d23_309 (by show ((7 + 1 * t) + 0) ≤ 15; omega) (by show ((60 + 8 * t) + 0) ≤ 124; omega) rfl ⟨rfl, R_q2⟩
        ·
          rw [if_pos hc71_3] at hM
          refine o_blk (pc' := 76) (st' := [(.ref (ad Z ca r6))]) (ls' := #[.val (.ref (ad Z ca r0)), .val (.int i1), .val (.ref (ad Z ca r2)), .val (.ref (ad Z ca r3)), .val (.ref (ad Z ca r4)), .val (.ref (ad Z ca r5)), .val (.ref (ad Z ca r6)), .val (.int i7), x8, x9, x10, x11, x12, x13, x14, x15]) b23_74_76 rfl ?_
          obtain ⟨hb4, hM⟩ := own_ite hM
          obtain ⟨q5, hq5, hM⟩ := own_bind hM
          refine o_callF (W := 0) (argsL := []) (rest := []) (pc' := 81) (own_word hw 105 rfl) (own_word hw 106 rfl) (own_word hw 107 rfl) rfl (own_word hw 108 rfl) (own_word hw 109 rfl) (own_word hw 110 rfl) (own_word hw 111 rfl) (own_word hw 82 rfl) (own_word hw 112 rfl) (own_word hw 53 rfl) (by decide) (R_q2.exa (t := 1) hb4) (fun hE => rm_pop l Z a0 hw ca K q2.1 r6 q5 h_q2 hE R_q2 hq5) d23_76 pd_4 rfl rfl rfl (Nat.le_of_eq rfl) (by decide) (by decide) (by show ((7 + 1 * t) + 0) + 0 ≤ 15; omega) (by show ((60 + 8 * t) + 0) + 0 ≤ 124; omega) rfl ?_
          rintro _ h_q5 ⟨rfl, R_q5⟩ hs_q5
          obtain ⟨hb6, hM⟩ := own_ite hM
          refine m_castA (pc' := 84) R_q5 hb6 (own_word hw 19 rfl) d23_81 rfl ?_
          refine o_stP (pc' := 86) (st' := []) (ls' := #[.val (.ref (ad Z ca r0)), .val (.int i1), .val (.ref (ad Z ca r2)), .val (.ref (ad Z ca r3)), .val (.ref (ad Z ca r4)), .val (.ref (ad Z ca r5)), .val (.ref (ad Z ca r6)), .val (.int i7), .val (.ref (ad Z ca q5.2)), x9, x10, x11, x12, x13, x14, x15]) d23_84 rfl rfl (own_stA (x := x8) rfl p8) ?_
          refine o_blk (pc' := 90) (st' := [(.int (0 : Int32)), (.ref (ad Z ca q5.2)), (.ref (ad Z ca r0))]) (ls' := #[.val (.ref (ad Z ca r0)), .val (.int i1), .val (.ref (ad Z ca r2)), .val (.ref (ad Z ca r3)), .val (.ref (ad Z ca r4)), .val (.ref (ad Z ca r5)), .val (.ref (ad Z ca r6)), .val (.int i7), .val (.ref (ad Z ca q5.2)), x9, x10, x11, x12, x13, x14, x15]) b23_86_90 rfl ?_
          obtain ⟨q7, hq7, hM⟩ := own_bind hM
          refine m_iald (pc' := 91) R_q5 hq7 d23_90 rfl ?_
          refine o_blk (pc' := 95) (st' := [(.ref (ad Z ca r4)), (.ref (ad Z ca r3)), (.ref (ad Z ca r2)), (.int q7), (.ref (ad Z ca r0))]) (ls' := #[.val (.ref (ad Z ca r0)), .val (.int i1), .val (.ref (ad Z ca r2)), .val (.ref (ad Z ca r3)), .val (.ref (ad Z ca r4)), .val (.ref (ad Z ca r5)), .val (.ref (ad Z ca r6)), .val (.int i7), .val (.ref (ad Z ca q5.2)), x9, x10, x11, x12, x13, x14, x15]) b23_91_95 rfl ?_
          obtain ⟨hb8, hM⟩ := own_ite hM
          obtain ⟨q9, hq9, hM⟩ := own_bind hM
          refine o_callP (W := 0) (argsL := [(.int q7), (.ref (ad Z ca r2)), (.ref (ad Z ca r3)), (.ref (ad Z ca r4))]) (rest := []) (pc' := 98) (own_word hw 147 rfl) (own_word hw 148 rfl) (own_word hw 149 rfl) (own_word hw 6 rfl) (own_word hw 150 rfl) (own_word hw 7 rfl) (by decide) (R_q5.exa (t := 0) hb8) (fun hE => rm_rea l Z a0 hw ca K q5.1 r0 q7 r2 r3 r4 q9 h_q5 hE R_q5 hq9) d23_95 pd_9 rfl rfl rfl (Nat.le_of_eq rfl) (by decide) (by decide) (by show (((7 + 1 * t) + 0) + 0) + 0 ≤ 15; omega) (by show (((60 + 8 * t) + 0) + 0) + 0 ≤ 124; omega) rfl ?_
          rintro _ h_q9 ⟨rfl, R_q9⟩ hs_q9
          refine o_stP (pc' := 100) (st' := []) (ls' := #[.val (.ref (ad Z ca r0)), .val (.int i1), .val (.ref (ad Z ca r2)), .val (.ref (ad Z ca r3)), .val (.ref (ad Z ca r4)), .val (.ref (ad Z ca r5)), .val (.ref (ad Z ca r6)), .val (.int i7), .val (.ref (ad Z ca q5.2)), .val (.int q9.2), x10, x11, x12, x13, x14, x15]) d23_98 rfl rfl (own_stI (x := x9) rfl p9) ?_
          refine o_blk (pc' := 104) (st' := [(.int (q9.2 - (1 : Int32)))]) (ls' := #[.val (.ref (ad Z ca r0)), .val (.int i1), .val (.ref (ad Z ca r2)), .val (.ref (ad Z ca r3)), .val (.ref (ad Z ca r4)), .val (.ref (ad Z ca r5)), .val (.ref (ad Z ca r6)), .val (.int i7), .val (.ref (ad Z ca q5.2)), .val (.int q9.2), x10, x11, x12, x13, x14, x15]) b23_100_104 rfl ?_
          refine o_stP (pc' := 106) (st' := []) (ls' := #[.val (.ref (ad Z ca r0)), .val (.int i1), .val (.ref (ad Z ca r2)), .val (.ref (ad Z ca r3)), .val (.ref (ad Z ca r4)), .val (.ref (ad Z ca r5)), .val (.ref (ad Z ca r6)), .val (.int i7), .val (.ref (ad Z ca q5.2)), .val (.int q9.2), .val (.int (q9.2 - (1 : Int32))), x11, x12, x13, x14, x15]) d23_104 rfl rfl (own_stI (x := x10) rfl p10) ?_
          exact ih_106 _ _ t (by omega) (((((7 + 1 * t) + 0) + 0) + 0)) (((((60 + 8 * t) + 0) + 0) + 0)) (by omega) (by omega) _ _ _ _ _ _ _ _ _ _ p11 _ p12 _ p13 _ p14 _ p15 R_q9 hM
      · intro h H t ht c s ec es r2 r3 r4 r5 r6 i7 r8 i9 i10 x11 p11 x12 p12 x13 p13 x14 p14 x15 p15 R hM
        subst ec es
        have hM : B_dcp_106 r0 i1 (L_dcp r0 i1 f) H t r2 r3 r4 r5 r6 i7 r8 i9 i10 0 0 0 0 0 0 = some res := hM
        unfold B_dcp_106 at hM
        refine o_blk (pc' := 108) (st' := [(.int i10)]) (ls' := #[.val (.ref (ad Z ca r0)), .val (.int i1), .val (.ref (ad Z ca r2)), .val (.ref (ad Z ca r3)), .val (.ref (ad Z ca r4)), .val (.ref (ad Z ca r5)), .val (.ref (ad Z ca r6)), .val (.int i7), .val (.ref (ad Z ca r8)), .val (.int i9), .val (.int i10), x11, x12, x13, x14, x15]) b23_106_108 rfl ?_
        refine o_if (pc' := 196) (pc'' := 111) d23_108 (by decide) (by decide) rfl (fun (hc108_1 : i10 < 0) => ?_) (fun (hc108_1 : ¬ i10 < 0) => ?_)
        ·
          rw [if_pos hc108_1] at hM
          refine o_blk (pc' := 200) (st' := [(.int (0 : Int32)), (.ref (ad Z ca r8)), (.ref (ad Z ca r0))]) (ls' := #[.val (.ref (ad Z ca r0)), .val (.int i1), .val (.ref (ad Z ca r2)), .val (.ref (ad Z ca r3)), .val (.ref (ad Z ca r4)), .val (.ref (ad Z ca r5)), .val (.ref (ad Z ca r6)), .val (.int i7), .val (.ref (ad Z ca r8)), .val (.int i9), .val (.int i10), x11, x12, x13, x14, x15]) b23_196_200 rfl ?_
          obtain ⟨q2, hq2, hM⟩ := own_bind hM
          refine m_iald (pc' := 201) R hq2 d23_200 rfl ?_
          refine o_blk (pc' := 208) (st' := [(.ref (ad Z ca r5)), (.ref (ad Z ca r4)), (.ref (ad Z ca r2)), (.int i9), (.int q2), (.ref (ad Z ca r0))]) (ls' := #[.val (.ref (ad Z ca r0)), .val (.int i1), .val (.ref (ad Z ca r2)), .val (.ref (ad Z ca r3)), .val (.ref (ad Z ca r4)), .val (.ref (ad Z ca r5)), .val (.ref (ad Z ca r6)), .val (.int i7), .val (.ref (ad Z ca r8)), .val (.int i9), .val (.int i10), x11, x12, x13, x14, x15]) b23_201_208 rfl ?_
          obtain ⟨hb3, hM⟩ := own_ite hM
          obtain ⟨q4, hq4, hM⟩ := own_bind hM
          refine o_callP (W := 0) (argsL := [(.int q2), (.int i9), (.ref (ad Z ca r2)), (.ref (ad Z ca r4)), (.ref (ad Z ca r5))]) (rest := []) (pc' := 211) (own_word hw 151 rfl) (own_word hw 152 rfl) (own_word hw 153 rfl) (own_word hw 6 rfl) (own_word hw 154 rfl) (own_word hw 7 rfl) (by decide) (R.exa (t := 0) hb3) (fun hE => rm_hea l Z a0 hw ca K H r0 q2 i9 r2 r4 r5 q4 h hE R hq4) d23_208 pd_10 rfl rfl rfl (Nat.le_of_eq rfl) (by decide) (by decide) (by show (7 + 1 * t) + 0 ≤ 15; omega) (by show (60 + 8 * t) + 0 ≤ 124; omega) rfl ?_
          rintro _ h_q4 ⟨rfl, R_q4⟩ hs_q4
          refine o_blk (pc' := 213) (st' := []) (ls' := #[.val (.ref (ad Z ca r0)), .val (.int i1), .val (.ref (ad Z ca r2)), .val (.ref (ad Z ca r3)), .val (.ref (ad Z ca r4)), .val (.ref (ad Z ca r5)), .val (.ref (ad Z ca r6)), .val (.int i7), .val (.ref (ad Z ca r8)), .val (.int i9), .val (.int q4.2), x11, x12, x13, x14, x15]) b23_211_213 rfl ?_
          refine o_blk (pc' := 217) (st' := [(.int (1 : Int32)), (.int q4.2), (.ref (ad Z ca r2))]) (ls' := #[.val (.ref (ad Z ca r0)), .val (.int i1), .val (.ref (ad Z ca r2)), .val (.ref (ad Z ca r3)), .val (.ref (ad Z ca r4)), .val (.ref (ad Z ca r5)), .val (.ref (ad Z ca r6)), .val (.int i7), .val (.ref (ad Z ca r8)), .val (.int i9), .val (.int q4.2), x11, x12, x13, x14, x15]) b23_213_217 rfl ?_
          obtain ⟨q5, hq5, hM⟩ := own_bind hM
          refine m_zast (pc' := 218) R_q4 hq5 d23_217 rfl ?_
          intro h_q5 R_q5
          refine o_blk (pc' := 219) (st' := [(.ref (ad Z ca r0))]) (ls' := #[.val (.ref (ad Z ca r0)), .val (.int i1), .val (.ref (ad Z ca r2)), .val (.ref (ad Z ca r3)), .val (.ref (ad Z ca r4)), .val (.ref (ad Z ca r5)), .val (.ref (ad Z ca r6)), .val (.int i7), .val (.ref (ad Z ca r8)), .val (.int i9), .val (.int q4.2), x11, x12, x13, x14, x15]) b23_218_219 rfl ?_
          obtain ⟨q6, hq6, hM⟩ := own_bind hM
          refine m_getR (t := 0) (i := 5) (pc' := 222) R_q5 hq6 rfl rfl (own_word hw 45 rfl) d23_219 rfl ?_
          refine o_blk (pc' := 227) (st' := [(.int (1 : Int32)), (.ref (ad Z ca r8)), (.int q4.2), (.ref (ad Z ca q6))]) (ls' := #[.val (.ref (ad Z ca r0)), .val (.int i1), .val (.ref (ad Z ca r2)), .val (.ref (ad Z ca r3)), .val (.ref (ad Z ca r4)), .val (.ref (ad Z ca r5)), .val (.ref (ad Z ca r6)), .val (.int i7), .val (.ref (ad Z ca r8)), .val (.int i9), .val (.int q4.2), x11, x12, x13, x14, x15]) b23_222_227 rfl ?_
          obtain ⟨q7, hq7, hM⟩ := own_bind hM
          refine m_iald (pc' := 228) R_q5 hq7 d23_227 rfl ?_
          obtain ⟨q8, hq8, hM⟩ := own_bind hM
          refine m_iast (pc' := 229) R_q5 hq8 d23_228 rfl ?_
          intro h_q8 R_q8
          refine o_blk (pc' := 232) (st' := [(.int (1 : Int32)), (.ref (ad Z ca r8))]) (ls' := #[.val (.ref (ad Z ca r0)), .val (.int i1), .val (.ref (ad Z ca r2)), .val (.ref (ad Z ca r3)), .val (.ref (ad Z ca r4)), .val (.ref (ad Z ca r5)), .val (.ref (ad Z ca r6)), .val (.int i7), .val (.ref (ad Z ca r8)), .val (.int i9), .val (.int q4.2), x11, x12, x13, x14, x15]) b23_229_232 rfl ?_
          obtain ⟨q9, hq9, hM⟩ := own_bind hM
          refine m_iald (pc' := 233) R_q8 hq9 d23_232 rfl ?_
          refine o_if (pc' := 240) (pc'' := 236) d23_233 (by decide) (by decide) rfl (fun (hc233_10 : ¬ q9 < 0) => ?_) (fun (hc233_10 : q9 < 0) => ?_)
          ·
            rw [if_neg hc233_10] at hM
            refine o_blk (pc' := 241) (st' := [(.ref (ad Z ca r0))]) (ls' := #[.val (.ref (ad Z ca r0)), .val (.int i1), .val (.ref (ad Z ca r2)), .val (.ref (ad Z ca r3)), .val (.ref (ad Z ca r4)), .val (.ref (ad Z ca r5)), .val (.ref (ad Z ca r6)), .val (.int i7), .val (.ref (ad Z ca r8)), .val (.int i9), .val (.int q4.2), x11, x12, x13, x14, x15]) b23_240_241 rfl ?_
            obtain ⟨q11, hq11, hM⟩ := own_bind hM
            refine m_getR (t := 0) (i := 2) (pc' := 244) R_q8 hq11 rfl rfl (own_word hw 39 rfl) d23_241 rfl ?_
            refine o_blk (pc' := 246) (st' := [(.int q4.2), (.ref (ad Z ca q11))]) (ls' := #[.val (.ref (ad Z ca r0)), .val (.int i1), .val (.ref (ad Z ca r2)), .val (.ref (ad Z ca r3)), .val (.ref (ad Z ca r4)), .val (.ref (ad Z ca r5)), .val (.ref (ad Z ca r6)), .val (.int i7), .val (.ref (ad Z ca r8)), .val (.int i9), .val (.int q4.2), x11, x12, x13, x14, x15]) b23_244_246 rfl ?_
            obtain ⟨q12, hq12, hM⟩ := own_bind hM
            refine m_aald (pc' := 247) R_q8 hq12 d23_246 rfl ?_
            refine o_stP (pc' := 249) (st' := []) (ls' := #[.val (.ref (ad Z ca r0)), .val (.int i1), .val (.ref (ad Z ca r2)), .val (.ref (ad Z ca r3)), .val (.ref (ad Z ca r4)), .val (.ref (ad Z ca r5)), .val (.ref (ad Z ca r6)), .val (.int i7), .val (.ref (ad Z ca r8)), .val (.int i9), .val (.int q4.2), .val (.ref (ad Z ca q12)), x12, x13, x14, x15]) d23_247 rfl rfl (own_stA (x := x11) rfl p11) ?_
            refine o_blk (pc' := 251) (st' := [(.ref (ad Z ca q12))]) (ls' := #[.val (.ref (ad Z ca r0)), .val (.int i1), .val (.ref (ad Z ca r2)), .val (.ref (ad Z ca r3)), .val (.ref (ad Z ca r4)), .val (.ref (ad Z ca r5)), .val (.ref (ad Z ca r6)), .val (.int i7), .val (.ref (ad Z ca r8)), .val (.int i9), .val (.int q4.2), .val (.ref (ad Z ca q12)), x12, x13, x14, x15]) b23_249_251 rfl ?_
            obtain ⟨q13, hq13, hM⟩ := own_bind hM
            refine m_len (pc' := 252) R_q8 hq13 d23_251 rfl ?_
            refine o_stP (pc' := 254) (st' := []) (ls' := #[.val (.ref (ad Z ca r0)), .val (.int i1), .val (.ref (ad Z ca r2)), .val (.ref (ad Z ca r3)), .val (.ref (ad Z ca r4)), .val (.ref (ad Z ca r5)), .val (.ref (ad Z ca r6)), .val (.int i7), .val (.ref (ad Z ca r8)), .val (.int i9), .val (.int q4.2), .val (.ref (ad Z ca q12)), .val (.int q13), x13, x14, x15]) d23_252 rfl rfl (own_stI (x := x12) rfl p12) ?_
            refine o_blk (pc' := 255) (st' := [(.int (0 : Int32))]) (ls' := #[.val (.ref (ad Z ca r0)), .val (.int i1), .val (.ref (ad Z ca r2)), .val (.ref (ad Z ca r3)), .val (.ref (ad Z ca r4)), .val (.ref (ad Z ca r5)), .val (.ref (ad Z ca r6)), .val (.int i7), .val (.ref (ad Z ca r8)), .val (.int i9), .val (.int q4.2), .val (.ref (ad Z ca q12)), .val (.int q13), x13, x14, x15]) b23_254_255 rfl ?_
            refine o_stP (pc' := 257) (st' := []) (ls' := #[.val (.ref (ad Z ca r0)), .val (.int i1), .val (.ref (ad Z ca r2)), .val (.ref (ad Z ca r3)), .val (.ref (ad Z ca r4)), .val (.ref (ad Z ca r5)), .val (.ref (ad Z ca r6)), .val (.int i7), .val (.ref (ad Z ca r8)), .val (.int i9), .val (.int q4.2), .val (.ref (ad Z ca q12)), .val (.int q13), .val (.int (0 : Int32)), x14, x15]) d23_255 rfl rfl (own_stI (x := x13) rfl p13) ?_
            exact ih_257 _ _ t (by omega) (((7 + 1 * t) + 0)) (((60 + 8 * t) + 0)) (by omega) (by omega) _ _ _ _ _ _ _ _ _ _ _ (Pl.r _) _ (Pl.i _) _ p14 _ p15 R_q8 hM
          ·
            rw [if_pos hc233_10] at hM
            refine o_blk (pc' := 240) (st' := []) (ls' := #[.val (.ref (ad Z ca r0)), .val (.int i1), .val (.ref (ad Z ca r2)), .val (.ref (ad Z ca r3)), .val (.ref (ad Z ca r4)), .val (.ref (ad Z ca r5)), .val (.ref (ad Z ca r6)), .val (.int q4.2), .val (.ref (ad Z ca r8)), .val (.int i9), .val (.int q4.2), x11, x12, x13, x14, x15]) b23_236_240 rfl ?_
            refine o_blk (pc' := 241) (st' := [(.ref (ad Z ca r0))]) (ls' := #[.val (.ref (ad Z ca r0)), .val (.int i1), .val (.ref (ad Z ca r2)), .val (.ref (ad Z ca r3)), .val (.ref (ad Z ca r4)), .val (.ref (ad Z ca r5)), .val (.ref (ad Z ca r6)), .val (.int q4.2), .val (.ref (ad Z ca r8)), .val (.int i9), .val (.int q4.2), x11, x12, x13, x14, x15]) b23_240_241 rfl ?_
            obtain ⟨q14, hq14, hM⟩ := own_bind hM
            refine m_getR (t := 0) (i := 2) (pc' := 244) R_q8 hq14 rfl rfl (own_word hw 39 rfl) d23_241 rfl ?_
            refine o_blk (pc' := 246) (st' := [(.int q4.2), (.ref (ad Z ca q14))]) (ls' := #[.val (.ref (ad Z ca r0)), .val (.int i1), .val (.ref (ad Z ca r2)), .val (.ref (ad Z ca r3)), .val (.ref (ad Z ca r4)), .val (.ref (ad Z ca r5)), .val (.ref (ad Z ca r6)), .val (.int q4.2), .val (.ref (ad Z ca r8)), .val (.int i9), .val (.int q4.2), x11, x12, x13, x14, x15]) b23_244_246 rfl ?_
            obtain ⟨q15, hq15, hM⟩ := own_bind hM
            refine m_aald (pc' := 247) R_q8 hq15 d23_246 rfl ?_
            refine o_stP (pc' := 249) (st' := []) (ls' := #[.val (.ref (ad Z ca r0)), .val (.int i1), .val (.ref (ad Z ca r2)), .val (.ref (ad Z ca r3)), .val (.ref (ad Z ca r4)), .val (.ref (ad Z ca r5)), .val (.ref (ad Z ca r6)), .val (.int q4.2), .val (.ref (ad Z ca r8)), .val (.int i9), .val (.int q4.2), .val (.ref (ad Z ca q15)), x12, x13, x14, x15]) d23_247 rfl rfl (own_stA (x := x11) rfl p11) ?_
            refine o_blk (pc' := 251) (st' := [(.ref (ad Z ca q15))]) (ls' := #[.val (.ref (ad Z ca r0)), .val (.int i1), .val (.ref (ad Z ca r2)), .val (.ref (ad Z ca r3)), .val (.ref (ad Z ca r4)), .val (.ref (ad Z ca r5)), .val (.ref (ad Z ca r6)), .val (.int q4.2), .val (.ref (ad Z ca r8)), .val (.int i9), .val (.int q4.2), .val (.ref (ad Z ca q15)), x12, x13, x14, x15]) b23_249_251 rfl ?_
            obtain ⟨q16, hq16, hM⟩ := own_bind hM
            refine m_len (pc' := 252) R_q8 hq16 d23_251 rfl ?_
            refine o_stP (pc' := 254) (st' := []) (ls' := #[.val (.ref (ad Z ca r0)), .val (.int i1), .val (.ref (ad Z ca r2)), .val (.ref (ad Z ca r3)), .val (.ref (ad Z ca r4)), .val (.ref (ad Z ca r5)), .val (.ref (ad Z ca r6)), .val (.int q4.2), .val (.ref (ad Z ca r8)), .val (.int i9), .val (.int q4.2), .val (.ref (ad Z ca q15)), .val (.int q16), x13, x14, x15]) d23_252 rfl rfl (own_stI (x := x12) rfl p12) ?_
            refine o_blk (pc' := 255) (st' := [(.int (0 : Int32))]) (ls' := #[.val (.ref (ad Z ca r0)), .val (.int i1), .val (.ref (ad Z ca r2)), .val (.ref (ad Z ca r3)), .val (.ref (ad Z ca r4)), .val (.ref (ad Z ca r5)), .val (.ref (ad Z ca r6)), .val (.int q4.2), .val (.ref (ad Z ca r8)), .val (.int i9), .val (.int q4.2), .val (.ref (ad Z ca q15)), .val (.int q16), x13, x14, x15]) b23_254_255 rfl ?_
            refine o_stP (pc' := 257) (st' := []) (ls' := #[.val (.ref (ad Z ca r0)), .val (.int i1), .val (.ref (ad Z ca r2)), .val (.ref (ad Z ca r3)), .val (.ref (ad Z ca r4)), .val (.ref (ad Z ca r5)), .val (.ref (ad Z ca r6)), .val (.int q4.2), .val (.ref (ad Z ca r8)), .val (.int i9), .val (.int q4.2), .val (.ref (ad Z ca q15)), .val (.int q16), .val (.int (0 : Int32)), x14, x15]) d23_255 rfl rfl (own_stI (x := x13) rfl p13) ?_
            exact ih_257 _ _ t (by omega) (((7 + 1 * t) + 0)) (((60 + 8 * t) + 0)) (by omega) (by omega) _ _ _ _ _ _ _ _ _ _ _ (Pl.r _) _ (Pl.i _) _ p14 _ p15 R_q8 hM
        ·
          rw [if_neg hc108_1] at hM
          refine o_blk (pc' := 114) (st' := [(.int i10), (.ref (ad Z ca r3))]) (ls' := #[.val (.ref (ad Z ca r0)), .val (.int i1), .val (.ref (ad Z ca r2)), .val (.ref (ad Z ca r3)), .val (.ref (ad Z ca r4)), .val (.ref (ad Z ca r5)), .val (.ref (ad Z ca r6)), .val (.int i7), .val (.ref (ad Z ca r8)), .val (.int i9), .val (.int i10), x11, x12, x13, x14, x15]) b23_111_114 rfl ?_
          obtain ⟨q17, hq17, hM⟩ := own_bind hM
          refine m_iald (pc' := 115) R hq17 d23_114 rfl ?_
          refine o_stP (pc' := 117) (st' := []) (ls' := #[.val (.ref (ad Z ca r0)), .val (.int i1), .val (.ref (ad Z ca r2)), .val (.ref (ad Z ca r3)), .val (.ref (ad Z ca r4)), .val (.ref (ad Z ca r5)), .val (.ref (ad Z ca r6)), .val (.int i7), .val (.ref (ad Z ca r8)), .val (.int i9), .val (.int i10), .val (.int q17), x12, x13, x14, x15]) d23_115 rfl rfl (own_stI (x := x11) rfl p11) ?_
          refine o_blk (pc' := 122) (st' := [(.int (1 : Int32)), (.int q17), (.ref (ad Z ca r5))]) (ls' := #[.val (.ref (ad Z ca r0)), .val (.int i1), .val (.ref (ad Z ca r2)), .val (.ref (ad Z ca r3)), .val (.ref (ad Z ca r4)), .val (.ref (ad Z ca r5)), .val (.ref (ad Z ca r6)), .val (.int i7), .val (.ref (ad Z ca r8)), .val (.int i9), .val (.int i10), .val (.int q17), x12, x13, x14, x15]) b23_117_122 rfl ?_
          obtain ⟨q18, hq18, hM⟩ := own_bind hM
          refine m_iast (pc' := 123) R hq18 d23_122 rfl ?_
          intro h_q18 R_q18
          refine o_blk (pc' := 124) (st' := [(.ref (ad Z ca r0))]) (ls' := #[.val (.ref (ad Z ca r0)), .val (.int i1), .val (.ref (ad Z ca r2)), .val (.ref (ad Z ca r3)), .val (.ref (ad Z ca r4)), .val (.ref (ad Z ca r5)), .val (.ref (ad Z ca r6)), .val (.int i7), .val (.ref (ad Z ca r8)), .val (.int i9), .val (.int i10), .val (.int q17), x12, x13, x14, x15]) b23_123_124 rfl ?_
          obtain ⟨q19, hq19, hM⟩ := own_bind hM
          refine m_getR (t := 0) (i := 2) (pc' := 127) R_q18 hq19 rfl rfl (own_word hw 39 rfl) d23_124 rfl ?_
          refine o_blk (pc' := 129) (st' := [(.int q17), (.ref (ad Z ca q19))]) (ls' := #[.val (.ref (ad Z ca r0)), .val (.int i1), .val (.ref (ad Z ca r2)), .val (.ref (ad Z ca r3)), .val (.ref (ad Z ca r4)), .val (.ref (ad Z ca r5)), .val (.ref (ad Z ca r6)), .val (.int i7), .val (.ref (ad Z ca r8)), .val (.int i9), .val (.int i10), .val (.int q17), x12, x13, x14, x15]) b23_127_129 rfl ?_
          obtain ⟨q20, hq20, hM⟩ := own_bind hM
          refine m_aald (pc' := 130) R_q18 hq20 d23_129 rfl ?_
          refine o_stP (pc' := 132) (st' := []) (ls' := #[.val (.ref (ad Z ca r0)), .val (.int i1), .val (.ref (ad Z ca r2)), .val (.ref (ad Z ca r3)), .val (.ref (ad Z ca r4)), .val (.ref (ad Z ca r5)), .val (.ref (ad Z ca r6)), .val (.int i7), .val (.ref (ad Z ca r8)), .val (.int i9), .val (.int i10), .val (.int q17), .val (.ref (ad Z ca q20)), x13, x14, x15]) d23_130 rfl rfl (own_stA (x := x12) rfl p12) ?_
          refine o_blk (pc' := 134) (st' := [(.ref (ad Z ca q20))]) (ls' := #[.val (.ref (ad Z ca r0)), .val (.int i1), .val (.ref (ad Z ca r2)), .val (.ref (ad Z ca r3)), .val (.ref (ad Z ca r4)), .val (.ref (ad Z ca r5)), .val (.ref (ad Z ca r6)), .val (.int i7), .val (.ref (ad Z ca r8)), .val (.int i9), .val (.int i10), .val (.int q17), .val (.ref (ad Z ca q20)), x13, x14, x15]) b23_132_134 rfl ?_
          obtain ⟨q21, hq21, hM⟩ := own_bind hM
          refine m_len (pc' := 135) R_q18 hq21 d23_134 rfl ?_
          refine o_stP (pc' := 137) (st' := []) (ls' := #[.val (.ref (ad Z ca r0)), .val (.int i1), .val (.ref (ad Z ca r2)), .val (.ref (ad Z ca r3)), .val (.ref (ad Z ca r4)), .val (.ref (ad Z ca r5)), .val (.ref (ad Z ca r6)), .val (.int i7), .val (.ref (ad Z ca r8)), .val (.int i9), .val (.int i10), .val (.int q17), .val (.ref (ad Z ca q20)), .val (.int q21), x14, x15]) d23_135 rfl rfl (own_stI (x := x13) rfl p13) ?_
          refine o_blk (pc' := 138) (st' := [(.int (0 : Int32))]) (ls' := #[.val (.ref (ad Z ca r0)), .val (.int i1), .val (.ref (ad Z ca r2)), .val (.ref (ad Z ca r3)), .val (.ref (ad Z ca r4)), .val (.ref (ad Z ca r5)), .val (.ref (ad Z ca r6)), .val (.int i7), .val (.ref (ad Z ca r8)), .val (.int i9), .val (.int i10), .val (.int q17), .val (.ref (ad Z ca q20)), .val (.int q21), x14, x15]) b23_137_138 rfl ?_
          refine o_stP (pc' := 140) (st' := []) (ls' := #[.val (.ref (ad Z ca r0)), .val (.int i1), .val (.ref (ad Z ca r2)), .val (.ref (ad Z ca r3)), .val (.ref (ad Z ca r4)), .val (.ref (ad Z ca r5)), .val (.ref (ad Z ca r6)), .val (.int i7), .val (.ref (ad Z ca r8)), .val (.int i9), .val (.int i10), .val (.int q17), .val (.ref (ad Z ca q20)), .val (.int q21), .val (.int (0 : Int32)), x15]) d23_138 rfl rfl (own_stI (x := x14) rfl p14) ?_
          exact ih_140 _ _ t (by omega) ((7 + 1 * t)) ((60 + 8 * t)) (by omega) (by omega) _ _ _ _ _ _ _ _ _ _ _ _ _ _ p15 R_q18 hM
      · intro h H t ht c s ec es r2 r3 r4 r5 r6 i7 r8 i9 i10 i11 r12 i13 i14 x15 p15 R hM
        subst ec es
        have hM : B_dcp_140 r0 i1 (L_dcp r0 i1 f) H t r2 r3 r4 r5 r6 i7 r8 i9 i10 i11 0 0 r12 i13 i14 = some res := hM
        unfold B_dcp_140 at hM
        refine o_blk (pc' := 144) (st' := [(.int i13), (.int i14)]) (ls' := #[.val (.ref (ad Z ca r0)), .val (.int i1), .val (.ref (ad Z ca r2)), .val (.ref (ad Z ca r3)), .val (.ref (ad Z ca r4)), .val (.ref (ad Z ca r5)), .val (.ref (ad Z ca r6)), .val (.int i7), .val (.ref (ad Z ca r8)), .val (.int i9), .val (.int i10), .val (.int i11), .val (.ref (ad Z ca r12)), .val (.int i13), .val (.int i14), x15]) b23_140_144 rfl ?_
        refine o_ic (pc' := 190) (pc'' := 147) d23_144 (by decide) (by decide) rfl (fun (hc144_1 : ¬ i14 < i13) => ?_) (fun (hc144_1 : i14 < i13) => ?_)
        ·
          rw [if_neg hc144_1] at hM
          refine o_blk (pc' := 193) (st' := []) (ls' := #[.val (.ref (ad Z ca r0)), .val (.int i1), .val (.ref (ad Z ca r2)), .val (.ref (ad Z ca r3)), .val (.ref (ad Z ca r4)), .val (.ref (ad Z ca r5)), .val (.ref (ad Z ca r6)), .val (.int i7), .val (.ref (ad Z ca r8)), .val (.int i9), .val (.int (i10 + (-1 : Int32))), .val (.int i11), .val (.ref (ad Z ca r12)), .val (.int i13), .val (.int i14), x15]) b23_190_193 rfl ?_
          refine o_goto (pc' := 106) d23_193 (by decide) (by decide) ?_
          exact ih_106 _ _ t (by omega) ((7 + 1 * t)) ((60 + 8 * t)) (by omega) (by omega) _ _ _ _ _ _ _ _ _ _ (Pl.i _) _ (Pl.r _) _ (Pl.i _) _ (Pl.i _) _ p15 R hM
        ·
          rw [if_pos hc144_1] at hM
          refine o_blk (pc' := 151) (st' := [(.int i14), (.ref (ad Z ca r12))]) (ls' := #[.val (.ref (ad Z ca r0)), .val (.int i1), .val (.ref (ad Z ca r2)), .val (.ref (ad Z ca r3)), .val (.ref (ad Z ca r4)), .val (.ref (ad Z ca r5)), .val (.ref (ad Z ca r6)), .val (.int i7), .val (.ref (ad Z ca r8)), .val (.int i9), .val (.int i10), .val (.int i11), .val (.ref (ad Z ca r12)), .val (.int i13), .val (.int i14), x15]) b23_147_151 rfl ?_
          obtain ⟨q2, hq2, hM⟩ := own_bind hM
          refine m_iald (pc' := 152) R hq2 d23_151 rfl ?_
          refine o_stP (pc' := 154) (st' := []) (ls' := #[.val (.ref (ad Z ca r0)), .val (.int i1), .val (.ref (ad Z ca r2)), .val (.ref (ad Z ca r3)), .val (.ref (ad Z ca r4)), .val (.ref (ad Z ca r5)), .val (.ref (ad Z ca r6)), .val (.int i7), .val (.ref (ad Z ca r8)), .val (.int i9), .val (.int i10), .val (.int i11), .val (.ref (ad Z ca r12)), .val (.int i13), .val (.int i14), .val (.int q2)]) d23_152 rfl rfl (own_stI (x := x15) rfl p15) ?_
          refine o_blk (pc' := 157) (st' := [(.int q2), (.ref (ad Z ca r2))]) (ls' := #[.val (.ref (ad Z ca r0)), .val (.int i1), .val (.ref (ad Z ca r2)), .val (.ref (ad Z ca r3)), .val (.ref (ad Z ca r4)), .val (.ref (ad Z ca r5)), .val (.ref (ad Z ca r6)), .val (.int i7), .val (.ref (ad Z ca r8)), .val (.int i9), .val (.int i10), .val (.int i11), .val (.ref (ad Z ca r12)), .val (.int i13), .val (.int i14), .val (.int q2)]) b23_154_157 rfl ?_
          obtain ⟨q3, hq3, hM⟩ := own_bind hM
          refine m_zald (pc' := 158) R hq3 d23_157 rfl ?_
          refine o_if (pc' := 184) (pc'' := 161) d23_158 (by decide) (by decide) rfl (fun (hc158_4 : ¬ q3 = 0) => ?_) (fun (hc158_4 : q3 = 0) => ?_)
          ·
            rw [if_neg hc158_4] at hM
            refine o_blk (pc' := 187) (st' := []) (ls' := #[.val (.ref (ad Z ca r0)), .val (.int i1), .val (.ref (ad Z ca r2)), .val (.ref (ad Z ca r3)), .val (.ref (ad Z ca r4)), .val (.ref (ad Z ca r5)), .val (.ref (ad Z ca r6)), .val (.int i7), .val (.ref (ad Z ca r8)), .val (.int i9), .val (.int i10), .val (.int i11), .val (.ref (ad Z ca r12)), .val (.int i13), .val (.int (i14 + (1 : Int32))), .val (.int q2)]) b23_184_187 rfl ?_
            refine o_goto (pc' := 140) d23_187 (by decide) (by decide) ?_
            exact ih_140 _ _ t (by omega) ((7 + 1 * t)) ((60 + 8 * t)) (by omega) (by omega) _ _ _ _ _ _ _ _ _ _ _ _ _ _ (Pl.i _) R hM
          ·
            rw [if_pos hc158_4] at hM
            refine o_blk (pc' := 165) (st' := [(.int q2), (.ref (ad Z ca r4))]) (ls' := #[.val (.ref (ad Z ca r0)), .val (.int i1), .val (.ref (ad Z ca r2)), .val (.ref (ad Z ca r3)), .val (.ref (ad Z ca r4)), .val (.ref (ad Z ca r5)), .val (.ref (ad Z ca r6)), .val (.int i7), .val (.ref (ad Z ca r8)), .val (.int i9), .val (.int i10), .val (.int i11), .val (.ref (ad Z ca r12)), .val (.int i13), .val (.int i14), .val (.int q2)]) b23_161_165 rfl ?_
            obtain ⟨q5, hq5, hM⟩ := own_bind hM
            refine m_iald (pc' := 166) R hq5 d23_165 rfl ?_
            refine o_blk (pc' := 168) (st' := [(.int i11), (.int q5)]) (ls' := #[.val (.ref (ad Z ca r0)), .val (.int i1), .val (.ref (ad Z ca r2)), .val (.ref (ad Z ca r3)), .val (.ref (ad Z ca r4)), .val (.ref (ad Z ca r5)), .val (.ref (ad Z ca r6)), .val (.int i7), .val (.ref (ad Z ca r8)), .val (.int i9), .val (.int i10), .val (.int i11), .val (.ref (ad Z ca r12)), .val (.int i13), .val (.int i14), .val (.int q2)]) b23_166_168 rfl ?_
            refine o_ic (pc' := 184) (pc'' := 171) d23_168 (by decide) (by decide) rfl (fun (hc168_6 : ¬ q5 = i11) => ?_) (fun (hc168_6 : q5 = i11) => ?_)
            ·
              rw [if_neg hc168_6] at hM
              refine o_blk (pc' := 187) (st' := []) (ls' := #[.val (.ref (ad Z ca r0)), .val (.int i1), .val (.ref (ad Z ca r2)), .val (.ref (ad Z ca r3)), .val (.ref (ad Z ca r4)), .val (.ref (ad Z ca r5)), .val (.ref (ad Z ca r6)), .val (.int i7), .val (.ref (ad Z ca r8)), .val (.int i9), .val (.int i10), .val (.int i11), .val (.ref (ad Z ca r12)), .val (.int i13), .val (.int (i14 + (1 : Int32))), .val (.int q2)]) b23_184_187 rfl ?_
              refine o_goto (pc' := 140) d23_187 (by decide) (by decide) ?_
              exact ih_140 _ _ t (by omega) ((7 + 1 * t)) ((60 + 8 * t)) (by omega) (by omega) _ _ _ _ _ _ _ _ _ _ _ _ _ _ (Pl.i _) R hM
            ·
              rw [if_pos hc168_6] at hM
              refine o_blk (pc' := 176) (st' := [(.int i11), (.ref (ad Z ca r5)), (.int i11), (.ref (ad Z ca r5))]) (ls' := #[.val (.ref (ad Z ca r0)), .val (.int i1), .val (.ref (ad Z ca r2)), .val (.ref (ad Z ca r3)), .val (.ref (ad Z ca r4)), .val (.ref (ad Z ca r5)), .val (.ref (ad Z ca r6)), .val (.int i7), .val (.ref (ad Z ca r8)), .val (.int i9), .val (.int i10), .val (.int i11), .val (.ref (ad Z ca r12)), .val (.int i13), .val (.int i14), .val (.int q2)]) b23_171_176 rfl ?_
              obtain ⟨q7, hq7, hM⟩ := own_bind hM
              refine m_iald (pc' := 177) R hq7 d23_176 rfl ?_
              refine o_blk (pc' := 181) (st' := [(.int q2), (.ref (ad Z ca r5)), (.int q7), (.int i11), (.ref (ad Z ca r5))]) (ls' := #[.val (.ref (ad Z ca r0)), .val (.int i1), .val (.ref (ad Z ca r2)), .val (.ref (ad Z ca r3)), .val (.ref (ad Z ca r4)), .val (.ref (ad Z ca r5)), .val (.ref (ad Z ca r6)), .val (.int i7), .val (.ref (ad Z ca r8)), .val (.int i9), .val (.int i10), .val (.int i11), .val (.ref (ad Z ca r12)), .val (.int i13), .val (.int i14), .val (.int q2)]) b23_177_181 rfl ?_
              obtain ⟨q8, hq8, hM⟩ := own_bind hM
              refine m_iald (pc' := 182) R hq8 d23_181 rfl ?_
              refine o_blk (pc' := 183) (st' := [(.int (q7 + q8)), (.int i11), (.ref (ad Z ca r5))]) (ls' := #[.val (.ref (ad Z ca r0)), .val (.int i1), .val (.ref (ad Z ca r2)), .val (.ref (ad Z ca r3)), .val (.ref (ad Z ca r4)), .val (.ref (ad Z ca r5)), .val (.ref (ad Z ca r6)), .val (.int i7), .val (.ref (ad Z ca r8)), .val (.int i9), .val (.int i10), .val (.int i11), .val (.ref (ad Z ca r12)), .val (.int i13), .val (.int i14), .val (.int q2)]) b23_182_183 rfl ?_
              obtain ⟨q9, hq9, hM⟩ := own_bind hM
              refine m_iast (pc' := 184) R hq9 d23_183 rfl ?_
              intro h_q9 R_q9
              refine o_blk (pc' := 187) (st' := []) (ls' := #[.val (.ref (ad Z ca r0)), .val (.int i1), .val (.ref (ad Z ca r2)), .val (.ref (ad Z ca r3)), .val (.ref (ad Z ca r4)), .val (.ref (ad Z ca r5)), .val (.ref (ad Z ca r6)), .val (.int i7), .val (.ref (ad Z ca r8)), .val (.int i9), .val (.int i10), .val (.int i11), .val (.ref (ad Z ca r12)), .val (.int i13), .val (.int (i14 + (1 : Int32))), .val (.int q2)]) b23_184_187 rfl ?_
              refine o_goto (pc' := 140) d23_187 (by decide) (by decide) ?_
              exact ih_140 _ _ t (by omega) ((7 + 1 * t)) ((60 + 8 * t)) (by omega) (by omega) _ _ _ _ _ _ _ _ _ _ _ _ _ _ (Pl.i _) R_q9 hM
      · intro h H t ht c s ec es r2 r3 r4 r5 r6 i7 i10 r11 i12 i13 x8 p8 x9 p9 x14 p14 x15 p15 R hM
        subst ec es
        have hM : B_dcp_257 r0 i1 (L_dcp r0 i1 f) H t r2 r3 r4 r5 r6 i7 0 0 i10 0 r11 i12 0 i13 0 = some res := hM
        unfold B_dcp_257 at hM
        refine o_blk (pc' := 261) (st' := [(.int i12), (.int i13)]) (ls' := #[.val (.ref (ad Z ca r0)), .val (.int i1), .val (.ref (ad Z ca r2)), .val (.ref (ad Z ca r3)), .val (.ref (ad Z ca r4)), .val (.ref (ad Z ca r5)), .val (.ref (ad Z ca r6)), .val (.int i7), x8, x9, .val (.int i10), .val (.ref (ad Z ca r11)), .val (.int i12), .val (.int i13), x14, x15]) b23_257_261 rfl ?_
        refine o_ic (pc' := 304) (pc'' := 264) d23_261 (by decide) (by decide) rfl (fun (hc261_1 : ¬ i13 < i12) => ?_) (fun (hc261_1 : i13 < i12) => ?_)
        ·
          rw [if_neg hc261_1] at hM
          refine o_goto (pc' := 64) d23_304 (by decide) (by decide) ?_
          exact ih_64 _ _ t (by omega) ((7 + 1 * t)) ((60 + 8 * t)) (by omega) (by omega) _ _ _ _ _ _ _ p8 _ p9 _ (Pl.i _) _ (Pl.r _) _ (Pl.i _) _ (Pl.i _) _ p14 _ p15 R hM
        ·
          rw [if_pos hc261_1] at hM
          refine o_blk (pc' := 268) (st' := [(.int i13), (.ref (ad Z ca r11))]) (ls' := #[.val (.ref (ad Z ca r0)), .val (.int i1), .val (.ref (ad Z ca r2)), .val (.ref (ad Z ca r3)), .val (.ref (ad Z ca r4)), .val (.ref (ad Z ca r5)), .val (.ref (ad Z ca r6)), .val (.int i7), x8, x9, .val (.int i10), .val (.ref (ad Z ca r11)), .val (.int i12), .val (.int i13), x14, x15]) b23_264_268 rfl ?_
          obtain ⟨q2, hq2, hM⟩ := own_bind hM
          refine m_iald (pc' := 269) R hq2 d23_268 rfl ?_
          refine o_stP (pc' := 271) (st' := []) (ls' := #[.val (.ref (ad Z ca r0)), .val (.int i1), .val (.ref (ad Z ca r2)), .val (.ref (ad Z ca r3)), .val (.ref (ad Z ca r4)), .val (.ref (ad Z ca r5)), .val (.ref (ad Z ca r6)), .val (.int i7), x8, x9, .val (.int i10), .val (.ref (ad Z ca r11)), .val (.int i12), .val (.int i13), .val (.int q2), x15]) d23_269 rfl rfl (own_stI (x := x14) rfl p14) ?_
          refine o_blk (pc' := 274) (st' := [(.int q2), (.ref (ad Z ca r2))]) (ls' := #[.val (.ref (ad Z ca r0)), .val (.int i1), .val (.ref (ad Z ca r2)), .val (.ref (ad Z ca r3)), .val (.ref (ad Z ca r4)), .val (.ref (ad Z ca r5)), .val (.ref (ad Z ca r6)), .val (.int i7), x8, x9, .val (.int i10), .val (.ref (ad Z ca r11)), .val (.int i12), .val (.int i13), .val (.int q2), x15]) b23_271_274 rfl ?_
          obtain ⟨q3, hq3, hM⟩ := own_bind hM
          refine m_zald (pc' := 275) R hq3 d23_274 rfl ?_
          refine o_if (pc' := 298) (pc'' := 278) d23_275 (by decide) (by decide) rfl (fun (hc275_4 : ¬ q3 = 0) => ?_) (fun (hc275_4 : q3 = 0) => ?_)
          ·
            rw [if_neg hc275_4] at hM
            refine o_blk (pc' := 301) (st' := []) (ls' := #[.val (.ref (ad Z ca r0)), .val (.int i1), .val (.ref (ad Z ca r2)), .val (.ref (ad Z ca r3)), .val (.ref (ad Z ca r4)), .val (.ref (ad Z ca r5)), .val (.ref (ad Z ca r6)), .val (.int i7), x8, x9, .val (.int i10), .val (.ref (ad Z ca r11)), .val (.int i12), .val (.int (i13 + (1 : Int32))), .val (.int q2), x15]) b23_298_301 rfl ?_
            refine o_goto (pc' := 257) d23_301 (by decide) (by decide) ?_
            exact ih_257 _ _ t (by omega) ((7 + 1 * t)) ((60 + 8 * t)) (by omega) (by omega) _ _ _ _ _ _ _ _ _ _ _ p8 _ p9 _ (Pl.i _) _ p15 R hM
          ·
            rw [if_pos hc275_4] at hM
            refine o_blk (pc' := 281) (st' := [(.int (2 : Int32)), (.ref (ad Z ca r6))]) (ls' := #[.val (.ref (ad Z ca r0)), .val (.int i1), .val (.ref (ad Z ca r2)), .val (.ref (ad Z ca r3)), .val (.ref (ad Z ca r4)), .val (.ref (ad Z ca r5)), .val (.ref (ad Z ca r6)), .val (.int i7), x8, x9, .val (.int i10), .val (.ref (ad Z ca r11)), .val (.int i12), .val (.int i13), .val (.int q2), x15]) b23_278_281 rfl ?_
            obtain ⟨q5, hq5, hM⟩ := own_bind hM
            obtain ⟨hb6, hM⟩ := own_ite hM
            refine m_newI (pc' := 283) R (own_word hw 0 rfl) hq5 d23_281 (by show (7 + 1 * t) + 1 ≤ 15; omega) (by show (60 + 8 * t) + 8 ≤ 124; omega) rfl ?_
            intro h_q5 R_q5
            refine o_blk (pc' := 287) (st' := [(.int q2), (.int (0 : Int32)), (.ref (ad Z ca q5.2)), (.ref (ad Z ca q5.2)), (.ref (ad Z ca r6))]) (ls' := #[.val (.ref (ad Z ca r0)), .val (.int i1), .val (.ref (ad Z ca r2)), .val (.ref (ad Z ca r3)), .val (.ref (ad Z ca r4)), .val (.ref (ad Z ca r5)), .val (.ref (ad Z ca r6)), .val (.int i7), x8, x9, .val (.int i10), .val (.ref (ad Z ca r11)), .val (.int i12), .val (.int i13), .val (.int q2), x15]) b23_283_287 rfl ?_
            obtain ⟨q7, hq7, hM⟩ := own_bind hM
            refine m_iast (pc' := 288) R_q5 hq7 d23_287 rfl ?_
            intro h_q7 R_q7
            refine o_blk (pc' := 292) (st' := [(.int i10), (.int (1 : Int32)), (.ref (ad Z ca q5.2)), (.ref (ad Z ca q5.2)), (.ref (ad Z ca r6))]) (ls' := #[.val (.ref (ad Z ca r0)), .val (.int i1), .val (.ref (ad Z ca r2)), .val (.ref (ad Z ca r3)), .val (.ref (ad Z ca r4)), .val (.ref (ad Z ca r5)), .val (.ref (ad Z ca r6)), .val (.int i7), x8, x9, .val (.int i10), .val (.ref (ad Z ca r11)), .val (.int i12), .val (.int i13), .val (.int q2), x15]) b23_288_292 rfl ?_
            obtain ⟨q8, hq8, hM⟩ := own_bind hM
            refine m_iast (pc' := 293) R_q7 hq8 d23_292 rfl ?_
            intro h_q8 R_q8
            obtain ⟨hb9, hM⟩ := own_ite hM
            obtain ⟨q10, hq10, hM⟩ := own_bind hM
            refine o_callF (W := 0) (argsL := [(.ref (ad Z ca q5.2))]) (rest := []) (pc' := 298) (own_word hw 75 rfl) (own_word hw 76 rfl) (own_word hw 77 rfl) rfl (own_word hw 78 rfl) (own_word hw 79 rfl) (own_word hw 80 rfl) (own_word hw 81 rfl) (own_word hw 82 rfl) (own_word hw 83 rfl) (own_word hw 53 rfl) (by decide) (R_q8.exa (t := 1) hb9) (fun hE => rm_push l Z a0 hw ca K q8 r6 q5.2 q10 h_q8 hE R_q8 hq10) d23_293 pd_2 rfl rfl rfl (Nat.le_of_eq rfl) (by decide) (by decide) (by show ((7 + 1 * t) + 1) + 0 ≤ 15; omega) (by show ((60 + 8 * t) + 8) + 0 ≤ 124; omega) rfl ?_
            rintro _ h_q10 ⟨rfl, R_q10⟩ hs_q10
            refine o_blk (pc' := 301) (st' := []) (ls' := #[.val (.ref (ad Z ca r0)), .val (.int i1), .val (.ref (ad Z ca r2)), .val (.ref (ad Z ca r3)), .val (.ref (ad Z ca r4)), .val (.ref (ad Z ca r5)), .val (.ref (ad Z ca r6)), .val (.int i7), x8, x9, .val (.int i10), .val (.ref (ad Z ca r11)), .val (.int i12), .val (.int (i13 + (1 : Int32))), .val (.int q2), x15]) b23_298_301 rfl ?_
            refine o_goto (pc' := 257) d23_301 (by decide) (by decide) ?_
            exact ih_257 _ _ (t + 1) (by omega) ((((7 + 1 * t) + 1) + 0)) ((((60 + 8 * t) + 8) + 0)) (by omega) (by omega) _ _ _ _ _ _ _ _ _ _ _ p8 _ p9 _ (Pl.i _) _ p15 R_q10 hM
  unfold M_dcp at hM
  refine o_blk (pc' := 1) (st' := [(.ref (ad Z ca r0))]) (ls' := #[.val (.ref (ad Z ca r0)), .val (.int i1), .unset, .unset, .unset, .unset, .unset, .unset, .unset, .unset, .unset, .unset, .unset, .unset, .unset, .unset]) b23_0_1 rfl ?_
  obtain ⟨q1, hq1, hM⟩ := own_bind hM
  refine m_getR (t := 0) (i := 0) (pc' := 4) R0 hq1 rfl rfl (own_word hw 14 rfl) d23_1 rfl ?_
  obtain ⟨q2, hq2, hM⟩ := own_bind hM
  refine m_len (pc' := 5) R0 hq2 d23_4 rfl ?_
  obtain ⟨q3, hq3, hM⟩ := own_bind hM
  refine m_newZ (pc' := 7) R0 (own_word hw 145 rfl) hq3 d23_5 (by decide) (by decide) rfl ?_
  intro h_q3 R_q3
  refine o_blk (pc' := 8) (st' := []) (ls' := #[.val (.ref (ad Z ca r0)), .val (.int i1), .val (.ref (ad Z ca q3.2)), .unset, .unset, .unset, .unset, .unset, .unset, .unset, .unset, .unset, .unset, .unset, .unset, .unset]) b23_7_8 rfl ?_
  refine o_blk (pc' := 9) (st' := [(.ref (ad Z ca r0))]) (ls' := #[.val (.ref (ad Z ca r0)), .val (.int i1), .val (.ref (ad Z ca q3.2)), .unset, .unset, .unset, .unset, .unset, .unset, .unset, .unset, .unset, .unset, .unset, .unset, .unset]) b23_8_9 rfl ?_
  obtain ⟨q4, hq4, hM⟩ := own_bind hM
  refine m_getR (t := 0) (i := 0) (pc' := 12) R_q3 hq4 rfl rfl (own_word hw 14 rfl) d23_9 rfl ?_
  obtain ⟨q5, hq5, hM⟩ := own_bind hM
  refine m_len (pc' := 13) R_q3 hq5 d23_12 rfl ?_
  obtain ⟨q6, hq6, hM⟩ := own_bind hM
  refine m_newI (pc' := 15) R_q3 (own_word hw 0 rfl) hq6 d23_13 (by decide) (by decide) rfl ?_
  intro h_q6 R_q6
  refine o_blk (pc' := 16) (st' := []) (ls' := #[.val (.ref (ad Z ca r0)), .val (.int i1), .val (.ref (ad Z ca q3.2)), .val (.ref (ad Z ca q6.2)), .unset, .unset, .unset, .unset, .unset, .unset, .unset, .unset, .unset, .unset, .unset, .unset]) b23_15_16 rfl ?_
  refine o_blk (pc' := 17) (st' := [(.ref (ad Z ca r0))]) (ls' := #[.val (.ref (ad Z ca r0)), .val (.int i1), .val (.ref (ad Z ca q3.2)), .val (.ref (ad Z ca q6.2)), .unset, .unset, .unset, .unset, .unset, .unset, .unset, .unset, .unset, .unset, .unset, .unset]) b23_16_17 rfl ?_
  obtain ⟨q7, hq7, hM⟩ := own_bind hM
  refine m_getR (t := 0) (i := 0) (pc' := 20) R_q6 hq7 rfl rfl (own_word hw 14 rfl) d23_17 rfl ?_
  obtain ⟨q8, hq8, hM⟩ := own_bind hM
  refine m_len (pc' := 21) R_q6 hq8 d23_20 rfl ?_
  obtain ⟨q9, hq9, hM⟩ := own_bind hM
  refine m_newI (pc' := 23) R_q6 (own_word hw 0 rfl) hq9 d23_21 (by decide) (by decide) rfl ?_
  intro h_q9 R_q9
  refine o_blk (pc' := 25) (st' := []) (ls' := #[.val (.ref (ad Z ca r0)), .val (.int i1), .val (.ref (ad Z ca q3.2)), .val (.ref (ad Z ca q6.2)), .val (.ref (ad Z ca q9.2)), .unset, .unset, .unset, .unset, .unset, .unset, .unset, .unset, .unset, .unset, .unset]) b23_23_25 rfl ?_
  refine o_blk (pc' := 26) (st' := [(.ref (ad Z ca r0))]) (ls' := #[.val (.ref (ad Z ca r0)), .val (.int i1), .val (.ref (ad Z ca q3.2)), .val (.ref (ad Z ca q6.2)), .val (.ref (ad Z ca q9.2)), .unset, .unset, .unset, .unset, .unset, .unset, .unset, .unset, .unset, .unset, .unset]) b23_25_26 rfl ?_
  obtain ⟨q10, hq10, hM⟩ := own_bind hM
  refine m_getR (t := 0) (i := 0) (pc' := 29) R_q9 hq10 rfl rfl (own_word hw 14 rfl) d23_26 rfl ?_
  obtain ⟨q11, hq11, hM⟩ := own_bind hM
  refine m_len (pc' := 30) R_q9 hq11 d23_29 rfl ?_
  obtain ⟨q12, hq12, hM⟩ := own_bind hM
  refine m_newI (pc' := 32) R_q9 (own_word hw 0 rfl) hq12 d23_30 (by decide) (by decide) rfl ?_
  intro h_q12 R_q12
  refine o_blk (pc' := 34) (st' := []) (ls' := #[.val (.ref (ad Z ca r0)), .val (.int i1), .val (.ref (ad Z ca q3.2)), .val (.ref (ad Z ca q6.2)), .val (.ref (ad Z ca q9.2)), .val (.ref (ad Z ca q12.2)), .unset, .unset, .unset, .unset, .unset, .unset, .unset, .unset, .unset, .unset]) b23_32_34 rfl ?_
  obtain ⟨q13, hq13, hM⟩ := own_bind hM
  refine m_newO (t := 1) (ni := 2) (nr := 1) (pc' := 37) R_q12 (own_lay5 hw) rfl (own_word hw 51 rfl) (own_word hw 52 rfl) (own_word hw 53 rfl) hq13 d23_34 (by decide) (by decide) rfl ?_
  intro h_q13 R_q13
  refine o_blk (pc' := 38) (st' := [(.ref (ad Z ca q13.2)), (.ref (ad Z ca q13.2))]) (ls' := #[.val (.ref (ad Z ca r0)), .val (.int i1), .val (.ref (ad Z ca q3.2)), .val (.ref (ad Z ca q6.2)), .val (.ref (ad Z ca q9.2)), .val (.ref (ad Z ca q12.2)), .unset, .unset, .unset, .unset, .unset, .unset, .unset, .unset, .unset, .unset]) b23_37_38 rfl ?_
  obtain ⟨q14, hq14, hM⟩ := own_bind hM
  refine o_callI (W := 1) (argsL := []) (rest := [(.ref (ad Z ca q13.2))]) (pc' := 41) rfl (own_word hw 54 rfl) (own_word hw 55 rfl) (own_word hw 56 rfl) (own_word hw 53 rfl) (by decide) (fun hE => rm_deq l Z a0 hw ca K q13.1 q13.2 q14 h_q13 hE R_q13 hq14) d23_38 pd_0 rfl rfl rfl (Nat.le_of_eq rfl) (by decide) (by decide) (by decide) (by decide) rfl ?_
  rintro _ h_q14 ⟨rfl, R_q14⟩ hs_q14
  refine o_blk (pc' := 43) (st' := []) (ls' := #[.val (.ref (ad Z ca r0)), .val (.int i1), .val (.ref (ad Z ca q3.2)), .val (.ref (ad Z ca q6.2)), .val (.ref (ad Z ca q9.2)), .val (.ref (ad Z ca q12.2)), .val (.ref (ad Z ca q13.2)), .unset, .unset, .unset, .unset, .unset, .unset, .unset, .unset, .unset]) b23_41_43 rfl ?_
  refine o_blk (pc' := 46) (st' := [(.int (2 : Int32)), (.ref (ad Z ca q13.2))]) (ls' := #[.val (.ref (ad Z ca r0)), .val (.int i1), .val (.ref (ad Z ca q3.2)), .val (.ref (ad Z ca q6.2)), .val (.ref (ad Z ca q9.2)), .val (.ref (ad Z ca q12.2)), .val (.ref (ad Z ca q13.2)), .unset, .unset, .unset, .unset, .unset, .unset, .unset, .unset, .unset]) b23_43_46 rfl ?_
  obtain ⟨q15, hq15, hM⟩ := own_bind hM
  refine m_newI (pc' := 48) R_q14 (own_word hw 0 rfl) hq15 d23_46 (by decide) (by decide) rfl ?_
  intro h_q15 R_q15
  refine o_blk (pc' := 51) (st' := [(.int i1), (.int (0 : Int32)), (.ref (ad Z ca q15.2)), (.ref (ad Z ca q15.2)), (.ref (ad Z ca q13.2))]) (ls' := #[.val (.ref (ad Z ca r0)), .val (.int i1), .val (.ref (ad Z ca q3.2)), .val (.ref (ad Z ca q6.2)), .val (.ref (ad Z ca q9.2)), .val (.ref (ad Z ca q12.2)), .val (.ref (ad Z ca q13.2)), .unset, .unset, .unset, .unset, .unset, .unset, .unset, .unset, .unset]) b23_48_51 rfl ?_
  obtain ⟨q16, hq16, hM⟩ := own_bind hM
  refine m_iast (pc' := 52) R_q15 hq16 d23_51 rfl ?_
  intro h_q16 R_q16
  refine o_blk (pc' := 55) (st' := [(.int (-1 : Int32)), (.int (1 : Int32)), (.ref (ad Z ca q15.2)), (.ref (ad Z ca q15.2)), (.ref (ad Z ca q13.2))]) (ls' := #[.val (.ref (ad Z ca r0)), .val (.int i1), .val (.ref (ad Z ca q3.2)), .val (.ref (ad Z ca q6.2)), .val (.ref (ad Z ca q9.2)), .val (.ref (ad Z ca q12.2)), .val (.ref (ad Z ca q13.2)), .unset, .unset, .unset, .unset, .unset, .unset, .unset, .unset, .unset]) b23_52_55 rfl ?_
  obtain ⟨q17, hq17, hM⟩ := own_bind hM
  refine m_iast (pc' := 56) R_q16 hq17 d23_55 rfl ?_
  intro h_q17 R_q17
  obtain ⟨hb18, hM⟩ := own_ite hM
  obtain ⟨q19, hq19, hM⟩ := own_bind hM
  refine o_callF (W := 0) (argsL := [(.ref (ad Z ca q15.2))]) (rest := []) (pc' := 61) (own_word hw 75 rfl) (own_word hw 76 rfl) (own_word hw 77 rfl) rfl (own_word hw 78 rfl) (own_word hw 79 rfl) (own_word hw 80 rfl) (own_word hw 81 rfl) (own_word hw 82 rfl) (own_word hw 83 rfl) (own_word hw 53 rfl) (by decide) (R_q17.exa (t := 1) hb18) (fun hE => rm_push l Z a0 hw ca K q17 q13.2 q15.2 q19 h_q17 hE R_q17 hq19) d23_56 pd_2 rfl rfl rfl (Nat.le_of_eq rfl) (by decide) (by decide) (by decide) (by decide) rfl ?_
  rintro _ h_q19 ⟨rfl, R_q19⟩ hs_q19
  refine o_blk (pc' := 64) (st' := []) (ls' := #[.val (.ref (ad Z ca r0)), .val (.int i1), .val (.ref (ad Z ca q3.2)), .val (.ref (ad Z ca q6.2)), .val (.ref (ad Z ca q9.2)), .val (.ref (ad Z ca q12.2)), .val (.ref (ad Z ca q13.2)), .val (.int (-1 : Int32)), .unset, .unset, .unset, .unset, .unset, .unset, .unset, .unset]) b23_61_64 rfl ?_
  exact (LP 400).1 _ _ 0 (by omega) (7) (60) (by omega) (by omega) _ _ _ _ _ _ _ Pl.u _ Pl.u _ Pl.u _ Pl.u _ Pl.u _ Pl.u _ Pl.u _ Pl.u R_q19 hM
def B_ini_55 (r0 : Nat) (r1 : Nat) (rec : Nat → List AO → Int32 → Option (List AO × Nat)) (H : List AO) (i2 : Int32) : Option (List AO × Nat) :=
  (ilo 0 H r1 i2).bind fun q1 => if q1 < 0 then ( if ((hget H r0).any fun o => o.1 == 4) = true then ( (M_num H r0 i2).bind fun q4 => if ((hget q4.1 r0).any fun o => o.1 == 4) = true then ( (M_dcp q4.1 r0 i2).bind fun q6 => (pfi 4 q6.1 r0 0 q6.2).bind fun q7 => some (q7, 0) ) else none ) else none ) else ( rec 55 H (i2 + (1 : Int32)) )
def L_ini (r0 : Nat) (r1 : Nat) : Nat → Nat → List AO → Int32 → Option (List AO × Nat)
  | 0 => fun _ _ _ => none
  | f + 1 => fun hd H i2 => if hd = 55 then B_ini_55 r0 r1 (L_ini r0 r1 f) H i2 else none
def M_ini (H : List AO) (r0 : Nat) (r1 : Nat) : Option (List AO × Nat) :=
  (pfr 4 H r0 0 r1).bind fun q1 => (M_chi q1 r1).bind fun q2 => (pfr 4 q2.1 r0 1 q2.2).bind fun q3 => (gfr 4 q3 r0 1).bind fun q4 => (M_nei q3 r1 q4).bind fun q5 => (pfr 4 q5.1 r0 2 q5.2).bind fun q6 => (aln q6 r1).bind fun q7 => (newI 0 q6 q7).bind fun q8 => (pfr 4 q8.1 r0 3 q8.2).bind fun q9 => (aln q9 r1).bind fun q10 => (newI 0 q9 q10).bind fun q11 => (pfr 4 q11.1 r0 4 q11.2).bind fun q12 => (aln q12 r1).bind fun q13 => (newI 0 q12 q13).bind fun q14 => (pfr 4 q14.1 r0 5 q14.2).bind fun q15 => L_ini r0 r1 12 55 q15 (0 : Int32)
set_option maxRecDepth 65536 in
set_option maxHeartbeats 40000000 in
theorem rm_ini (l : Launch) (Z : State) (a0 : Array Value) (hw : ∀ d ∈ tables_1, d.before a0 Z = true) (ca : Nat → Addr) (K : OKa Z ca) (H : List AO) (r0 : Nat) (r1 : Nat) (res : List AO × Nat) (h0 : Heap) (hE0 : Ext Z.heap h0) (R0 : Rep Z ca h0 H)  (hM : M_ini H r0 r1 = some res) :
    OCtr l Z (⟨"com/example/mild_horn/mildhorn/translation/Centroids", "<init>", "([I)V"⟩ : MethodName) prog_40_method_1_code 3 none ({ frames := 5, cells := 40, slots := 328, locals := 82 } : Room) #[(.ref (ad Z ca r0)), (.ref (ad Z ca r1))] h0 (fun v h => v = none ∧ Rep Z ca h res.1) := by
  refine o_bodyS (ls0 := #[.val (.ref (ad Z ca r0)), .val (.ref (ad Z ca r1)), .unset]) (plainFor_of_name pn_4) hE0 (fun m => by first | (simp [entryFrame, mkF, argsToLocals, Value.category]; done) | rfl) ?_
  intro pG eG sG mG bG meG cG hS0
  have LP : ∀ f : Nat, (∀ (h : Heap) (H : List AO) (i2 : Int32)  (R : Rep Z ca h H) (hM : L_ini r0 r1 f 55 H i2 = some res), OG pG l eG ({ frames := 5, cells := 40, slots := 328, locals := 82 } : Room) sG mG #[(.ref (ad Z ca r0)), (.ref (ad Z ca r1))] bG meG cG Z (⟨"com/example/mild_horn/mildhorn/translation/Centroids", "<init>", "([I)V"⟩ : MethodName).cls (⟨"com/example/mild_horn/mildhorn/translation/Centroids", "<init>", "([I)V"⟩ : MethodName).name prog_40_method_1_code 3 none (fun v h => v = none ∧ Rep Z ca h res.1) ({ frames := 5, cells := 40, slots := 328, locals := 82 } : Room).cells ({ frames := 5, cells := 40, slots := 328, locals := 82 } : Room).slots h 22 176 (mkF mG 55 #[.val (.ref (ad Z ca r0)), .val (.ref (ad Z ca r1)), .val (.int i2)] [])) := by
    intro f
    induction f with
    | zero =>
      skip
      · intro h H i2  R hM
        first | exact nomatch hM | (simp [L_ini] at hM; done)
    | succ f ih =>
      have ih_55 := ih
      skip
      · intro h H i2  R hM
        have hM : B_ini_55 r0 r1 (L_ini r0 r1 f) H i2 = some res := hM
        unfold B_ini_55 at hM
        refine o_blk (pc' := 57) (st' := [(.int i2), (.ref (ad Z ca r1))]) (ls' := #[.val (.ref (ad Z ca r0)), .val (.ref (ad Z ca r1)), .val (.int i2)]) b2_55_57 rfl ?_
        obtain ⟨q1, hq1, hM⟩ := own_bind hM
        refine m_iald (pc' := 58) R hq1 d2_57 rfl ?_
        refine o_if (pc' := 67) (pc'' := 61) d2_58 (by decide) (by decide) rfl (fun (hc58_2 : q1 < 0) => ?_) (fun (hc58_2 : ¬ q1 < 0) => ?_)
        ·
          rw [if_pos hc58_2] at hM
          refine o_blk (pc' := 69) (st' := [(.int i2), (.ref (ad Z ca r0))]) (ls' := #[.val (.ref (ad Z ca r0)), .val (.ref (ad Z ca r1)), .val (.int i2)]) b2_67_69 rfl ?_
          obtain ⟨hb3, hM⟩ := own_ite hM
          obtain ⟨q4, hq4, hM⟩ := own_bind hM
          refine o_callP (W := 0) (argsL := [(.int i2)]) (rest := []) (pc' := 72) (own_word hw 47 rfl) (own_word hw 48 rfl) (own_word hw 49 rfl) (own_word hw 6 rfl) (own_word hw 50 rfl) (own_word hw 7 rfl) (by decide) (R.exa (t := 0) hb3) (fun hE => rm_num l Z a0 hw ca K H r0 i2 q4 h hE R hq4) d2_69 pd_13 rfl rfl rfl (Nat.le_of_eq rfl) (by decide) (by decide) (by decide) (by decide) rfl ?_
          rintro _ h_q4 ⟨rfl, R_q4⟩ hs_q4
          refine o_blk (pc' := 75) (st' := [(.int i2), (.ref (ad Z ca r0)), (.ref (ad Z ca r0))]) (ls' := #[.val (.ref (ad Z ca r0)), .val (.ref (ad Z ca r1)), .val (.int i2)]) b2_72_75 rfl ?_
          obtain ⟨hb5, hM⟩ := own_ite hM
          obtain ⟨q6, hq6, hM⟩ := own_bind hM
          refine o_callP (W := 1) (argsL := [(.int i2)]) (rest := [(.ref (ad Z ca r0))]) (pc' := 78) (own_word hw 141 rfl) (own_word hw 142 rfl) (own_word hw 143 rfl) (own_word hw 6 rfl) (own_word hw 144 rfl) (own_word hw 7 rfl) (by decide) (R_q4.exa (t := 0) hb5) (fun hE => rm_dcp l Z a0 hw ca K q4.1 r0 i2 q6 h_q4 hE R_q4 hq6) d2_75 pd_14 rfl rfl rfl (Nat.le_of_eq rfl) (by decide) (by decide) (by decide) (by decide) rfl ?_
          rintro _ h_q6 ⟨rfl, R_q6⟩ hs_q6
          obtain ⟨q7, hq7, hM⟩ := own_bind hM
          refine m_putI (t := 0) (i := 0) (pc' := 81) R_q6 (own_lay4 hw) hq7 rfl rfl (own_word hw 155 rfl) (Or.inr ⟨(own_word hw 156 rfl), rfl, rfl⟩) (own_word hw 6 rfl) d2_78 rfl ?_
          intro h_q7 R_q7
          cases hM
          exact o_retV d2_81 (by decide) (by decide) rfl ⟨rfl, R_q7⟩
        ·
          rw [if_neg hc58_2] at hM
          refine o_blk (pc' := 64) (st' := []) (ls' := #[.val (.ref (ad Z ca r0)), .val (.ref (ad Z ca r1)), .val (.int (i2 + (1 : Int32)))]) b2_61_64 rfl ?_
          refine o_goto (pc' := 55) d2_64 (by decide) (by decide) ?_
          exact ih_55 _ _ _  R hM
  unfold M_ini at hM
  refine o_blk (pc' := 1) (st' := [(.ref (ad Z ca r0))]) (ls' := #[.val (.ref (ad Z ca r0)), .val (.ref (ad Z ca r1)), .unset]) b2_0_1 rfl ?_
  refine o_initO (W := 0) (pc' := 4) (own_word hw 11 rfl) (own_word hw 12 rfl) (own_word hw 13 rfl) d2_1 rfl (Nat.le_of_eq rfl) (by decide) (by decide) rfl ?_
  refine o_blk (pc' := 6) (st' := [(.ref (ad Z ca r1)), (.ref (ad Z ca r0))]) (ls' := #[.val (.ref (ad Z ca r0)), .val (.ref (ad Z ca r1)), .unset]) b2_4_6 rfl ?_
  obtain ⟨q1, hq1, hM⟩ := own_bind hM
  refine m_putR (t := 0) (i := 0) (pc' := 9) R0 (own_lay4 hw) hq1 rfl rfl (own_word hw 14 rfl) (Or.inr ⟨(own_word hw 15 rfl), rfl, rfl⟩) (own_word hw 6 rfl) d2_6 rfl ?_
  intro h_q1 R_q1
  refine o_blk (pc' := 11) (st' := [(.ref (ad Z ca r1)), (.ref (ad Z ca r0))]) (ls' := #[.val (.ref (ad Z ca r0)), .val (.ref (ad Z ca r1)), .unset]) b2_9_11 rfl ?_
  obtain ⟨q2, hq2, hM⟩ := own_bind hM
  refine o_callS (W := 1) (argsL := [(.ref (ad Z ca r1))]) (rest := [(.ref (ad Z ca r0))]) (pc' := 14) (own_word hw 16 rfl) (own_word hw 17 rfl) (own_word hw 7 rfl) (own_word hw 18 rfl) (by decide) (fun hE => rm_chi l Z a0 hw ca K q1 r1 q2 h_q1 hE R_q1 hq2) d2_11 pd_11 rfl rfl rfl (Nat.le_of_eq rfl) (by decide) (by decide) (by decide) (by decide) rfl ?_
  rintro _ h_q2 ⟨rfl, R_q2⟩ hs_q2
  obtain ⟨q3, hq3, hM⟩ := own_bind hM
  refine m_putR (t := 0) (i := 1) (pc' := 17) R_q2 (own_lay4 hw) hq3 rfl rfl (own_word hw 22 rfl) (Or.inr ⟨(own_word hw 23 rfl), rfl, rfl⟩) (own_word hw 6 rfl) d2_14 rfl ?_
  intro h_q3 R_q3
  refine o_blk (pc' := 20) (st' := [(.ref (ad Z ca r0)), (.ref (ad Z ca r1)), (.ref (ad Z ca r0))]) (ls' := #[.val (.ref (ad Z ca r0)), .val (.ref (ad Z ca r1)), .unset]) b2_17_20 rfl ?_
  obtain ⟨q4, hq4, hM⟩ := own_bind hM
  refine m_getR (t := 0) (i := 1) (pc' := 23) R_q3 hq4 rfl rfl (own_word hw 22 rfl) d2_20 rfl ?_
  obtain ⟨q5, hq5, hM⟩ := own_bind hM
  refine o_callS (W := 1) (argsL := [(.ref (ad Z ca r1)), (.ref (ad Z ca q4))]) (rest := [(.ref (ad Z ca r0))]) (pc' := 26) (own_word hw 24 rfl) (own_word hw 25 rfl) (own_word hw 7 rfl) (own_word hw 26 rfl) (by decide) (fun hE => rm_nei l Z a0 hw ca K q3 r1 q4 q5 h_q3 hE R_q3 hq5) d2_23 pd_12 rfl rfl rfl (Nat.le_of_eq rfl) (by decide) (by decide) (by decide) (by decide) rfl ?_
  rintro _ h_q5 ⟨rfl, R_q5⟩ hs_q5
  obtain ⟨q6, hq6, hM⟩ := own_bind hM
  refine m_putR (t := 0) (i := 2) (pc' := 29) R_q5 (own_lay4 hw) hq6 rfl rfl (own_word hw 39 rfl) (Or.inr ⟨(own_word hw 40 rfl), rfl, rfl⟩) (own_word hw 6 rfl) d2_26 rfl ?_
  intro h_q6 R_q6
  refine o_blk (pc' := 31) (st' := [(.ref (ad Z ca r1)), (.ref (ad Z ca r0))]) (ls' := #[.val (.ref (ad Z ca r0)), .val (.ref (ad Z ca r1)), .unset]) b2_29_31 rfl ?_
  obtain ⟨q7, hq7, hM⟩ := own_bind hM
  refine m_len (pc' := 32) R_q6 hq7 d2_31 rfl ?_
  obtain ⟨q8, hq8, hM⟩ := own_bind hM
  refine m_newI (pc' := 34) R_q6 (own_word hw 0 rfl) hq8 d2_32 (by decide) (by decide) rfl ?_
  intro h_q8 R_q8
  obtain ⟨q9, hq9, hM⟩ := own_bind hM
  refine m_putR (t := 0) (i := 3) (pc' := 37) R_q8 (own_lay4 hw) hq9 rfl rfl (own_word hw 41 rfl) (Or.inr ⟨(own_word hw 42 rfl), rfl, rfl⟩) (own_word hw 6 rfl) d2_34 rfl ?_
  intro h_q9 R_q9
  refine o_blk (pc' := 39) (st' := [(.ref (ad Z ca r1)), (.ref (ad Z ca r0))]) (ls' := #[.val (.ref (ad Z ca r0)), .val (.ref (ad Z ca r1)), .unset]) b2_37_39 rfl ?_
  obtain ⟨q10, hq10, hM⟩ := own_bind hM
  refine m_len (pc' := 40) R_q9 hq10 d2_39 rfl ?_
  obtain ⟨q11, hq11, hM⟩ := own_bind hM
  refine m_newI (pc' := 42) R_q9 (own_word hw 0 rfl) hq11 d2_40 (by decide) (by decide) rfl ?_
  intro h_q11 R_q11
  obtain ⟨q12, hq12, hM⟩ := own_bind hM
  refine m_putR (t := 0) (i := 4) (pc' := 45) R_q11 (own_lay4 hw) hq12 rfl rfl (own_word hw 43 rfl) (Or.inr ⟨(own_word hw 44 rfl), rfl, rfl⟩) (own_word hw 6 rfl) d2_42 rfl ?_
  intro h_q12 R_q12
  refine o_blk (pc' := 47) (st' := [(.ref (ad Z ca r1)), (.ref (ad Z ca r0))]) (ls' := #[.val (.ref (ad Z ca r0)), .val (.ref (ad Z ca r1)), .unset]) b2_45_47 rfl ?_
  obtain ⟨q13, hq13, hM⟩ := own_bind hM
  refine m_len (pc' := 48) R_q12 hq13 d2_47 rfl ?_
  obtain ⟨q14, hq14, hM⟩ := own_bind hM
  refine m_newI (pc' := 50) R_q12 (own_word hw 0 rfl) hq14 d2_48 (by decide) (by decide) rfl ?_
  intro h_q14 R_q14
  obtain ⟨q15, hq15, hM⟩ := own_bind hM
  refine m_putR (t := 0) (i := 5) (pc' := 53) R_q14 (own_lay4 hw) hq15 rfl rfl (own_word hw 45 rfl) (Or.inr ⟨(own_word hw 46 rfl), rfl, rfl⟩) (own_word hw 6 rfl) d2_50 rfl ?_
  intro h_q15 R_q15
  refine o_blk (pc' := 55) (st' := []) (ls' := #[.val (.ref (ad Z ca r0)), .val (.ref (ad Z ca r1)), .val (.int (0 : Int32))]) b2_53_55 rfl ?_
  exact (LP 12) _ _ _  R_q15 hM
def B_paro_18 (i0 : Int32) (i1 : Int32) (i2 : Int32) (rec : Nat → List AO → Int32 → Option (List AO × Int32)) (H : List AO) (s0 : Int32) : Option (List AO × Int32) :=
  some (H, s0)
def B_paro_30 (i0 : Int32) (i1 : Int32) (i2 : Int32) (rec : Nat → List AO → Int32 → Option (List AO × Int32)) (H : List AO) (s0 : Int32) : Option (List AO × Int32) :=
  some (H, s0)
def L_paro (i0 : Int32) (i1 : Int32) (i2 : Int32) : Nat → Nat → List AO → Int32 → Option (List AO × Int32)
  | 0 => fun _ _ _ => none
  | f + 1 => fun hd H s0 => if hd = 18 then B_paro_18 i0 i1 i2 (L_paro i0 i1 i2 f) H s0 else if hd = 30 then B_paro_30 i0 i1 i2 (L_paro i0 i1 i2 f) H s0 else none
def M_paro (H : List AO) (i0 : Int32) (i1 : Int32) (i2 : Int32) : Option (List AO × Int32) :=
  if i2 = 0 then ( if i0 = 0 then ( L_paro i0 i1 i2 3 30 H (-1 : Int32) ) else ( L_paro i0 i1 i2 3 30 H (i0 - (1 : Int32)) ) ) else ( if i0 = (i1 - (1 : Int32)) then ( L_paro i0 i1 i2 3 18 H (-1 : Int32) ) else ( L_paro i0 i1 i2 3 18 H (i0 + (1 : Int32)) ) )
set_option maxRecDepth 65536 in
set_option maxHeartbeats 40000000 in
theorem rm_paro (l : Launch) (Z : State) (a0 : Array Value) (hw : ∀ d ∈ tables_1, d.before a0 Z = true) (ca : Nat → Addr) (K : OKa Z ca) (H : List AO) (i0 : Int32) (i1 : Int32) (i2 : Int32) (res : List AO × Int32) (h0 : Heap) (hE0 : Ext Z.heap h0) (R0 : Rep Z ca h0 H)  (hM : M_paro H i0 i1 i2 = some res) :
    OCtr l Z (⟨"com/example/mild_horn/mildhorn/translation/CentroidsBelowPinLaw", "parentOf", "(IIZ)I"⟩ : MethodName) method_2_code 3 (some .int) ({ frames := 0, cells := 0, slots := 0, locals := 0 } : Room) #[(.int i0), (.int i1), (.int i2)] h0 (fun v h => v = some (.int res.2) ∧ Rep Z ca h res.1) := by
  refine o_bodyS (ls0 := #[.val (.int i0), .val (.int i1), .val (.int i2)]) (plainFor_of_name pn_5) hE0 (fun m => by first | (simp [entryFrame, mkF, argsToLocals, Value.category]; done) | rfl) ?_
  intro pG eG sG mG bG meG cG hS0
  have LP : ∀ f : Nat, (∀ (h : Heap) (H : List AO) (s0 : Int32)  (R : Rep Z ca h H) (hM : L_paro i0 i1 i2 f 18 H s0 = some res), OG pG l eG ({ frames := 0, cells := 0, slots := 0, locals := 0 } : Room) sG mG #[(.int i0), (.int i1), (.int i2)] bG meG cG Z (⟨"com/example/mild_horn/mildhorn/translation/CentroidsBelowPinLaw", "parentOf", "(IIZ)I"⟩ : MethodName).cls (⟨"com/example/mild_horn/mildhorn/translation/CentroidsBelowPinLaw", "parentOf", "(IIZ)I"⟩ : MethodName).name method_2_code 3 (some .int) (fun v h => v = some (.int res.2) ∧ Rep Z ca h res.1) ({ frames := 0, cells := 0, slots := 0, locals := 0 } : Room).cells ({ frames := 0, cells := 0, slots := 0, locals := 0 } : Room).slots h 0 0 (mkF mG 18 #[.val (.int i0), .val (.int i1), .val (.int i2)] [(.int s0)])) ∧ (∀ (h : Heap) (H : List AO) (s0 : Int32)  (R : Rep Z ca h H) (hM : L_paro i0 i1 i2 f 30 H s0 = some res), OG pG l eG ({ frames := 0, cells := 0, slots := 0, locals := 0 } : Room) sG mG #[(.int i0), (.int i1), (.int i2)] bG meG cG Z (⟨"com/example/mild_horn/mildhorn/translation/CentroidsBelowPinLaw", "parentOf", "(IIZ)I"⟩ : MethodName).cls (⟨"com/example/mild_horn/mildhorn/translation/CentroidsBelowPinLaw", "parentOf", "(IIZ)I"⟩ : MethodName).name method_2_code 3 (some .int) (fun v h => v = some (.int res.2) ∧ Rep Z ca h res.1) ({ frames := 0, cells := 0, slots := 0, locals := 0 } : Room).cells ({ frames := 0, cells := 0, slots := 0, locals := 0 } : Room).slots h 0 0 (mkF mG 30 #[.val (.int i0), .val (.int i1), .val (.int i2)] [(.int s0)])) := by
    intro f
    induction f with
    | zero =>
      refine ⟨?_, ?_⟩
      · intro h H s0  R hM
        first | exact nomatch hM | (simp [L_paro] at hM; done)
      · intro h H s0  R hM
        first | exact nomatch hM | (simp [L_paro] at hM; done)
    | succ f ih =>
      obtain ⟨ih_18, ih_30⟩ := ih
      refine ⟨?_, ?_⟩
      · intro h H s0  R hM
        have hM : B_paro_18 i0 i1 i2 (L_paro i0 i1 i2 f) H s0 = some res := hM
        unfold B_paro_18 at hM
        cases hM
        exact o_retI d1_18 (by decide) (by decide) rfl ⟨rfl, R⟩
      · intro h H s0  R hM
        have hM : B_paro_30 i0 i1 i2 (L_paro i0 i1 i2 f) H s0 = some res := hM
        unfold B_paro_30 at hM
        cases hM
        exact o_retI d1_30 (by decide) (by decide) rfl ⟨rfl, R⟩
  unfold M_paro at hM
  refine o_blk (pc' := 1) (st' := [(.int i2)]) (ls' := #[.val (.int i0), .val (.int i1), .val (.int i2)]) b1_0_1 rfl ?_
  refine o_if (pc' := 19) (pc'' := 4) d1_1 (by decide) (by decide) rfl (fun (hc1_1 : i2 = 0) => ?_) (fun (hc1_1 : ¬ i2 = 0) => ?_)
  ·
    rw [if_pos hc1_1] at hM
    refine o_blk (pc' := 20) (st' := [(.int i0)]) (ls' := #[.val (.int i0), .val (.int i1), .val (.int i2)]) b1_19_20 rfl ?_
    refine o_if (pc' := 27) (pc'' := 23) d1_20 (by decide) (by decide) rfl (fun (hc20_2 : ¬ i0 = 0) => ?_) (fun (hc20_2 : i0 = 0) => ?_)
    ·
      rw [if_neg hc20_2] at hM
      refine o_blk (pc' := 30) (st' := [(.int (i0 - (1 : Int32)))]) (ls' := #[.val (.int i0), .val (.int i1), .val (.int i2)]) b1_27_30 rfl ?_
      exact (LP 3).2 _ _ _  R0 hM
    ·
      rw [if_pos hc20_2] at hM
      refine o_blk (pc' := 24) (st' := [(.int (-1 : Int32))]) (ls' := #[.val (.int i0), .val (.int i1), .val (.int i2)]) b1_23_24 rfl ?_
      refine o_goto (pc' := 30) d1_24 (by decide) (by decide) ?_
      exact (LP 3).2 _ _ _  R0 hM
  ·
    rw [if_neg hc1_1] at hM
    refine o_blk (pc' := 8) (st' := [(.int (i1 - (1 : Int32))), (.int i0)]) (ls' := #[.val (.int i0), .val (.int i1), .val (.int i2)]) b1_4_8 rfl ?_
    refine o_ic (pc' := 15) (pc'' := 11) d1_8 (by decide) (by decide) rfl (fun (hc8_3 : ¬ i0 = (i1 - (1 : Int32))) => ?_) (fun (hc8_3 : i0 = (i1 - (1 : Int32))) => ?_)
    ·
      rw [if_neg hc8_3] at hM
      refine o_blk (pc' := 18) (st' := [(.int (i0 + (1 : Int32)))]) (ls' := #[.val (.int i0), .val (.int i1), .val (.int i2)]) b1_15_18 rfl ?_
      exact (LP 3).1 _ _ _  R0 hM
    ·
      rw [if_pos hc8_3] at hM
      refine o_blk (pc' := 12) (st' := [(.int (-1 : Int32))]) (ls' := #[.val (.int i0), .val (.int i1), .val (.int i2)]) b1_11_12 rfl ?_
      refine o_goto (pc' := 18) d1_12 (by decide) (by decide) ?_
      exact (LP 3).1 _ _ _  R0 hM
def B_ceno_10 (i0 : Int32) (i1 : Int32) (i2 : Int32) (rec : Nat → List AO → Option (List AO × Int32)) (H : List AO)  : Option (List AO × Int32) :=
  some (H, (0 : Int32))
def B_ceno_38 (i0 : Int32) (i1 : Int32) (i2 : Int32) (rec : Nat → List AO → Option (List AO × Int32)) (H : List AO)  : Option (List AO × Int32) :=
  some (H, (0 : Int32))
def L_ceno (i0 : Int32) (i1 : Int32) (i2 : Int32) : Nat → Nat → List AO → Option (List AO × Int32)
  | 0 => fun _ _ => none
  | f + 1 => fun hd H  => if hd = 10 then B_ceno_10 i0 i1 i2 (L_ceno i0 i1 i2 f) H  else if hd = 38 then B_ceno_38 i0 i1 i2 (L_ceno i0 i1 i2 f) H  else none
def M_ceno (H : List AO) (i0 : Int32) (i1 : Int32) (i2 : Int32) : Option (List AO × Int32) :=
  if i0 < i1 then ( L_ceno i0 i1 i2 3 10 H  ) else ( if i2 < i0 then ( L_ceno i0 i1 i2 3 10 H  ) else ( if (((i2 - i1) + (1 : Int32)) / (2 : Int32)) < (i0 - i1) then ( L_ceno i0 i1 i2 3 38 H  ) else ( if (((i2 - i1) + (1 : Int32)) / (2 : Int32)) < (i2 - i0) then ( L_ceno i0 i1 i2 3 38 H  ) else ( some (H, (1 : Int32)) ) ) ) )
set_option maxRecDepth 65536 in
set_option maxHeartbeats 40000000 in
theorem rm_ceno (l : Launch) (Z : State) (a0 : Array Value) (hw : ∀ d ∈ tables_1, d.before a0 Z = true) (ca : Nat → Addr) (K : OKa Z ca) (H : List AO) (i0 : Int32) (i1 : Int32) (i2 : Int32) (res : List AO × Int32) (h0 : Heap) (hE0 : Ext Z.heap h0) (R0 : Rep Z ca h0 H)  (hM : M_ceno H i0 i1 i2 = some res) :
    OCtr l Z (⟨"com/example/mild_horn/mildhorn/translation/CentroidsBelowPinLaw", "centroidOf", "(III)Z"⟩ : MethodName) method_3_code 4 (some .boolean) ({ frames := 0, cells := 0, slots := 0, locals := 0 } : Room) #[(.int i0), (.int i1), (.int i2)] h0 (fun v h => v = some (.int res.2) ∧ Rep Z ca h res.1) := by
  refine o_bodyS (ls0 := #[.val (.int i0), .val (.int i1), .val (.int i2), .unset]) (plainFor_of_name pn_5) hE0 (fun m => by first | (simp [entryFrame, mkF, argsToLocals, Value.category]; done) | rfl) ?_
  intro pG eG sG mG bG meG cG hS0
  have LP : ∀ f : Nat, (∀ (h : Heap) (H : List AO)  (x3 : Slot) (p3 : Pl x3) (R : Rep Z ca h H) (hM : L_ceno i0 i1 i2 f 10 H  = some res), OG pG l eG ({ frames := 0, cells := 0, slots := 0, locals := 0 } : Room) sG mG #[(.int i0), (.int i1), (.int i2)] bG meG cG Z (⟨"com/example/mild_horn/mildhorn/translation/CentroidsBelowPinLaw", "centroidOf", "(III)Z"⟩ : MethodName).cls (⟨"com/example/mild_horn/mildhorn/translation/CentroidsBelowPinLaw", "centroidOf", "(III)Z"⟩ : MethodName).name method_3_code 4 (some .boolean) (fun v h => v = some (.int res.2) ∧ Rep Z ca h res.1) ({ frames := 0, cells := 0, slots := 0, locals := 0 } : Room).cells ({ frames := 0, cells := 0, slots := 0, locals := 0 } : Room).slots h 0 0 (mkF mG 10 #[.val (.int i0), .val (.int i1), .val (.int i2), x3] [])) ∧ (∀ (h : Heap) (H : List AO)  (x3 : Slot) (p3 : Pl x3) (R : Rep Z ca h H) (hM : L_ceno i0 i1 i2 f 38 H  = some res), OG pG l eG ({ frames := 0, cells := 0, slots := 0, locals := 0 } : Room) sG mG #[(.int i0), (.int i1), (.int i2)] bG meG cG Z (⟨"com/example/mild_horn/mildhorn/translation/CentroidsBelowPinLaw", "centroidOf", "(III)Z"⟩ : MethodName).cls (⟨"com/example/mild_horn/mildhorn/translation/CentroidsBelowPinLaw", "centroidOf", "(III)Z"⟩ : MethodName).name method_3_code 4 (some .boolean) (fun v h => v = some (.int res.2) ∧ Rep Z ca h res.1) ({ frames := 0, cells := 0, slots := 0, locals := 0 } : Room).cells ({ frames := 0, cells := 0, slots := 0, locals := 0 } : Room).slots h 0 0 (mkF mG 38 #[.val (.int i0), .val (.int i1), .val (.int i2), x3] [])) := by
    intro f
    induction f with
    | zero =>
      refine ⟨?_, ?_⟩
      · intro h H  x3 p3 R hM
        first | exact nomatch hM | (simp [L_ceno] at hM; done)
      · intro h H  x3 p3 R hM
        first | exact nomatch hM | (simp [L_ceno] at hM; done)
    | succ f ih =>
      obtain ⟨ih_10, ih_38⟩ := ih
      refine ⟨?_, ?_⟩
      · intro h H  x3 p3 R hM
        have hM : B_ceno_10 i0 i1 i2 (L_ceno i0 i1 i2 f) H  = some res := hM
        unfold B_ceno_10 at hM
        refine o_blk (pc' := 11) (st' := [(.int (0 : Int32))]) (ls' := #[.val (.int i0), .val (.int i1), .val (.int i2), x3]) b27_10_11 rfl ?_
        cases hM
        exact o_retZ (w := 0) d27_11 (by decide) (by decide) rfl (by decide) ⟨rfl, R⟩
      · intro h H  x3 p3 R hM
        have hM : B_ceno_38 i0 i1 i2 (L_ceno i0 i1 i2 f) H  = some res := hM
        unfold B_ceno_38 at hM
        refine o_blk (pc' := 39) (st' := [(.int (0 : Int32))]) (ls' := #[.val (.int i0), .val (.int i1), .val (.int i2), x3]) b27_38_39 rfl ?_
        cases hM
        exact o_retZ (w := 0) d27_39 (by decide) (by decide) rfl (by decide) ⟨rfl, R⟩
  unfold M_ceno at hM
  refine o_blk (pc' := 2) (st' := [(.int i1), (.int i0)]) (ls' := #[.val (.int i0), .val (.int i1), .val (.int i2), .unset]) b27_0_2 rfl ?_
  refine o_ic (pc' := 10) (pc'' := 5) d27_2 (by decide) (by decide) rfl (fun (hc2_1 : i0 < i1) => ?_) (fun (hc2_1 : ¬ i0 < i1) => ?_)
  ·
    rw [if_pos hc2_1] at hM
    exact (LP 3).1 _ _ _ Pl.u R0 hM
  ·
    rw [if_neg hc2_1] at hM
    refine o_blk (pc' := 7) (st' := [(.int i2), (.int i0)]) (ls' := #[.val (.int i0), .val (.int i1), .val (.int i2), .unset]) b27_5_7 rfl ?_
    refine o_ic (pc' := 12) (pc'' := 10) d27_7 (by decide) (by decide) rfl (fun (hc7_2 : ¬ i2 < i0) => ?_) (fun (hc7_2 : i2 < i0) => ?_)
    ·
      rw [if_neg hc7_2] at hM
      refine o_blk (pc' := 18) (st' := [(.int (2 : Int32)), (.int ((i2 - i1) + (1 : Int32)))]) (ls' := #[.val (.int i0), .val (.int i1), .val (.int i2), .unset]) b27_12_18 rfl ?_
      refine o_idiv (pc' := 19) d27_18 (by decide) rfl ?_
      refine o_blk (pc' := 20) (st' := []) (ls' := #[.val (.int i0), .val (.int i1), .val (.int i2), .val (.int (((i2 - i1) + (1 : Int32)) / (2 : Int32)))]) b27_19_20 rfl ?_
      refine o_blk (pc' := 24) (st' := [(.int (((i2 - i1) + (1 : Int32)) / (2 : Int32))), (.int (i0 - i1))]) (ls' := #[.val (.int i0), .val (.int i1), .val (.int i2), .val (.int (((i2 - i1) + (1 : Int32)) / (2 : Int32)))]) b27_20_24 rfl ?_
      refine o_ic (pc' := 38) (pc'' := 27) d27_24 (by decide) (by decide) rfl (fun (hc24_3 : (((i2 - i1) + (1 : Int32)) / (2 : Int32)) < (i0 - i1)) => ?_) (fun (hc24_3 : ¬ (((i2 - i1) + (1 : Int32)) / (2 : Int32)) < (i0 - i1)) => ?_)
      ·
        rw [if_pos hc24_3] at hM
        exact (LP 3).2 _ _ _ (Pl.i _) R0 hM
      ·
        rw [if_neg hc24_3] at hM
        refine o_blk (pc' := 31) (st' := [(.int (((i2 - i1) + (1 : Int32)) / (2 : Int32))), (.int (i2 - i0))]) (ls' := #[.val (.int i0), .val (.int i1), .val (.int i2), .val (.int (((i2 - i1) + (1 : Int32)) / (2 : Int32)))]) b27_27_31 rfl ?_
        refine o_ic (pc' := 38) (pc'' := 34) d27_31 (by decide) (by decide) rfl (fun (hc31_4 : (((i2 - i1) + (1 : Int32)) / (2 : Int32)) < (i2 - i0)) => ?_) (fun (hc31_4 : ¬ (((i2 - i1) + (1 : Int32)) / (2 : Int32)) < (i2 - i0)) => ?_)
        ·
          rw [if_pos hc31_4] at hM
          exact (LP 3).2 _ _ _ (Pl.i _) R0 hM
        ·
          rw [if_neg hc31_4] at hM
          refine o_blk (pc' := 35) (st' := [(.int (1 : Int32))]) (ls' := #[.val (.int i0), .val (.int i1), .val (.int i2), .val (.int (((i2 - i1) + (1 : Int32)) / (2 : Int32)))]) b27_34_35 rfl ?_
          refine o_goto (pc' := 39) d27_35 (by decide) (by decide) ?_
          cases hM
          exact o_retZ (w := 0) d27_39 (by decide) (by decide) rfl (by decide) ⟨rfl, R0⟩
    ·
      rw [if_pos hc7_2] at hM
      exact (LP 3).1 _ _ _ Pl.u R0 hM
def M_top (H : List AO) (r0 : Nat) : Option (List AO × Int32) :=
  (gfi 4 H r0 0).bind fun q1 => some (H, q1)
set_option maxRecDepth 65536 in
set_option maxHeartbeats 40000000 in
theorem rm_top (l : Launch) (Z : State) (a0 : Array Value) (hw : ∀ d ∈ tables_1, d.before a0 Z = true) (ca : Nat → Addr) (K : OKa Z ca) (H : List AO) (r0 : Nat) (res : List AO × Int32) (h0 : Heap) (hE0 : Ext Z.heap h0) (R0 : Rep Z ca h0 H)  (hM : M_top H r0 = some res) :
    OCtr l Z (⟨"com/example/mild_horn/mildhorn/translation/Centroids", "top", "()I"⟩ : MethodName) prog_40_method_2_code 1 (some .int) ({ frames := 0, cells := 0, slots := 0, locals := 0 } : Room) #[(.ref (ad Z ca r0))] h0 (fun v h => v = some (.int res.2) ∧ Rep Z ca h res.1) := by
  refine o_bodyS (ls0 := #[.val (.ref (ad Z ca r0))]) (plainFor_of_name pn_4) hE0 (fun m => by first | (simp [entryFrame, mkF, argsToLocals, Value.category]; done) | rfl) ?_
  intro pG eG sG mG bG meG cG hS0
  unfold M_top at hM
  refine o_blk (pc' := 1) (st' := [(.ref (ad Z ca r0))]) (ls' := #[.val (.ref (ad Z ca r0))]) b26_0_1 rfl ?_
  obtain ⟨q1, hq1, hM⟩ := own_bind hM
  refine m_getI (t := 0) (i := 0) (pc' := 4) R0 hq1 rfl rfl (own_word hw 155 rfl) d26_1 rfl ?_
  cases hM
  exact o_retI d26_4 (by decide) (by decide) rfl ⟨rfl, R0⟩
def B_bel_15 (r0 : Nat) (i1 : Int32) (i2 : Int32) (rec : Nat → List AO → Int32 → Int32 → Option (List AO × Int32)) (H : List AO) (i3 : Int32) (s0 : Int32) : Option (List AO × Int32) :=
  rec 16 H s0 0
def B_bel_16 (r0 : Nat) (i1 : Int32) (i2 : Int32) (rec : Nat → List AO → Int32 → Int32 → Option (List AO × Int32)) (H : List AO) (i3 : Int32) (s0 : Int32) : Option (List AO × Int32) :=
  (gfr 4 H r0 5).bind fun q1 => (ilo 0 H q1 i3).bind fun q2 => if q2 = i1 then ( some (H, i3) ) else ( (gfr 4 H r0 5).bind fun q4 => (ilo 0 H q4 i3).bind fun q5 => rec 16 H q5 0 )
def L_bel (r0 : Nat) (i1 : Int32) (i2 : Int32) : Nat → Nat → List AO → Int32 → Int32 → Option (List AO × Int32)
  | 0 => fun _ _ _ _ => none
  | f + 1 => fun hd H i3 s0 => if hd = 15 then B_bel_15 r0 i1 i2 (L_bel r0 i1 i2 f) H i3 s0 else if hd = 16 then B_bel_16 r0 i1 i2 (L_bel r0 i1 i2 f) H i3 s0 else none
def M_bel (H : List AO) (r0 : Nat) (i1 : Int32) (i2 : Int32) : Option (List AO × Int32) :=
  if i2 = i1 then ( (gfr 4 H r0 0).bind fun q2 => (ilo 0 H q2 i1).bind fun q3 => L_bel r0 i1 i2 30 15 H 0 q3 ) else ( L_bel r0 i1 i2 30 15 H 0 i2 )
set_option maxRecDepth 65536 in
set_option maxHeartbeats 40000000 in
theorem rm_bel (l : Launch) (Z : State) (a0 : Array Value) (hw : ∀ d ∈ tables_1, d.before a0 Z = true) (ca : Nat → Addr) (K : OKa Z ca) (H : List AO) (r0 : Nat) (i1 : Int32) (i2 : Int32) (res : List AO × Int32) (h0 : Heap) (hE0 : Ext Z.heap h0) (R0 : Rep Z ca h0 H)  (hM : M_bel H r0 i1 i2 = some res) :
    OCtr l Z (⟨"com/example/mild_horn/mildhorn/translation/Centroids", "below", "(II)I"⟩ : MethodName) prog_40_method_3_code 4 (some .int) ({ frames := 0, cells := 0, slots := 0, locals := 0 } : Room) #[(.ref (ad Z ca r0)), (.int i1), (.int i2)] h0 (fun v h => v = some (.int res.2) ∧ Rep Z ca h res.1) := by
  refine o_bodyS (ls0 := #[.val (.ref (ad Z ca r0)), .val (.int i1), .val (.int i2), .unset]) (plainFor_of_name pn_4) hE0 (fun m => by first | (simp [entryFrame, mkF, argsToLocals, Value.category]; done) | rfl) ?_
  intro pG eG sG mG bG meG cG hS0
  have LP : ∀ f : Nat, (∀ (h : Heap) (H : List AO) (s0 : Int32) (x3 : Slot) (p3 : Pl x3) (R : Rep Z ca h H) (hM : L_bel r0 i1 i2 f 15 H 0 s0 = some res), OG pG l eG ({ frames := 0, cells := 0, slots := 0, locals := 0 } : Room) sG mG #[(.ref (ad Z ca r0)), (.int i1), (.int i2)] bG meG cG Z (⟨"com/example/mild_horn/mildhorn/translation/Centroids", "below", "(II)I"⟩ : MethodName).cls (⟨"com/example/mild_horn/mildhorn/translation/Centroids", "below", "(II)I"⟩ : MethodName).name prog_40_method_3_code 4 (some .int) (fun v h => v = some (.int res.2) ∧ Rep Z ca h res.1) ({ frames := 0, cells := 0, slots := 0, locals := 0 } : Room).cells ({ frames := 0, cells := 0, slots := 0, locals := 0 } : Room).slots h 0 0 (mkF mG 15 #[.val (.ref (ad Z ca r0)), .val (.int i1), .val (.int i2), x3] [(.int s0)])) ∧ (∀ (h : Heap) (H : List AO) (i3 : Int32)  (R : Rep Z ca h H) (hM : L_bel r0 i1 i2 f 16 H i3 0 = some res), OG pG l eG ({ frames := 0, cells := 0, slots := 0, locals := 0 } : Room) sG mG #[(.ref (ad Z ca r0)), (.int i1), (.int i2)] bG meG cG Z (⟨"com/example/mild_horn/mildhorn/translation/Centroids", "below", "(II)I"⟩ : MethodName).cls (⟨"com/example/mild_horn/mildhorn/translation/Centroids", "below", "(II)I"⟩ : MethodName).name prog_40_method_3_code 4 (some .int) (fun v h => v = some (.int res.2) ∧ Rep Z ca h res.1) ({ frames := 0, cells := 0, slots := 0, locals := 0 } : Room).cells ({ frames := 0, cells := 0, slots := 0, locals := 0 } : Room).slots h 0 0 (mkF mG 16 #[.val (.ref (ad Z ca r0)), .val (.int i1), .val (.int i2), .val (.int i3)] [])) := by
    intro f
    induction f with
    | zero =>
      refine ⟨?_, ?_⟩
      · intro h H s0 x3 p3 R hM
        first | exact nomatch hM | (simp [L_bel] at hM; done)
      · intro h H i3  R hM
        first | exact nomatch hM | (simp [L_bel] at hM; done)
    | succ f ih =>
      obtain ⟨ih_15, ih_16⟩ := ih
      refine ⟨?_, ?_⟩
      · intro h H s0 x3 p3 R hM
        have hM : B_bel_15 r0 i1 i2 (L_bel r0 i1 i2 f) H 0 s0 = some res := hM
        unfold B_bel_15 at hM
        refine o_stP (pc' := 16) (st' := []) (ls' := #[.val (.ref (ad Z ca r0)), .val (.int i1), .val (.int i2), .val (.int s0)]) d28_15 rfl rfl (own_stI (x := x3) rfl p3) ?_
        exact ih_16 _ _ _  R hM
      · intro h H i3  R hM
        have hM : B_bel_16 r0 i1 i2 (L_bel r0 i1 i2 f) H i3 0 = some res := hM
        unfold B_bel_16 at hM
        refine o_blk (pc' := 17) (st' := [(.ref (ad Z ca r0))]) (ls' := #[.val (.ref (ad Z ca r0)), .val (.int i1), .val (.int i2), .val (.int i3)]) b28_16_17 rfl ?_
        obtain ⟨q1, hq1, hM⟩ := own_bind hM
        refine m_getR (t := 0) (i := 5) (pc' := 20) R hq1 rfl rfl (own_word hw 45 rfl) d28_17 rfl ?_
        refine o_blk (pc' := 21) (st' := [(.int i3), (.ref (ad Z ca q1))]) (ls' := #[.val (.ref (ad Z ca r0)), .val (.int i1), .val (.int i2), .val (.int i3)]) b28_20_21 rfl ?_
        obtain ⟨q2, hq2, hM⟩ := own_bind hM
        refine m_iald (pc' := 22) R hq2 d28_21 rfl ?_
        refine o_blk (pc' := 23) (st' := [(.int i1), (.int q2)]) (ls' := #[.val (.ref (ad Z ca r0)), .val (.int i1), .val (.int i2), .val (.int i3)]) b28_22_23 rfl ?_
        refine o_ic (pc' := 36) (pc'' := 26) d28_23 (by decide) (by decide) rfl (fun (hc23_3 : q2 = i1) => ?_) (fun (hc23_3 : ¬ q2 = i1) => ?_)
        ·
          rw [if_pos hc23_3] at hM
          refine o_blk (pc' := 37) (st' := [(.int i3)]) (ls' := #[.val (.ref (ad Z ca r0)), .val (.int i1), .val (.int i2), .val (.int i3)]) b28_36_37 rfl ?_
          cases hM
          exact o_retI d28_37 (by decide) (by decide) rfl ⟨rfl, R⟩
        ·
          rw [if_neg hc23_3] at hM
          refine o_blk (pc' := 27) (st' := [(.ref (ad Z ca r0))]) (ls' := #[.val (.ref (ad Z ca r0)), .val (.int i1), .val (.int i2), .val (.int i3)]) b28_26_27 rfl ?_
          obtain ⟨q4, hq4, hM⟩ := own_bind hM
          refine m_getR (t := 0) (i := 5) (pc' := 30) R hq4 rfl rfl (own_word hw 45 rfl) d28_27 rfl ?_
          refine o_blk (pc' := 31) (st' := [(.int i3), (.ref (ad Z ca q4))]) (ls' := #[.val (.ref (ad Z ca r0)), .val (.int i1), .val (.int i2), .val (.int i3)]) b28_30_31 rfl ?_
          obtain ⟨q5, hq5, hM⟩ := own_bind hM
          refine m_iald (pc' := 32) R hq5 d28_31 rfl ?_
          refine o_blk (pc' := 33) (st' := []) (ls' := #[.val (.ref (ad Z ca r0)), .val (.int i1), .val (.int i2), .val (.int q5)]) b28_32_33 rfl ?_
          refine o_goto (pc' := 16) d28_33 (by decide) (by decide) ?_
          exact ih_16 _ _ _  R hM
  unfold M_bel at hM
  refine o_blk (pc' := 2) (st' := [(.int i1), (.int i2)]) (ls' := #[.val (.ref (ad Z ca r0)), .val (.int i1), .val (.int i2), .unset]) b28_0_2 rfl ?_
  refine o_ic (pc' := 14) (pc'' := 5) d28_2 (by decide) (by decide) rfl (fun (hc2_1 : ¬ i2 = i1) => ?_) (fun (hc2_1 : i2 = i1) => ?_)
  ·
    rw [if_neg hc2_1] at hM
    refine o_blk (pc' := 15) (st' := [(.int i2)]) (ls' := #[.val (.ref (ad Z ca r0)), .val (.int i1), .val (.int i2), .unset]) b28_14_15 rfl ?_
    exact (LP 30).1 _ _ _ _ Pl.u R0 hM
  ·
    rw [if_pos hc2_1] at hM
    refine o_blk (pc' := 6) (st' := [(.ref (ad Z ca r0))]) (ls' := #[.val (.ref (ad Z ca r0)), .val (.int i1), .val (.int i2), .unset]) b28_5_6 rfl ?_
    obtain ⟨q2, hq2, hM⟩ := own_bind hM
    refine m_getR (t := 0) (i := 0) (pc' := 9) R0 hq2 rfl rfl (own_word hw 14 rfl) d28_6 rfl ?_
    refine o_blk (pc' := 10) (st' := [(.int i1), (.ref (ad Z ca q2))]) (ls' := #[.val (.ref (ad Z ca r0)), .val (.int i1), .val (.int i2), .unset]) b28_9_10 rfl ?_
    obtain ⟨q3, hq3, hM⟩ := own_bind hM
    refine m_iald (pc' := 11) R0 hq3 d28_10 rfl ?_
    refine o_goto (pc' := 15) d28_11 (by decide) (by decide) ?_
    exact (LP 30).1 _ _ _ _ Pl.u R0 hM
def B_law_11  (b1 : Bool) (b2 : Bool) (b3 : Bool) (b4 : Bool) (b5 : Bool) (rec : Nat → List AO → Int32 → Int32 → Int32 → Nat → Nat → Int32 → Int32 → Int32 → Int32 → Int32 → Int32 → Int32 → Nat → Option (List AO × Int32)) (H : List AO) (i2 : Int32) (i3 : Int32) (i4 : Int32) (r5 : Nat) (r6 : Nat) (i7 : Int32) (i8 : Int32) (i9 : Int32) (i10 : Int32) (i11 : Int32) (i12 : Int32) (s0 : Int32) (z0 : Nat) : Option (List AO × Int32) :=
  if b2 = true then ( rec 23 H s0 0 0 0 0 0 0 0 0 0 0 (0 : Int32) 0 ) else ( rec 23 H s0 0 0 0 0 0 0 0 0 0 0 (1 : Int32) 0 )
def B_law_23  (b1 : Bool) (b2 : Bool) (b3 : Bool) (b4 : Bool) (b5 : Bool) (rec : Nat → List AO → Int32 → Int32 → Int32 → Nat → Nat → Int32 → Int32 → Int32 → Int32 → Int32 → Int32 → Int32 → Nat → Option (List AO × Int32)) (H : List AO) (i2 : Int32) (i3 : Int32) (i4 : Int32) (r5 : Nat) (r6 : Nat) (i7 : Int32) (i8 : Int32) (i9 : Int32) (i10 : Int32) (i11 : Int32) (i12 : Int32) (s0 : Int32) (z0 : Nat) : Option (List AO × Int32) :=
  if i2 = 0 then ( rec 35 H i2 s0 0 0 0 0 0 0 0 0 0 (7 : Int32) 0 ) else ( rec 35 H i2 s0 0 0 0 0 0 0 0 0 0 (8 : Int32) 0 )
def B_law_35  (b1 : Bool) (b2 : Bool) (b3 : Bool) (b4 : Bool) (b5 : Bool) (rec : Nat → List AO → Int32 → Int32 → Int32 → Nat → Nat → Int32 → Int32 → Int32 → Int32 → Int32 → Int32 → Int32 → Nat → Option (List AO × Int32)) (H : List AO) (i2 : Int32) (i3 : Int32) (i4 : Int32) (r5 : Nat) (r6 : Nat) (i7 : Int32) (i8 : Int32) (i9 : Int32) (i10 : Int32) (i11 : Int32) (i12 : Int32) (s0 : Int32) (z0 : Nat) : Option (List AO × Int32) :=
  if i2 = 0 then ( (newI 0 H (7 : Int32)).bind fun q2 => rec 52 q2.1 i2 i3 s0 0 0 0 0 0 0 0 0 0 q2.2 ) else ( (newI 0 H (8 : Int32)).bind fun q3 => rec 52 q3.1 i2 i3 s0 0 0 0 0 0 0 0 0 0 q3.2 )
def B_law_52  (b1 : Bool) (b2 : Bool) (b3 : Bool) (b4 : Bool) (b5 : Bool) (rec : Nat → List AO → Int32 → Int32 → Int32 → Nat → Nat → Int32 → Int32 → Int32 → Int32 → Int32 → Int32 → Int32 → Nat → Option (List AO × Int32)) (H : List AO) (i2 : Int32) (i3 : Int32) (i4 : Int32) (r5 : Nat) (r6 : Nat) (i7 : Int32) (i8 : Int32) (i9 : Int32) (i10 : Int32) (i11 : Int32) (i12 : Int32) (s0 : Int32) (z0 : Nat) : Option (List AO × Int32) :=
  (M_paro H (0 : Int32) i4 i3).bind fun q1 => (ist 0 q1.1 z0 (0 : Int32) q1.2).bind fun q2 => (M_paro q2 (1 : Int32) i4 i3).bind fun q3 => (ist 0 q3.1 z0 (1 : Int32) q3.2).bind fun q4 => (M_paro q4 (2 : Int32) i4 i3).bind fun q5 => (ist 0 q5.1 z0 (2 : Int32) q5.2).bind fun q6 => (M_paro q6 (3 : Int32) i4 i3).bind fun q7 => (ist 0 q7.1 z0 (3 : Int32) q7.2).bind fun q8 => (M_paro q8 (4 : Int32) i4 i3).bind fun q9 => (ist 0 q9.1 z0 (4 : Int32) q9.2).bind fun q10 => (M_paro q10 (5 : Int32) i4 i3).bind fun q11 => (ist 0 q11.1 z0 (5 : Int32) q11.2).bind fun q12 => (M_paro q12 (6 : Int32) i4 i3).bind fun q13 => (ist 0 q13.1 z0 (6 : Int32) q13.2).bind fun q14 => if i2 = 0 then ( rec 150 q14 0 i3 i4 z0 0 0 0 0 0 0 0 0 0 ) else ( (M_paro q14 (7 : Int32) i4 i3).bind fun q16 => (ist 0 q16.1 z0 (7 : Int32) q16.2).bind fun q17 => rec 150 q17 0 i3 i4 z0 0 0 0 0 0 0 0 0 0 )
def B_law_150  (b1 : Bool) (b2 : Bool) (b3 : Bool) (b4 : Bool) (b5 : Bool) (rec : Nat → List AO → Int32 → Int32 → Int32 → Nat → Nat → Int32 → Int32 → Int32 → Int32 → Int32 → Int32 → Int32 → Nat → Option (List AO × Int32)) (H : List AO) (i2 : Int32) (i3 : Int32) (i4 : Int32) (r5 : Nat) (r6 : Nat) (i7 : Int32) (i8 : Int32) (i9 : Int32) (i10 : Int32) (i11 : Int32) (i12 : Int32) (s0 : Int32) (z0 : Nat) : Option (List AO × Int32) :=
  (hnew H (4, [0], [0, 0, 0, 0, 0, 0])).bind fun q1 => (M_ini q1.1 q1.2 r5).bind fun q2 => if ((hget q2.1 q1.2).any fun o => o.1 == 4) = true then ( (M_top q2.1 q1.2).bind fun q4 => (M_ceno q4.1 q4.2 (0 : Int32) (i4 - (1 : Int32))).bind fun q5 => if q5.2 = 0 then ( some (q5.1, (0 : Int32)) ) else ( if (0 : Int32) = (i4 - (1 : Int32)) then ( some (q5.1, (1 : Int32)) ) else ( if q4.2 = (i4 - (1 : Int32)) then ( rec 225 q5.1 0 i3 0 0 q1.2 (0 : Int32) (i4 - (1 : Int32)) q4.2 0 0 0 (1 : Int32) 0 ) else ( if q4.2 = (0 : Int32) then ( rec 225 q5.1 0 i3 0 0 q1.2 (0 : Int32) (i4 - (1 : Int32)) q4.2 0 0 0 (0 : Int32) 0 ) else ( if b3 = true then ( rec 225 q5.1 0 i3 0 0 q1.2 (0 : Int32) (i4 - (1 : Int32)) q4.2 0 0 0 (0 : Int32) 0 ) else ( rec 225 q5.1 0 i3 0 0 q1.2 (0 : Int32) (i4 - (1 : Int32)) q4.2 0 0 0 (1 : Int32) 0 ) ) ) ) ) ) else none
def B_law_225  (b1 : Bool) (b2 : Bool) (b3 : Bool) (b4 : Bool) (b5 : Bool) (rec : Nat → List AO → Int32 → Int32 → Int32 → Nat → Nat → Int32 → Int32 → Int32 → Int32 → Int32 → Int32 → Int32 → Nat → Option (List AO × Int32)) (H : List AO) (i2 : Int32) (i3 : Int32) (i4 : Int32) (r5 : Nat) (r6 : Nat) (i7 : Int32) (i8 : Int32) (i9 : Int32) (i10 : Int32) (i11 : Int32) (i12 : Int32) (s0 : Int32) (z0 : Nat) : Option (List AO × Int32) :=
  if s0 = 0 then ( rec 241 H 0 i3 0 0 r6 0 i8 i9 s0 0 0 (i9 + (1 : Int32)) 0 ) else ( rec 241 H 0 i3 0 0 r6 0 i8 i9 s0 0 0 i7 0 )
def B_law_241  (b1 : Bool) (b2 : Bool) (b3 : Bool) (b4 : Bool) (b5 : Bool) (rec : Nat → List AO → Int32 → Int32 → Int32 → Nat → Nat → Int32 → Int32 → Int32 → Int32 → Int32 → Int32 → Int32 → Nat → Option (List AO × Int32)) (H : List AO) (i2 : Int32) (i3 : Int32) (i4 : Int32) (r5 : Nat) (r6 : Nat) (i7 : Int32) (i8 : Int32) (i9 : Int32) (i10 : Int32) (i11 : Int32) (i12 : Int32) (s0 : Int32) (z0 : Nat) : Option (List AO × Int32) :=
  if i10 = 0 then ( rec 257 H 0 i3 0 0 r6 0 0 i9 i10 s0 0 i8 0 ) else ( rec 257 H 0 i3 0 0 r6 0 0 i9 i10 s0 0 (i9 - (1 : Int32)) 0 )
def B_law_257  (b1 : Bool) (b2 : Bool) (b3 : Bool) (b4 : Bool) (b5 : Bool) (rec : Nat → List AO → Int32 → Int32 → Int32 → Nat → Nat → Int32 → Int32 → Int32 → Int32 → Int32 → Int32 → Int32 → Nat → Option (List AO × Int32)) (H : List AO) (i2 : Int32) (i3 : Int32) (i4 : Int32) (r5 : Nat) (r6 : Nat) (i7 : Int32) (i8 : Int32) (i9 : Int32) (i10 : Int32) (i11 : Int32) (i12 : Int32) (s0 : Int32) (z0 : Nat) : Option (List AO × Int32) :=
  if i10 = 0 then ( if i3 = 0 then ( rec 293 H 0 i3 0 0 r6 0 0 i9 0 i11 s0 (i9 + (1 : Int32)) 0 ) else ( rec 293 H 0 i3 0 0 r6 0 0 i9 0 i11 s0 i9 0 ) ) else ( if i3 = 0 then ( rec 293 H 0 i3 0 0 r6 0 0 i9 0 i11 s0 i9 0 ) else ( rec 293 H 0 i3 0 0 r6 0 0 i9 0 i11 s0 (i9 - (1 : Int32)) 0 ) )
def B_law_293  (b1 : Bool) (b2 : Bool) (b3 : Bool) (b4 : Bool) (b5 : Bool) (rec : Nat → List AO → Int32 → Int32 → Int32 → Nat → Nat → Int32 → Int32 → Int32 → Int32 → Int32 → Int32 → Int32 → Nat → Option (List AO × Int32)) (H : List AO) (i2 : Int32) (i3 : Int32) (i4 : Int32) (r5 : Nat) (r6 : Nat) (i7 : Int32) (i8 : Int32) (i9 : Int32) (i10 : Int32) (i11 : Int32) (i12 : Int32) (s0 : Int32) (z0 : Nat) : Option (List AO × Int32) :=
  if ((hget H r6).any fun o => o.1 == 4) = true then ( (M_bel H r6 i9 s0).bind fun q2 => (M_ceno q2.1 q2.2 i11 i12).bind fun q3 => if q3.2 = 0 then ( some (q3.1, (0 : Int32)) ) else ( if i11 = i12 then ( some (q3.1, (1 : Int32)) ) else ( if q2.2 = i12 then ( rec 366 q3.1 0 i3 0 0 r6 i11 i12 q2.2 0 0 0 (1 : Int32) 0 ) else ( if q2.2 = i11 then ( rec 366 q3.1 0 i3 0 0 r6 i11 i12 q2.2 0 0 0 (0 : Int32) 0 ) else ( if b4 = true then ( rec 366 q3.1 0 i3 0 0 r6 i11 i12 q2.2 0 0 0 (0 : Int32) 0 ) else ( rec 366 q3.1 0 i3 0 0 r6 i11 i12 q2.2 0 0 0 (1 : Int32) 0 ) ) ) ) ) ) else none
def B_law_366  (b1 : Bool) (b2 : Bool) (b3 : Bool) (b4 : Bool) (b5 : Bool) (rec : Nat → List AO → Int32 → Int32 → Int32 → Nat → Nat → Int32 → Int32 → Int32 → Int32 → Int32 → Int32 → Int32 → Nat → Option (List AO × Int32)) (H : List AO) (i2 : Int32) (i3 : Int32) (i4 : Int32) (r5 : Nat) (r6 : Nat) (i7 : Int32) (i8 : Int32) (i9 : Int32) (i10 : Int32) (i11 : Int32) (i12 : Int32) (s0 : Int32) (z0 : Nat) : Option (List AO × Int32) :=
  if s0 = 0 then ( rec 382 H 0 i3 0 0 r6 0 i8 i9 s0 0 0 (i9 + (1 : Int32)) 0 ) else ( rec 382 H 0 i3 0 0 r6 0 i8 i9 s0 0 0 i7 0 )
def B_law_382  (b1 : Bool) (b2 : Bool) (b3 : Bool) (b4 : Bool) (b5 : Bool) (rec : Nat → List AO → Int32 → Int32 → Int32 → Nat → Nat → Int32 → Int32 → Int32 → Int32 → Int32 → Int32 → Int32 → Nat → Option (List AO × Int32)) (H : List AO) (i2 : Int32) (i3 : Int32) (i4 : Int32) (r5 : Nat) (r6 : Nat) (i7 : Int32) (i8 : Int32) (i9 : Int32) (i10 : Int32) (i11 : Int32) (i12 : Int32) (s0 : Int32) (z0 : Nat) : Option (List AO × Int32) :=
  if i10 = 0 then ( rec 398 H 0 i3 0 0 r6 0 0 i9 i10 s0 0 i8 0 ) else ( rec 398 H 0 i3 0 0 r6 0 0 i9 i10 s0 0 (i9 - (1 : Int32)) 0 )
def B_law_398  (b1 : Bool) (b2 : Bool) (b3 : Bool) (b4 : Bool) (b5 : Bool) (rec : Nat → List AO → Int32 → Int32 → Int32 → Nat → Nat → Int32 → Int32 → Int32 → Int32 → Int32 → Int32 → Int32 → Nat → Option (List AO × Int32)) (H : List AO) (i2 : Int32) (i3 : Int32) (i4 : Int32) (r5 : Nat) (r6 : Nat) (i7 : Int32) (i8 : Int32) (i9 : Int32) (i10 : Int32) (i11 : Int32) (i12 : Int32) (s0 : Int32) (z0 : Nat) : Option (List AO × Int32) :=
  if i10 = 0 then ( if i3 = 0 then ( rec 434 H 0 i3 0 0 r6 0 0 i9 0 i11 s0 (i9 + (1 : Int32)) 0 ) else ( rec 434 H 0 i3 0 0 r6 0 0 i9 0 i11 s0 i9 0 ) ) else ( if i3 = 0 then ( rec 434 H 0 i3 0 0 r6 0 0 i9 0 i11 s0 i9 0 ) else ( rec 434 H 0 i3 0 0 r6 0 0 i9 0 i11 s0 (i9 - (1 : Int32)) 0 ) )
def B_law_434  (b1 : Bool) (b2 : Bool) (b3 : Bool) (b4 : Bool) (b5 : Bool) (rec : Nat → List AO → Int32 → Int32 → Int32 → Nat → Nat → Int32 → Int32 → Int32 → Int32 → Int32 → Int32 → Int32 → Nat → Option (List AO × Int32)) (H : List AO) (i2 : Int32) (i3 : Int32) (i4 : Int32) (r5 : Nat) (r6 : Nat) (i7 : Int32) (i8 : Int32) (i9 : Int32) (i10 : Int32) (i11 : Int32) (i12 : Int32) (s0 : Int32) (z0 : Nat) : Option (List AO × Int32) :=
  if ((hget H r6).any fun o => o.1 == 4) = true then ( (M_bel H r6 i9 s0).bind fun q2 => (M_ceno q2.1 q2.2 i11 i12).bind fun q3 => if q3.2 = 0 then ( some (q3.1, (0 : Int32)) ) else ( if i11 = i12 then ( some (q3.1, (1 : Int32)) ) else ( if q2.2 = i12 then ( rec 507 q3.1 0 i3 0 0 r6 i11 i12 q2.2 0 0 0 (1 : Int32) 0 ) else ( if q2.2 = i11 then ( rec 507 q3.1 0 i3 0 0 r6 i11 i12 q2.2 0 0 0 (0 : Int32) 0 ) else ( if b5 = true then ( rec 507 q3.1 0 i3 0 0 r6 i11 i12 q2.2 0 0 0 (0 : Int32) 0 ) else ( rec 507 q3.1 0 i3 0 0 r6 i11 i12 q2.2 0 0 0 (1 : Int32) 0 ) ) ) ) ) ) else none
def B_law_507  (b1 : Bool) (b2 : Bool) (b3 : Bool) (b4 : Bool) (b5 : Bool) (rec : Nat → List AO → Int32 → Int32 → Int32 → Nat → Nat → Int32 → Int32 → Int32 → Int32 → Int32 → Int32 → Int32 → Nat → Option (List AO × Int32)) (H : List AO) (i2 : Int32) (i3 : Int32) (i4 : Int32) (r5 : Nat) (r6 : Nat) (i7 : Int32) (i8 : Int32) (i9 : Int32) (i10 : Int32) (i11 : Int32) (i12 : Int32) (s0 : Int32) (z0 : Nat) : Option (List AO × Int32) :=
  if s0 = 0 then ( rec 523 H 0 i3 0 0 r6 0 i8 i9 s0 0 0 (i9 + (1 : Int32)) 0 ) else ( rec 523 H 0 i3 0 0 r6 0 i8 i9 s0 0 0 i7 0 )
def B_law_523  (b1 : Bool) (b2 : Bool) (b3 : Bool) (b4 : Bool) (b5 : Bool) (rec : Nat → List AO → Int32 → Int32 → Int32 → Nat → Nat → Int32 → Int32 → Int32 → Int32 → Int32 → Int32 → Int32 → Nat → Option (List AO × Int32)) (H : List AO) (i2 : Int32) (i3 : Int32) (i4 : Int32) (r5 : Nat) (r6 : Nat) (i7 : Int32) (i8 : Int32) (i9 : Int32) (i10 : Int32) (i11 : Int32) (i12 : Int32) (s0 : Int32) (z0 : Nat) : Option (List AO × Int32) :=
  if i10 = 0 then ( rec 539 H 0 i3 0 0 r6 0 0 i9 i10 s0 0 i8 0 ) else ( rec 539 H 0 i3 0 0 r6 0 0 i9 i10 s0 0 (i9 - (1 : Int32)) 0 )
def B_law_539  (b1 : Bool) (b2 : Bool) (b3 : Bool) (b4 : Bool) (b5 : Bool) (rec : Nat → List AO → Int32 → Int32 → Int32 → Nat → Nat → Int32 → Int32 → Int32 → Int32 → Int32 → Int32 → Int32 → Nat → Option (List AO × Int32)) (H : List AO) (i2 : Int32) (i3 : Int32) (i4 : Int32) (r5 : Nat) (r6 : Nat) (i7 : Int32) (i8 : Int32) (i9 : Int32) (i10 : Int32) (i11 : Int32) (i12 : Int32) (s0 : Int32) (z0 : Nat) : Option (List AO × Int32) :=
  if i10 = 0 then ( if i3 = 0 then ( rec 575 H 0 0 0 0 r6 0 0 i9 0 i11 s0 (i9 + (1 : Int32)) 0 ) else ( rec 575 H 0 0 0 0 r6 0 0 i9 0 i11 s0 i9 0 ) ) else ( if i3 = 0 then ( rec 575 H 0 0 0 0 r6 0 0 i9 0 i11 s0 i9 0 ) else ( rec 575 H 0 0 0 0 r6 0 0 i9 0 i11 s0 (i9 - (1 : Int32)) 0 ) )
def B_law_575  (b1 : Bool) (b2 : Bool) (b3 : Bool) (b4 : Bool) (b5 : Bool) (rec : Nat → List AO → Int32 → Int32 → Int32 → Nat → Nat → Int32 → Int32 → Int32 → Int32 → Int32 → Int32 → Int32 → Nat → Option (List AO × Int32)) (H : List AO) (i2 : Int32) (i3 : Int32) (i4 : Int32) (r5 : Nat) (r6 : Nat) (i7 : Int32) (i8 : Int32) (i9 : Int32) (i10 : Int32) (i11 : Int32) (i12 : Int32) (s0 : Int32) (z0 : Nat) : Option (List AO × Int32) :=
  if ((hget H r6).any fun o => o.1 == 4) = true then ( (M_bel H r6 i9 s0).bind fun q2 => (M_ceno q2.1 q2.2 i11 i12).bind fun q3 => if (q3.2 = 0 ∨ q3.2 = 1) then ( some (q3.1, q3.2) ) else none ) else none
def L_law  (b1 : Bool) (b2 : Bool) (b3 : Bool) (b4 : Bool) (b5 : Bool) : Nat → Nat → List AO → Int32 → Int32 → Int32 → Nat → Nat → Int32 → Int32 → Int32 → Int32 → Int32 → Int32 → Int32 → Nat → Option (List AO × Int32)
  | 0 => fun _ _ _ _ _ _ _ _ _ _ _ _ _ _ _ => none
  | f + 1 => fun hd H i2 i3 i4 r5 r6 i7 i8 i9 i10 i11 i12 s0 z0 => if hd = 11 then B_law_11 b1 b2 b3 b4 b5 (L_law b1 b2 b3 b4 b5 f) H i2 i3 i4 r5 r6 i7 i8 i9 i10 i11 i12 s0 z0 else if hd = 23 then B_law_23 b1 b2 b3 b4 b5 (L_law b1 b2 b3 b4 b5 f) H i2 i3 i4 r5 r6 i7 i8 i9 i10 i11 i12 s0 z0 else if hd = 35 then B_law_35 b1 b2 b3 b4 b5 (L_law b1 b2 b3 b4 b5 f) H i2 i3 i4 r5 r6 i7 i8 i9 i10 i11 i12 s0 z0 else if hd = 52 then B_law_52 b1 b2 b3 b4 b5 (L_law b1 b2 b3 b4 b5 f) H i2 i3 i4 r5 r6 i7 i8 i9 i10 i11 i12 s0 z0 else if hd = 150 then B_law_150 b1 b2 b3 b4 b5 (L_law b1 b2 b3 b4 b5 f) H i2 i3 i4 r5 r6 i7 i8 i9 i10 i11 i12 s0 z0 else if hd = 225 then B_law_225 b1 b2 b3 b4 b5 (L_law b1 b2 b3 b4 b5 f) H i2 i3 i4 r5 r6 i7 i8 i9 i10 i11 i12 s0 z0 else if hd = 241 then B_law_241 b1 b2 b3 b4 b5 (L_law b1 b2 b3 b4 b5 f) H i2 i3 i4 r5 r6 i7 i8 i9 i10 i11 i12 s0 z0 else if hd = 257 then B_law_257 b1 b2 b3 b4 b5 (L_law b1 b2 b3 b4 b5 f) H i2 i3 i4 r5 r6 i7 i8 i9 i10 i11 i12 s0 z0 else if hd = 293 then B_law_293 b1 b2 b3 b4 b5 (L_law b1 b2 b3 b4 b5 f) H i2 i3 i4 r5 r6 i7 i8 i9 i10 i11 i12 s0 z0 else if hd = 366 then B_law_366 b1 b2 b3 b4 b5 (L_law b1 b2 b3 b4 b5 f) H i2 i3 i4 r5 r6 i7 i8 i9 i10 i11 i12 s0 z0 else if hd = 382 then B_law_382 b1 b2 b3 b4 b5 (L_law b1 b2 b3 b4 b5 f) H i2 i3 i4 r5 r6 i7 i8 i9 i10 i11 i12 s0 z0 else if hd = 398 then B_law_398 b1 b2 b3 b4 b5 (L_law b1 b2 b3 b4 b5 f) H i2 i3 i4 r5 r6 i7 i8 i9 i10 i11 i12 s0 z0 else if hd = 434 then B_law_434 b1 b2 b3 b4 b5 (L_law b1 b2 b3 b4 b5 f) H i2 i3 i4 r5 r6 i7 i8 i9 i10 i11 i12 s0 z0 else if hd = 507 then B_law_507 b1 b2 b3 b4 b5 (L_law b1 b2 b3 b4 b5 f) H i2 i3 i4 r5 r6 i7 i8 i9 i10 i11 i12 s0 z0 else if hd = 523 then B_law_523 b1 b2 b3 b4 b5 (L_law b1 b2 b3 b4 b5 f) H i2 i3 i4 r5 r6 i7 i8 i9 i10 i11 i12 s0 z0 else if hd = 539 then B_law_539 b1 b2 b3 b4 b5 (L_law b1 b2 b3 b4 b5 f) H i2 i3 i4 r5 r6 i7 i8 i9 i10 i11 i12 s0 z0 else if hd = 575 then B_law_575 b1 b2 b3 b4 b5 (L_law b1 b2 b3 b4 b5 f) H i2 i3 i4 r5 r6 i7 i8 i9 i10 i11 i12 s0 z0 else none
def M_law (H : List AO)  (b1 : Bool) (b2 : Bool) (b3 : Bool) (b4 : Bool) (b5 : Bool) : Option (List AO × Int32) :=
  if b1 = true then ( L_law b1 b2 b3 b4 b5 30 11 H 0 0 0 0 0 0 0 0 0 0 0 (0 : Int32) 0 ) else ( L_law b1 b2 b3 b4 b5 30 11 H 0 0 0 0 0 0 0 0 0 0 0 (1 : Int32) 0 )
set_option maxRecDepth 65536 in
set_option maxHeartbeats 40000000 in
theorem rm_law (l : Launch) (Z : State) (a0 : Array Value) (hw : ∀ d ∈ tables_1, d.before a0 Z = true) (ca : Nat → Addr) (K : OKa Z ca) (H : List AO) (i0 : Int32) (i1 : Int32) (b1 : Bool) (b2 : Bool) (b3 : Bool) (b4 : Bool) (b5 : Bool) (res : List AO × Int32) (h0 : Heap) (hE0 : Ext Z.heap h0) (R0 : Rep Z ca h0 H) (hbit_b1 : (i0 &&& 1 = 0) ↔ b1 = true) (hbit_b2 : (i0 &&& 2 = 0) ↔ b2 = true) (hbit_b3 : (i1 &&& 1 = 0) ↔ b3 = true) (hbit_b4 : (i1 &&& 2 = 0) ↔ b4 = true) (hbit_b5 : (i1 &&& 4 = 0) ↔ b5 = true) (hres : res.2 = 1) (hM : M_law H b1 b2 b3 b4 b5 = some res) :
    OCtr l Z x code maxLocals ret room_1 #[(.int i0), (.int i1)] h0 (fun v h => v = some (.int 1)) := by
  refine o_bodyS (ls0 := #[.val (.int i0), .val (.int i1), .unset, .unset, .unset, .unset, .unset, .unset, .unset, .unset, .unset, .unset, .unset, .unset, .unset]) (plainFor_of_name pn_5) hE0 (fun m => by first | (simp [entryFrame, mkF, argsToLocals, Value.category, maxLocals]; done) | rfl) ?_
  intro pG eG sG mG bG meG cG hS0
  have LP : ∀ f : Nat, (∀ (h : Heap) (H : List AO) (s0 : Int32) (x2 : Slot) (p2 : Pl x2) (x3 : Slot) (p3 : Pl x3) (x4 : Slot) (p4 : Pl x4) (x5 : Slot) (p5 : Pl x5) (x6 : Slot) (p6 : Pl x6) (x7 : Slot) (p7 : Pl x7) (x8 : Slot) (p8 : Pl x8) (x9 : Slot) (p9 : Pl x9) (x10 : Slot) (p10 : Pl x10) (x11 : Slot) (p11 : Pl x11) (x12 : Slot) (p12 : Pl x12) (x13 : Slot) (p13 : Pl x13) (x14 : Slot) (p14 : Pl x14) (R : Rep Z ca h H) (hM : L_law b1 b2 b3 b4 b5 f 11 H 0 0 0 0 0 0 0 0 0 0 0 s0 0 = some res), OG pG l eG room_1 sG mG #[(.int i0), (.int i1)] bG meG cG Z x.cls x.name code maxLocals ret (fun v h => v = some (.int 1)) room_1.cells room_1.slots h 0 0 (mkF mG 11 #[.val (.int i0), .val (.int i1), x2, x3, x4, x5, x6, x7, x8, x9, x10, x11, x12, x13, x14] [(.int s0)])) ∧ (∀ (h : Heap) (H : List AO) (i2 : Int32) (s0 : Int32) (x3 : Slot) (p3 : Pl x3) (x4 : Slot) (p4 : Pl x4) (x5 : Slot) (p5 : Pl x5) (x6 : Slot) (p6 : Pl x6) (x7 : Slot) (p7 : Pl x7) (x8 : Slot) (p8 : Pl x8) (x9 : Slot) (p9 : Pl x9) (x10 : Slot) (p10 : Pl x10) (x11 : Slot) (p11 : Pl x11) (x12 : Slot) (p12 : Pl x12) (x13 : Slot) (p13 : Pl x13) (x14 : Slot) (p14 : Pl x14) (R : Rep Z ca h H) (hM : L_law b1 b2 b3 b4 b5 f 23 H i2 0 0 0 0 0 0 0 0 0 0 s0 0 = some res), OG pG l eG room_1 sG mG #[(.int i0), (.int i1)] bG meG cG Z x.cls x.name code maxLocals ret (fun v h => v = some (.int 1)) room_1.cells room_1.slots h 0 0 (mkF mG 23 #[.val (.int i0), .val (.int i1), .val (.int i2), x3, x4, x5, x6, x7, x8, x9, x10, x11, x12, x13, x14] [(.int s0)])) ∧ (∀ (h : Heap) (H : List AO) (i2 : Int32) (i3 : Int32) (s0 : Int32) (x4 : Slot) (p4 : Pl x4) (x5 : Slot) (p5 : Pl x5) (x6 : Slot) (p6 : Pl x6) (x7 : Slot) (p7 : Pl x7) (x8 : Slot) (p8 : Pl x8) (x9 : Slot) (p9 : Pl x9) (x10 : Slot) (p10 : Pl x10) (x11 : Slot) (p11 : Pl x11) (x12 : Slot) (p12 : Pl x12) (x13 : Slot) (p13 : Pl x13) (x14 : Slot) (p14 : Pl x14) (R : Rep Z ca h H) (hM : L_law b1 b2 b3 b4 b5 f 35 H i2 i3 0 0 0 0 0 0 0 0 0 s0 0 = some res), OG pG l eG room_1 sG mG #[(.int i0), (.int i1)] bG meG cG Z x.cls x.name code maxLocals ret (fun v h => v = some (.int 1)) room_1.cells room_1.slots h 0 0 (mkF mG 35 #[.val (.int i0), .val (.int i1), .val (.int i2), .val (.int i3), x4, x5, x6, x7, x8, x9, x10, x11, x12, x13, x14] [(.int s0)])) ∧ (∀ (h : Heap) (H : List AO) (i2 : Int32) (i3 : Int32) (i4 : Int32) (z0 : Nat) (x5 : Slot) (p5 : Pl x5) (x6 : Slot) (p6 : Pl x6) (x7 : Slot) (p7 : Pl x7) (x8 : Slot) (p8 : Pl x8) (x9 : Slot) (p9 : Pl x9) (x10 : Slot) (p10 : Pl x10) (x11 : Slot) (p11 : Pl x11) (x12 : Slot) (p12 : Pl x12) (x13 : Slot) (p13 : Pl x13) (x14 : Slot) (p14 : Pl x14) (R : Rep Z ca h H) (hM : L_law b1 b2 b3 b4 b5 f 52 H i2 i3 i4 0 0 0 0 0 0 0 0 0 z0 = some res), OG pG l eG room_1 sG mG #[(.int i0), (.int i1)] bG meG cG Z x.cls x.name code maxLocals ret (fun v h => v = some (.int 1)) room_1.cells room_1.slots h 1 8 (mkF mG 52 #[.val (.int i0), .val (.int i1), .val (.int i2), .val (.int i3), .val (.int i4), x5, x6, x7, x8, x9, x10, x11, x12, x13, x14] [(.ref (ad Z ca z0))])) ∧ (∀ (h : Heap) (H : List AO) (i3 : Int32) (i4 : Int32) (r5 : Nat) (x2 : Slot) (p2 : Pl x2) (x6 : Slot) (p6 : Pl x6) (x7 : Slot) (p7 : Pl x7) (x8 : Slot) (p8 : Pl x8) (x9 : Slot) (p9 : Pl x9) (x10 : Slot) (p10 : Pl x10) (x11 : Slot) (p11 : Pl x11) (x12 : Slot) (p12 : Pl x12) (x13 : Slot) (p13 : Pl x13) (x14 : Slot) (p14 : Pl x14) (R : Rep Z ca h H) (hM : L_law b1 b2 b3 b4 b5 f 150 H 0 i3 i4 r5 0 0 0 0 0 0 0 0 0 = some res), OG pG l eG room_1 sG mG #[(.int i0), (.int i1)] bG meG cG Z x.cls x.name code maxLocals ret (fun v h => v = some (.int 1)) room_1.cells room_1.slots h 1 8 (mkF mG 150 #[.val (.int i0), .val (.int i1), x2, .val (.int i3), .val (.int i4), .val (.ref (ad Z ca r5)), x6, x7, x8, x9, x10, x11, x12, x13, x14] [])) ∧ (∀ (h : Heap) (H : List AO) (i3 : Int32) (r6 : Nat) (i7 : Int32) (i8 : Int32) (i9 : Int32) (s0 : Int32) (x2 : Slot) (p2 : Pl x2) (x4 : Slot) (p4 : Pl x4) (x5 : Slot) (p5 : Pl x5) (x10 : Slot) (p10 : Pl x10) (x11 : Slot) (p11 : Pl x11) (x12 : Slot) (p12 : Pl x12) (x13 : Slot) (p13 : Pl x13) (x14 : Slot) (p14 : Pl x14) (R : Rep Z ca h H) (hM : L_law b1 b2 b3 b4 b5 f 225 H 0 i3 0 0 r6 i7 i8 i9 0 0 0 s0 0 = some res), OG pG l eG room_1 sG mG #[(.int i0), (.int i1)] bG meG cG Z x.cls x.name code maxLocals ret (fun v h => v = some (.int 1)) room_1.cells room_1.slots h 42 343 (mkF mG 225 #[.val (.int i0), .val (.int i1), x2, .val (.int i3), x4, x5, .val (.ref (ad Z ca r6)), .val (.int i7), .val (.int i8), .val (.int i9), x10, x11, x12, x13, x14] [(.int s0)])) ∧ (∀ (h : Heap) (H : List AO) (i3 : Int32) (r6 : Nat) (i8 : Int32) (i9 : Int32) (i10 : Int32) (s0 : Int32) (x2 : Slot) (p2 : Pl x2) (x4 : Slot) (p4 : Pl x4) (x5 : Slot) (p5 : Pl x5) (x7 : Slot) (p7 : Pl x7) (x11 : Slot) (p11 : Pl x11) (x12 : Slot) (p12 : Pl x12) (x13 : Slot) (p13 : Pl x13) (x14 : Slot) (p14 : Pl x14) (R : Rep Z ca h H) (hM : L_law b1 b2 b3 b4 b5 f 241 H 0 i3 0 0 r6 0 i8 i9 i10 0 0 s0 0 = some res), OG pG l eG room_1 sG mG #[(.int i0), (.int i1)] bG meG cG Z x.cls x.name code maxLocals ret (fun v h => v = some (.int 1)) room_1.cells room_1.slots h 42 343 (mkF mG 241 #[.val (.int i0), .val (.int i1), x2, .val (.int i3), x4, x5, .val (.ref (ad Z ca r6)), x7, .val (.int i8), .val (.int i9), .val (.int i10), x11, x12, x13, x14] [(.int s0)])) ∧ (∀ (h : Heap) (H : List AO) (i3 : Int32) (r6 : Nat) (i9 : Int32) (i10 : Int32) (i11 : Int32) (s0 : Int32) (x2 : Slot) (p2 : Pl x2) (x4 : Slot) (p4 : Pl x4) (x5 : Slot) (p5 : Pl x5) (x7 : Slot) (p7 : Pl x7) (x8 : Slot) (p8 : Pl x8) (x12 : Slot) (p12 : Pl x12) (x13 : Slot) (p13 : Pl x13) (x14 : Slot) (p14 : Pl x14) (R : Rep Z ca h H) (hM : L_law b1 b2 b3 b4 b5 f 257 H 0 i3 0 0 r6 0 0 i9 i10 i11 0 s0 0 = some res), OG pG l eG room_1 sG mG #[(.int i0), (.int i1)] bG meG cG Z x.cls x.name code maxLocals ret (fun v h => v = some (.int 1)) room_1.cells room_1.slots h 42 343 (mkF mG 257 #[.val (.int i0), .val (.int i1), x2, .val (.int i3), x4, x5, .val (.ref (ad Z ca r6)), x7, x8, .val (.int i9), .val (.int i10), .val (.int i11), x12, x13, x14] [(.int s0)])) ∧ (∀ (h : Heap) (H : List AO) (i3 : Int32) (r6 : Nat) (i9 : Int32) (i11 : Int32) (i12 : Int32) (s0 : Int32) (x2 : Slot) (p2 : Pl x2) (x4 : Slot) (p4 : Pl x4) (x5 : Slot) (p5 : Pl x5) (x7 : Slot) (p7 : Pl x7) (x8 : Slot) (p8 : Pl x8) (x10 : Slot) (p10 : Pl x10) (x13 : Slot) (p13 : Pl x13) (x14 : Slot) (p14 : Pl x14) (R : Rep Z ca h H) (hM : L_law b1 b2 b3 b4 b5 f 293 H 0 i3 0 0 r6 0 0 i9 0 i11 i12 s0 0 = some res), OG pG l eG room_1 sG mG #[(.int i0), (.int i1)] bG meG cG Z x.cls x.name code maxLocals ret (fun v h => v = some (.int 1)) room_1.cells room_1.slots h 42 343 (mkF mG 293 #[.val (.int i0), .val (.int i1), x2, .val (.int i3), x4, x5, .val (.ref (ad Z ca r6)), x7, x8, .val (.int i9), x10, .val (.int i11), .val (.int i12), x13, x14] [(.int s0)])) ∧ (∀ (h : Heap) (H : List AO) (i3 : Int32) (r6 : Nat) (i7 : Int32) (i8 : Int32) (i9 : Int32) (s0 : Int32) (x2 : Slot) (p2 : Pl x2) (x4 : Slot) (p4 : Pl x4) (x5 : Slot) (p5 : Pl x5) (x10 : Slot) (p10 : Pl x10) (x11 : Slot) (p11 : Pl x11) (x12 : Slot) (p12 : Pl x12) (x13 : Slot) (p13 : Pl x13) (x14 : Slot) (p14 : Pl x14) (R : Rep Z ca h H) (hM : L_law b1 b2 b3 b4 b5 f 366 H 0 i3 0 0 r6 i7 i8 i9 0 0 0 s0 0 = some res), OG pG l eG room_1 sG mG #[(.int i0), (.int i1)] bG meG cG Z x.cls x.name code maxLocals ret (fun v h => v = some (.int 1)) room_1.cells room_1.slots h 42 343 (mkF mG 366 #[.val (.int i0), .val (.int i1), x2, .val (.int i3), x4, x5, .val (.ref (ad Z ca r6)), .val (.int i7), .val (.int i8), .val (.int i9), x10, x11, x12, x13, x14] [(.int s0)])) ∧ (∀ (h : Heap) (H : List AO) (i3 : Int32) (r6 : Nat) (i8 : Int32) (i9 : Int32) (i10 : Int32) (s0 : Int32) (x2 : Slot) (p2 : Pl x2) (x4 : Slot) (p4 : Pl x4) (x5 : Slot) (p5 : Pl x5) (x7 : Slot) (p7 : Pl x7) (x11 : Slot) (p11 : Pl x11) (x12 : Slot) (p12 : Pl x12) (x13 : Slot) (p13 : Pl x13) (x14 : Slot) (p14 : Pl x14) (R : Rep Z ca h H) (hM : L_law b1 b2 b3 b4 b5 f 382 H 0 i3 0 0 r6 0 i8 i9 i10 0 0 s0 0 = some res), OG pG l eG room_1 sG mG #[(.int i0), (.int i1)] bG meG cG Z x.cls x.name code maxLocals ret (fun v h => v = some (.int 1)) room_1.cells room_1.slots h 42 343 (mkF mG 382 #[.val (.int i0), .val (.int i1), x2, .val (.int i3), x4, x5, .val (.ref (ad Z ca r6)), x7, .val (.int i8), .val (.int i9), .val (.int i10), x11, x12, x13, x14] [(.int s0)])) ∧ (∀ (h : Heap) (H : List AO) (i3 : Int32) (r6 : Nat) (i9 : Int32) (i10 : Int32) (i11 : Int32) (s0 : Int32) (x2 : Slot) (p2 : Pl x2) (x4 : Slot) (p4 : Pl x4) (x5 : Slot) (p5 : Pl x5) (x7 : Slot) (p7 : Pl x7) (x8 : Slot) (p8 : Pl x8) (x12 : Slot) (p12 : Pl x12) (x13 : Slot) (p13 : Pl x13) (x14 : Slot) (p14 : Pl x14) (R : Rep Z ca h H) (hM : L_law b1 b2 b3 b4 b5 f 398 H 0 i3 0 0 r6 0 0 i9 i10 i11 0 s0 0 = some res), OG pG l eG room_1 sG mG #[(.int i0), (.int i1)] bG meG cG Z x.cls x.name code maxLocals ret (fun v h => v = some (.int 1)) room_1.cells room_1.slots h 42 343 (mkF mG 398 #[.val (.int i0), .val (.int i1), x2, .val (.int i3), x4, x5, .val (.ref (ad Z ca r6)), x7, x8, .val (.int i9), .val (.int i10), .val (.int i11), x12, x13, x14] [(.int s0)])) ∧ (∀ (h : Heap) (H : List AO) (i3 : Int32) (r6 : Nat) (i9 : Int32) (i11 : Int32) (i12 : Int32) (s0 : Int32) (x2 : Slot) (p2 : Pl x2) (x4 : Slot) (p4 : Pl x4) (x5 : Slot) (p5 : Pl x5) (x7 : Slot) (p7 : Pl x7) (x8 : Slot) (p8 : Pl x8) (x10 : Slot) (p10 : Pl x10) (x13 : Slot) (p13 : Pl x13) (x14 : Slot) (p14 : Pl x14) (R : Rep Z ca h H) (hM : L_law b1 b2 b3 b4 b5 f 434 H 0 i3 0 0 r6 0 0 i9 0 i11 i12 s0 0 = some res), OG pG l eG room_1 sG mG #[(.int i0), (.int i1)] bG meG cG Z x.cls x.name code maxLocals ret (fun v h => v = some (.int 1)) room_1.cells room_1.slots h 42 343 (mkF mG 434 #[.val (.int i0), .val (.int i1), x2, .val (.int i3), x4, x5, .val (.ref (ad Z ca r6)), x7, x8, .val (.int i9), x10, .val (.int i11), .val (.int i12), x13, x14] [(.int s0)])) ∧ (∀ (h : Heap) (H : List AO) (i3 : Int32) (r6 : Nat) (i7 : Int32) (i8 : Int32) (i9 : Int32) (s0 : Int32) (x2 : Slot) (p2 : Pl x2) (x4 : Slot) (p4 : Pl x4) (x5 : Slot) (p5 : Pl x5) (x10 : Slot) (p10 : Pl x10) (x11 : Slot) (p11 : Pl x11) (x12 : Slot) (p12 : Pl x12) (x13 : Slot) (p13 : Pl x13) (x14 : Slot) (p14 : Pl x14) (R : Rep Z ca h H) (hM : L_law b1 b2 b3 b4 b5 f 507 H 0 i3 0 0 r6 i7 i8 i9 0 0 0 s0 0 = some res), OG pG l eG room_1 sG mG #[(.int i0), (.int i1)] bG meG cG Z x.cls x.name code maxLocals ret (fun v h => v = some (.int 1)) room_1.cells room_1.slots h 42 343 (mkF mG 507 #[.val (.int i0), .val (.int i1), x2, .val (.int i3), x4, x5, .val (.ref (ad Z ca r6)), .val (.int i7), .val (.int i8), .val (.int i9), x10, x11, x12, x13, x14] [(.int s0)])) ∧ (∀ (h : Heap) (H : List AO) (i3 : Int32) (r6 : Nat) (i8 : Int32) (i9 : Int32) (i10 : Int32) (s0 : Int32) (x2 : Slot) (p2 : Pl x2) (x4 : Slot) (p4 : Pl x4) (x5 : Slot) (p5 : Pl x5) (x7 : Slot) (p7 : Pl x7) (x11 : Slot) (p11 : Pl x11) (x12 : Slot) (p12 : Pl x12) (x13 : Slot) (p13 : Pl x13) (x14 : Slot) (p14 : Pl x14) (R : Rep Z ca h H) (hM : L_law b1 b2 b3 b4 b5 f 523 H 0 i3 0 0 r6 0 i8 i9 i10 0 0 s0 0 = some res), OG pG l eG room_1 sG mG #[(.int i0), (.int i1)] bG meG cG Z x.cls x.name code maxLocals ret (fun v h => v = some (.int 1)) room_1.cells room_1.slots h 42 343 (mkF mG 523 #[.val (.int i0), .val (.int i1), x2, .val (.int i3), x4, x5, .val (.ref (ad Z ca r6)), x7, .val (.int i8), .val (.int i9), .val (.int i10), x11, x12, x13, x14] [(.int s0)])) ∧ (∀ (h : Heap) (H : List AO) (i3 : Int32) (r6 : Nat) (i9 : Int32) (i10 : Int32) (i11 : Int32) (s0 : Int32) (x2 : Slot) (p2 : Pl x2) (x4 : Slot) (p4 : Pl x4) (x5 : Slot) (p5 : Pl x5) (x7 : Slot) (p7 : Pl x7) (x8 : Slot) (p8 : Pl x8) (x12 : Slot) (p12 : Pl x12) (x13 : Slot) (p13 : Pl x13) (x14 : Slot) (p14 : Pl x14) (R : Rep Z ca h H) (hM : L_law b1 b2 b3 b4 b5 f 539 H 0 i3 0 0 r6 0 0 i9 i10 i11 0 s0 0 = some res), OG pG l eG room_1 sG mG #[(.int i0), (.int i1)] bG meG cG Z x.cls x.name code maxLocals ret (fun v h => v = some (.int 1)) room_1.cells room_1.slots h 42 343 (mkF mG 539 #[.val (.int i0), .val (.int i1), x2, .val (.int i3), x4, x5, .val (.ref (ad Z ca r6)), x7, x8, .val (.int i9), .val (.int i10), .val (.int i11), x12, x13, x14] [(.int s0)])) ∧ (∀ (h : Heap) (H : List AO) (r6 : Nat) (i9 : Int32) (i11 : Int32) (i12 : Int32) (s0 : Int32) (x2 : Slot) (p2 : Pl x2) (x3 : Slot) (p3 : Pl x3) (x4 : Slot) (p4 : Pl x4) (x5 : Slot) (p5 : Pl x5) (x7 : Slot) (p7 : Pl x7) (x8 : Slot) (p8 : Pl x8) (x10 : Slot) (p10 : Pl x10) (x13 : Slot) (p13 : Pl x13) (x14 : Slot) (p14 : Pl x14) (R : Rep Z ca h H) (hM : L_law b1 b2 b3 b4 b5 f 575 H 0 0 0 0 r6 0 0 i9 0 i11 i12 s0 0 = some res), OG pG l eG room_1 sG mG #[(.int i0), (.int i1)] bG meG cG Z x.cls x.name code maxLocals ret (fun v h => v = some (.int 1)) room_1.cells room_1.slots h 42 343 (mkF mG 575 #[.val (.int i0), .val (.int i1), x2, x3, x4, x5, .val (.ref (ad Z ca r6)), x7, x8, .val (.int i9), x10, .val (.int i11), .val (.int i12), x13, x14] [(.int s0)])) := by
    intro f
    induction f with
    | zero =>
      refine ⟨?_, ?_, ?_, ?_, ?_, ?_, ?_, ?_, ?_, ?_, ?_, ?_, ?_, ?_, ?_, ?_, ?_⟩
      · intro h H s0 x2 p2 x3 p3 x4 p4 x5 p5 x6 p6 x7 p7 x8 p8 x9 p9 x10 p10 x11 p11 x12 p12 x13 p13 x14 p14 R hM
        first | exact nomatch hM | (simp [L_law] at hM; done)
      · intro h H i2 s0 x3 p3 x4 p4 x5 p5 x6 p6 x7 p7 x8 p8 x9 p9 x10 p10 x11 p11 x12 p12 x13 p13 x14 p14 R hM
        first | exact nomatch hM | (simp [L_law] at hM; done)
      · intro h H i2 i3 s0 x4 p4 x5 p5 x6 p6 x7 p7 x8 p8 x9 p9 x10 p10 x11 p11 x12 p12 x13 p13 x14 p14 R hM
        first | exact nomatch hM | (simp [L_law] at hM; done)
      · intro h H i2 i3 i4 z0 x5 p5 x6 p6 x7 p7 x8 p8 x9 p9 x10 p10 x11 p11 x12 p12 x13 p13 x14 p14 R hM
        first | exact nomatch hM | (simp [L_law] at hM; done)
      · intro h H i3 i4 r5 x2 p2 x6 p6 x7 p7 x8 p8 x9 p9 x10 p10 x11 p11 x12 p12 x13 p13 x14 p14 R hM
        first | exact nomatch hM | (simp [L_law] at hM; done)
      · intro h H i3 r6 i7 i8 i9 s0 x2 p2 x4 p4 x5 p5 x10 p10 x11 p11 x12 p12 x13 p13 x14 p14 R hM
        first | exact nomatch hM | (simp [L_law] at hM; done)
      · intro h H i3 r6 i8 i9 i10 s0 x2 p2 x4 p4 x5 p5 x7 p7 x11 p11 x12 p12 x13 p13 x14 p14 R hM
        first | exact nomatch hM | (simp [L_law] at hM; done)
      · intro h H i3 r6 i9 i10 i11 s0 x2 p2 x4 p4 x5 p5 x7 p7 x8 p8 x12 p12 x13 p13 x14 p14 R hM
        first | exact nomatch hM | (simp [L_law] at hM; done)
      · intro h H i3 r6 i9 i11 i12 s0 x2 p2 x4 p4 x5 p5 x7 p7 x8 p8 x10 p10 x13 p13 x14 p14 R hM
        first | exact nomatch hM | (simp [L_law] at hM; done)
      · intro h H i3 r6 i7 i8 i9 s0 x2 p2 x4 p4 x5 p5 x10 p10 x11 p11 x12 p12 x13 p13 x14 p14 R hM
        first | exact nomatch hM | (simp [L_law] at hM; done)
      · intro h H i3 r6 i8 i9 i10 s0 x2 p2 x4 p4 x5 p5 x7 p7 x11 p11 x12 p12 x13 p13 x14 p14 R hM
        first | exact nomatch hM | (simp [L_law] at hM; done)
      · intro h H i3 r6 i9 i10 i11 s0 x2 p2 x4 p4 x5 p5 x7 p7 x8 p8 x12 p12 x13 p13 x14 p14 R hM
        first | exact nomatch hM | (simp [L_law] at hM; done)
      · intro h H i3 r6 i9 i11 i12 s0 x2 p2 x4 p4 x5 p5 x7 p7 x8 p8 x10 p10 x13 p13 x14 p14 R hM
        first | exact nomatch hM | (simp [L_law] at hM; done)
      · intro h H i3 r6 i7 i8 i9 s0 x2 p2 x4 p4 x5 p5 x10 p10 x11 p11 x12 p12 x13 p13 x14 p14 R hM
        first | exact nomatch hM | (simp [L_law] at hM; done)
      · intro h H i3 r6 i8 i9 i10 s0 x2 p2 x4 p4 x5 p5 x7 p7 x11 p11 x12 p12 x13 p13 x14 p14 R hM
        first | exact nomatch hM | (simp [L_law] at hM; done)
      · intro h H i3 r6 i9 i10 i11 s0 x2 p2 x4 p4 x5 p5 x7 p7 x8 p8 x12 p12 x13 p13 x14 p14 R hM
        first | exact nomatch hM | (simp [L_law] at hM; done)
      · intro h H r6 i9 i11 i12 s0 x2 p2 x3 p3 x4 p4 x5 p5 x7 p7 x8 p8 x10 p10 x13 p13 x14 p14 R hM
        first | exact nomatch hM | (simp [L_law] at hM; done)
    | succ f ih =>
      obtain ⟨ih_11, ih_23, ih_35, ih_52, ih_150, ih_225, ih_241, ih_257, ih_293, ih_366, ih_382, ih_398, ih_434, ih_507, ih_523, ih_539, ih_575⟩ := ih
      refine ⟨?_, ?_, ?_, ?_, ?_, ?_, ?_, ?_, ?_, ?_, ?_, ?_, ?_, ?_, ?_, ?_, ?_⟩
      · intro h H s0 x2 p2 x3 p3 x4 p4 x5 p5 x6 p6 x7 p7 x8 p8 x9 p9 x10 p10 x11 p11 x12 p12 x13 p13 x14 p14 R hM
        have hM : B_law_11 b1 b2 b3 b4 b5 (L_law b1 b2 b3 b4 b5 f) H 0 0 0 0 0 0 0 0 0 0 0 s0 0 = some res := hM
        unfold B_law_11 at hM
        refine o_stP (pc' := 12) (st' := []) (ls' := #[.val (.int i0), .val (.int i1), .val (.int s0), x3, x4, x5, x6, x7, x8, x9, x10, x11, x12, x13, x14]) d0_11 rfl rfl (own_stI (x := x2) rfl p2) ?_
        refine o_blk (pc' := 15) (st' := [(.int (i0 &&& (2 : Int32)))]) (ls' := #[.val (.int i0), .val (.int i1), .val (.int s0), x3, x4, x5, x6, x7, x8, x9, x10, x11, x12, x13, x14]) b0_12_15 rfl ?_
        refine o_if (pc' := 22) (pc'' := 18) d0_15 (by decide) (by decide) rfl (fun (hc15_1 : (i0 &&& (2 : Int32)) = 0) => ?_) (fun (hc15_1 : ¬ (i0 &&& (2 : Int32)) = 0) => ?_)
        ·
          rw [if_pos (hbit_b2.mp hc15_1)] at hM
          refine o_blk (pc' := 23) (st' := [(.int (0 : Int32))]) (ls' := #[.val (.int i0), .val (.int i1), .val (.int s0), x3, x4, x5, x6, x7, x8, x9, x10, x11, x12, x13, x14]) b0_22_23 rfl ?_
          exact ih_23 _ _ _ _ _ p3 _ p4 _ p5 _ p6 _ p7 _ p8 _ p9 _ p10 _ p11 _ p12 _ p13 _ p14 R hM
        ·
          rw [if_neg (mt hbit_b2.mpr hc15_1)] at hM
          refine o_blk (pc' := 19) (st' := [(.int (1 : Int32))]) (ls' := #[.val (.int i0), .val (.int i1), .val (.int s0), x3, x4, x5, x6, x7, x8, x9, x10, x11, x12, x13, x14]) b0_18_19 rfl ?_
          refine o_goto (pc' := 23) d0_19 (by decide) (by decide) ?_
          exact ih_23 _ _ _ _ _ p3 _ p4 _ p5 _ p6 _ p7 _ p8 _ p9 _ p10 _ p11 _ p12 _ p13 _ p14 R hM
      · intro h H i2 s0 x3 p3 x4 p4 x5 p5 x6 p6 x7 p7 x8 p8 x9 p9 x10 p10 x11 p11 x12 p12 x13 p13 x14 p14 R hM
        have hM : B_law_23 b1 b2 b3 b4 b5 (L_law b1 b2 b3 b4 b5 f) H i2 0 0 0 0 0 0 0 0 0 0 s0 0 = some res := hM
        unfold B_law_23 at hM
        refine o_stP (pc' := 24) (st' := []) (ls' := #[.val (.int i0), .val (.int i1), .val (.int i2), .val (.int s0), x4, x5, x6, x7, x8, x9, x10, x11, x12, x13, x14]) d0_23 rfl rfl (own_stI (x := x3) rfl p3) ?_
        refine o_blk (pc' := 25) (st' := [(.int i2)]) (ls' := #[.val (.int i0), .val (.int i1), .val (.int i2), .val (.int s0), x4, x5, x6, x7, x8, x9, x10, x11, x12, x13, x14]) b0_24_25 rfl ?_
        refine o_if (pc' := 33) (pc'' := 28) d0_25 (by decide) (by decide) rfl (fun (hc25_1 : i2 = 0) => ?_) (fun (hc25_1 : ¬ i2 = 0) => ?_)
        ·
          rw [if_pos hc25_1] at hM
          refine o_blk (pc' := 35) (st' := [(.int (7 : Int32))]) (ls' := #[.val (.int i0), .val (.int i1), .val (.int i2), .val (.int s0), x4, x5, x6, x7, x8, x9, x10, x11, x12, x13, x14]) b0_33_35 rfl ?_
          exact ih_35 _ _ _ _ _ _ p4 _ p5 _ p6 _ p7 _ p8 _ p9 _ p10 _ p11 _ p12 _ p13 _ p14 R hM
        ·
          rw [if_neg hc25_1] at hM
          refine o_blk (pc' := 30) (st' := [(.int (8 : Int32))]) (ls' := #[.val (.int i0), .val (.int i1), .val (.int i2), .val (.int s0), x4, x5, x6, x7, x8, x9, x10, x11, x12, x13, x14]) b0_28_30 rfl ?_
          refine o_goto (pc' := 35) d0_30 (by decide) (by decide) ?_
          exact ih_35 _ _ _ _ _ _ p4 _ p5 _ p6 _ p7 _ p8 _ p9 _ p10 _ p11 _ p12 _ p13 _ p14 R hM
      · intro h H i2 i3 s0 x4 p4 x5 p5 x6 p6 x7 p7 x8 p8 x9 p9 x10 p10 x11 p11 x12 p12 x13 p13 x14 p14 R hM
        have hM : B_law_35 b1 b2 b3 b4 b5 (L_law b1 b2 b3 b4 b5 f) H i2 i3 0 0 0 0 0 0 0 0 0 s0 0 = some res := hM
        unfold B_law_35 at hM
        refine o_stP (pc' := 37) (st' := []) (ls' := #[.val (.int i0), .val (.int i1), .val (.int i2), .val (.int i3), .val (.int s0), x5, x6, x7, x8, x9, x10, x11, x12, x13, x14]) d0_35 rfl rfl (own_stI (x := x4) rfl p4) ?_
        refine o_blk (pc' := 38) (st' := [(.int i2)]) (ls' := #[.val (.int i0), .val (.int i1), .val (.int i2), .val (.int i3), .val (.int s0), x5, x6, x7, x8, x9, x10, x11, x12, x13, x14]) b0_37_38 rfl ?_
        refine o_if (pc' := 48) (pc'' := 41) d0_38 (by decide) (by decide) rfl (fun (hc38_1 : i2 = 0) => ?_) (fun (hc38_1 : ¬ i2 = 0) => ?_)
        ·
          rw [if_pos hc38_1] at hM
          refine o_blk (pc' := 50) (st' := [(.int (7 : Int32))]) (ls' := #[.val (.int i0), .val (.int i1), .val (.int i2), .val (.int i3), .val (.int s0), x5, x6, x7, x8, x9, x10, x11, x12, x13, x14]) b0_48_50 rfl ?_
          obtain ⟨q2, hq2, hM⟩ := own_bind hM
          refine m_newI (pc' := 52) R (own_word hw 0 rfl) hq2 d0_50 (by decide) (by decide) rfl ?_
          intro h_q2 R_q2
          exact ih_52 _ _ _ _ _ _ _ p5 _ p6 _ p7 _ p8 _ p9 _ p10 _ p11 _ p12 _ p13 _ p14 R_q2 hM
        ·
          rw [if_neg hc38_1] at hM
          refine o_blk (pc' := 43) (st' := [(.int (8 : Int32))]) (ls' := #[.val (.int i0), .val (.int i1), .val (.int i2), .val (.int i3), .val (.int s0), x5, x6, x7, x8, x9, x10, x11, x12, x13, x14]) b0_41_43 rfl ?_
          obtain ⟨q3, hq3, hM⟩ := own_bind hM
          refine m_newI (pc' := 45) R (own_word hw 0 rfl) hq3 d0_43 (by decide) (by decide) rfl ?_
          intro h_q3 R_q3
          refine o_goto (pc' := 52) d0_45 (by decide) (by decide) ?_
          exact ih_52 _ _ _ _ _ _ _ p5 _ p6 _ p7 _ p8 _ p9 _ p10 _ p11 _ p12 _ p13 _ p14 R_q3 hM
      · intro h H i2 i3 i4 z0 x5 p5 x6 p6 x7 p7 x8 p8 x9 p9 x10 p10 x11 p11 x12 p12 x13 p13 x14 p14 R hM
        have hM : B_law_52 b1 b2 b3 b4 b5 (L_law b1 b2 b3 b4 b5 f) H i2 i3 i4 0 0 0 0 0 0 0 0 0 z0 = some res := hM
        unfold B_law_52 at hM
        refine o_stP (pc' := 54) (st' := []) (ls' := #[.val (.int i0), .val (.int i1), .val (.int i2), .val (.int i3), .val (.int i4), .val (.ref (ad Z ca z0)), x6, x7, x8, x9, x10, x11, x12, x13, x14]) d0_52 rfl rfl (own_stA (x := x5) rfl p5) ?_
        refine o_blk (pc' := 61) (st' := [(.int i3), (.int i4), (.int (0 : Int32)), (.int (0 : Int32)), (.ref (ad Z ca z0))]) (ls' := #[.val (.int i0), .val (.int i1), .val (.int i2), .val (.int i3), .val (.int i4), .val (.ref (ad Z ca z0)), x6, x7, x8, x9, x10, x11, x12, x13, x14]) b0_54_61 rfl ?_
        obtain ⟨q1, hq1, hM⟩ := own_bind hM
        refine o_callS (W := 2) (argsL := [(.int (0 : Int32)), (.int i4), (.int i3)]) (rest := [(.int (0 : Int32)), (.ref (ad Z ca z0))]) (pc' := 64) (own_word hw 1 rfl) (own_word hw 2 rfl) (own_word hw 3 rfl) (own_word hw 4 rfl) (by decide) (fun hE => rm_paro l Z a0 hw ca K H (0 : Int32) i4 i3 q1 h hE R hq1) d0_61 pd_15 rfl rfl rfl (Nat.le_of_eq rfl) (by decide) (by decide) (by decide) (by decide) rfl ?_
        rintro _ h_q1 ⟨rfl, R_q1⟩ hs_q1
        obtain ⟨q2, hq2, hM⟩ := own_bind hM
        refine m_iast (pc' := 65) R_q1 hq2 d0_64 rfl ?_
        intro h_q2 R_q2
        refine o_blk (pc' := 72) (st' := [(.int i3), (.int i4), (.int (1 : Int32)), (.int (1 : Int32)), (.ref (ad Z ca z0))]) (ls' := #[.val (.int i0), .val (.int i1), .val (.int i2), .val (.int i3), .val (.int i4), .val (.ref (ad Z ca z0)), x6, x7, x8, x9, x10, x11, x12, x13, x14]) b0_65_72 rfl ?_
        obtain ⟨q3, hq3, hM⟩ := own_bind hM
        refine o_callS (W := 2) (argsL := [(.int (1 : Int32)), (.int i4), (.int i3)]) (rest := [(.int (1 : Int32)), (.ref (ad Z ca z0))]) (pc' := 75) (own_word hw 1 rfl) (own_word hw 2 rfl) (own_word hw 3 rfl) (own_word hw 4 rfl) (by decide) (fun hE => rm_paro l Z a0 hw ca K q2 (1 : Int32) i4 i3 q3 h_q2 hE R_q2 hq3) d0_72 pd_15 rfl rfl rfl (Nat.le_of_eq rfl) (by decide) (by decide) (by decide) (by decide) rfl ?_
        rintro _ h_q3 ⟨rfl, R_q3⟩ hs_q3
        obtain ⟨q4, hq4, hM⟩ := own_bind hM
        refine m_iast (pc' := 76) R_q3 hq4 d0_75 rfl ?_
        intro h_q4 R_q4
        refine o_blk (pc' := 83) (st' := [(.int i3), (.int i4), (.int (2 : Int32)), (.int (2 : Int32)), (.ref (ad Z ca z0))]) (ls' := #[.val (.int i0), .val (.int i1), .val (.int i2), .val (.int i3), .val (.int i4), .val (.ref (ad Z ca z0)), x6, x7, x8, x9, x10, x11, x12, x13, x14]) b0_76_83 rfl ?_
        obtain ⟨q5, hq5, hM⟩ := own_bind hM
        refine o_callS (W := 2) (argsL := [(.int (2 : Int32)), (.int i4), (.int i3)]) (rest := [(.int (2 : Int32)), (.ref (ad Z ca z0))]) (pc' := 86) (own_word hw 1 rfl) (own_word hw 2 rfl) (own_word hw 3 rfl) (own_word hw 4 rfl) (by decide) (fun hE => rm_paro l Z a0 hw ca K q4 (2 : Int32) i4 i3 q5 h_q4 hE R_q4 hq5) d0_83 pd_15 rfl rfl rfl (Nat.le_of_eq rfl) (by decide) (by decide) (by decide) (by decide) rfl ?_
        rintro _ h_q5 ⟨rfl, R_q5⟩ hs_q5
        obtain ⟨q6, hq6, hM⟩ := own_bind hM
        refine m_iast (pc' := 87) R_q5 hq6 d0_86 rfl ?_
        intro h_q6 R_q6
        refine o_blk (pc' := 94) (st' := [(.int i3), (.int i4), (.int (3 : Int32)), (.int (3 : Int32)), (.ref (ad Z ca z0))]) (ls' := #[.val (.int i0), .val (.int i1), .val (.int i2), .val (.int i3), .val (.int i4), .val (.ref (ad Z ca z0)), x6, x7, x8, x9, x10, x11, x12, x13, x14]) b0_87_94 rfl ?_
        obtain ⟨q7, hq7, hM⟩ := own_bind hM
        refine o_callS (W := 2) (argsL := [(.int (3 : Int32)), (.int i4), (.int i3)]) (rest := [(.int (3 : Int32)), (.ref (ad Z ca z0))]) (pc' := 97) (own_word hw 1 rfl) (own_word hw 2 rfl) (own_word hw 3 rfl) (own_word hw 4 rfl) (by decide) (fun hE => rm_paro l Z a0 hw ca K q6 (3 : Int32) i4 i3 q7 h_q6 hE R_q6 hq7) d0_94 pd_15 rfl rfl rfl (Nat.le_of_eq rfl) (by decide) (by decide) (by decide) (by decide) rfl ?_
        rintro _ h_q7 ⟨rfl, R_q7⟩ hs_q7
        obtain ⟨q8, hq8, hM⟩ := own_bind hM
        refine m_iast (pc' := 98) R_q7 hq8 d0_97 rfl ?_
        intro h_q8 R_q8
        refine o_blk (pc' := 105) (st' := [(.int i3), (.int i4), (.int (4 : Int32)), (.int (4 : Int32)), (.ref (ad Z ca z0))]) (ls' := #[.val (.int i0), .val (.int i1), .val (.int i2), .val (.int i3), .val (.int i4), .val (.ref (ad Z ca z0)), x6, x7, x8, x9, x10, x11, x12, x13, x14]) b0_98_105 rfl ?_
        obtain ⟨q9, hq9, hM⟩ := own_bind hM
        refine o_callS (W := 2) (argsL := [(.int (4 : Int32)), (.int i4), (.int i3)]) (rest := [(.int (4 : Int32)), (.ref (ad Z ca z0))]) (pc' := 108) (own_word hw 1 rfl) (own_word hw 2 rfl) (own_word hw 3 rfl) (own_word hw 4 rfl) (by decide) (fun hE => rm_paro l Z a0 hw ca K q8 (4 : Int32) i4 i3 q9 h_q8 hE R_q8 hq9) d0_105 pd_15 rfl rfl rfl (Nat.le_of_eq rfl) (by decide) (by decide) (by decide) (by decide) rfl ?_
        rintro _ h_q9 ⟨rfl, R_q9⟩ hs_q9
        obtain ⟨q10, hq10, hM⟩ := own_bind hM
        refine m_iast (pc' := 109) R_q9 hq10 d0_108 rfl ?_
        intro h_q10 R_q10
        refine o_blk (pc' := 116) (st' := [(.int i3), (.int i4), (.int (5 : Int32)), (.int (5 : Int32)), (.ref (ad Z ca z0))]) (ls' := #[.val (.int i0), .val (.int i1), .val (.int i2), .val (.int i3), .val (.int i4), .val (.ref (ad Z ca z0)), x6, x7, x8, x9, x10, x11, x12, x13, x14]) b0_109_116 rfl ?_
        obtain ⟨q11, hq11, hM⟩ := own_bind hM
        refine o_callS (W := 2) (argsL := [(.int (5 : Int32)), (.int i4), (.int i3)]) (rest := [(.int (5 : Int32)), (.ref (ad Z ca z0))]) (pc' := 119) (own_word hw 1 rfl) (own_word hw 2 rfl) (own_word hw 3 rfl) (own_word hw 4 rfl) (by decide) (fun hE => rm_paro l Z a0 hw ca K q10 (5 : Int32) i4 i3 q11 h_q10 hE R_q10 hq11) d0_116 pd_15 rfl rfl rfl (Nat.le_of_eq rfl) (by decide) (by decide) (by decide) (by decide) rfl ?_
        rintro _ h_q11 ⟨rfl, R_q11⟩ hs_q11
        obtain ⟨q12, hq12, hM⟩ := own_bind hM
        refine m_iast (pc' := 120) R_q11 hq12 d0_119 rfl ?_
        intro h_q12 R_q12
        refine o_blk (pc' := 129) (st' := [(.int i3), (.int i4), (.int (6 : Int32)), (.int (6 : Int32)), (.ref (ad Z ca z0))]) (ls' := #[.val (.int i0), .val (.int i1), .val (.int i2), .val (.int i3), .val (.int i4), .val (.ref (ad Z ca z0)), x6, x7, x8, x9, x10, x11, x12, x13, x14]) b0_120_129 rfl ?_
        obtain ⟨q13, hq13, hM⟩ := own_bind hM
        refine o_callS (W := 2) (argsL := [(.int (6 : Int32)), (.int i4), (.int i3)]) (rest := [(.int (6 : Int32)), (.ref (ad Z ca z0))]) (pc' := 132) (own_word hw 1 rfl) (own_word hw 2 rfl) (own_word hw 3 rfl) (own_word hw 4 rfl) (by decide) (fun hE => rm_paro l Z a0 hw ca K q12 (6 : Int32) i4 i3 q13 h_q12 hE R_q12 hq13) d0_129 pd_15 rfl rfl rfl (Nat.le_of_eq rfl) (by decide) (by decide) (by decide) (by decide) rfl ?_
        rintro _ h_q13 ⟨rfl, R_q13⟩ hs_q13
        obtain ⟨q14, hq14, hM⟩ := own_bind hM
        refine m_iast (pc' := 133) R_q13 hq14 d0_132 rfl ?_
        intro h_q14 R_q14
        refine o_blk (pc' := 134) (st' := [(.int i2)]) (ls' := #[.val (.int i0), .val (.int i1), .val (.int i2), .val (.int i3), .val (.int i4), .val (.ref (ad Z ca z0)), x6, x7, x8, x9, x10, x11, x12, x13, x14]) b0_133_134 rfl ?_
        refine o_if (pc' := 150) (pc'' := 137) d0_134 (by decide) (by decide) rfl (fun (hc134_15 : i2 = 0) => ?_) (fun (hc134_15 : ¬ i2 = 0) => ?_)
        ·
          rw [if_pos hc134_15] at hM
          exact ih_150 _ _ _ _ _ _ (Pl.i _) _ p6 _ p7 _ p8 _ p9 _ p10 _ p11 _ p12 _ p13 _ p14 R_q14 hM
        ·
          rw [if_neg hc134_15] at hM
          refine o_blk (pc' := 146) (st' := [(.int i3), (.int i4), (.int (7 : Int32)), (.int (7 : Int32)), (.ref (ad Z ca z0))]) (ls' := #[.val (.int i0), .val (.int i1), .val (.int i2), .val (.int i3), .val (.int i4), .val (.ref (ad Z ca z0)), x6, x7, x8, x9, x10, x11, x12, x13, x14]) b0_137_146 rfl ?_
          obtain ⟨q16, hq16, hM⟩ := own_bind hM
          refine o_callS (W := 2) (argsL := [(.int (7 : Int32)), (.int i4), (.int i3)]) (rest := [(.int (7 : Int32)), (.ref (ad Z ca z0))]) (pc' := 149) (own_word hw 1 rfl) (own_word hw 2 rfl) (own_word hw 3 rfl) (own_word hw 4 rfl) (by decide) (fun hE => rm_paro l Z a0 hw ca K q14 (7 : Int32) i4 i3 q16 h_q14 hE R_q14 hq16) d0_146 pd_15 rfl rfl rfl (Nat.le_of_eq rfl) (by decide) (by decide) (by decide) (by decide) rfl ?_
          rintro _ h_q16 ⟨rfl, R_q16⟩ hs_q16
          obtain ⟨q17, hq17, hM⟩ := own_bind hM
          refine m_iast (pc' := 150) R_q16 hq17 d0_149 rfl ?_
          intro h_q17 R_q17
          exact ih_150 _ _ _ _ _ _ (Pl.i _) _ p6 _ p7 _ p8 _ p9 _ p10 _ p11 _ p12 _ p13 _ p14 R_q17 hM
      · intro h H i3 i4 r5 x2 p2 x6 p6 x7 p7 x8 p8 x9 p9 x10 p10 x11 p11 x12 p12 x13 p13 x14 p14 R hM
        have hM : B_law_150 b1 b2 b3 b4 b5 (L_law b1 b2 b3 b4 b5 f) H 0 i3 i4 r5 0 0 0 0 0 0 0 0 0 = some res := hM
        unfold B_law_150 at hM
        obtain ⟨q1, hq1, hM⟩ := own_bind hM
        refine m_newO (t := 0) (ni := 1) (nr := 6) (pc' := 153) R (own_lay4 hw) rfl (own_word hw 5 rfl) (own_word hw 6 rfl) (own_word hw 7 rfl) hq1 d0_150 (by decide) (by decide) rfl ?_
        intro h_q1 R_q1
        refine o_blk (pc' := 156) (st' := [(.ref (ad Z ca r5)), (.ref (ad Z ca q1.2)), (.ref (ad Z ca q1.2))]) (ls' := #[.val (.int i0), .val (.int i1), x2, .val (.int i3), .val (.int i4), .val (.ref (ad Z ca r5)), x6, x7, x8, x9, x10, x11, x12, x13, x14]) b0_153_156 rfl ?_
        obtain ⟨q2, hq2, hM⟩ := own_bind hM
        refine o_callI (W := 1) (argsL := [(.ref (ad Z ca r5))]) (rest := [(.ref (ad Z ca q1.2))]) (pc' := 159) rfl (own_word hw 8 rfl) (own_word hw 9 rfl) (own_word hw 10 rfl) (own_word hw 7 rfl) (by decide) (fun hE => rm_ini l Z a0 hw ca K q1.1 q1.2 r5 q2 h_q1 hE R_q1 hq2) d0_156 pd_16 rfl rfl rfl (Nat.le_of_eq rfl) (by decide) (by decide) (by decide) (by decide) rfl ?_
        rintro _ h_q2 ⟨rfl, R_q2⟩ hs_q2
        refine o_stP (pc' := 161) (st' := []) (ls' := #[.val (.int i0), .val (.int i1), x2, .val (.int i3), .val (.int i4), .val (.ref (ad Z ca r5)), .val (.ref (ad Z ca q1.2)), x7, x8, x9, x10, x11, x12, x13, x14]) d0_159 rfl rfl (own_stA (x := x6) rfl p6) ?_
        refine o_blk (pc' := 162) (st' := [(.int (0 : Int32))]) (ls' := #[.val (.int i0), .val (.int i1), x2, .val (.int i3), .val (.int i4), .val (.ref (ad Z ca r5)), .val (.ref (ad Z ca q1.2)), x7, x8, x9, x10, x11, x12, x13, x14]) b0_161_162 rfl ?_
        refine o_stP (pc' := 164) (st' := []) (ls' := #[.val (.int i0), .val (.int i1), x2, .val (.int i3), .val (.int i4), .val (.ref (ad Z ca r5)), .val (.ref (ad Z ca q1.2)), .val (.int (0 : Int32)), x8, x9, x10, x11, x12, x13, x14]) d0_162 rfl rfl (own_stI (x := x7) rfl p7) ?_
        refine o_blk (pc' := 168) (st' := [(.int (i4 - (1 : Int32)))]) (ls' := #[.val (.int i0), .val (.int i1), x2, .val (.int i3), .val (.int i4), .val (.ref (ad Z ca r5)), .val (.ref (ad Z ca q1.2)), .val (.int (0 : Int32)), x8, x9, x10, x11, x12, x13, x14]) b0_164_168 rfl ?_
        refine o_stP (pc' := 170) (st' := []) (ls' := #[.val (.int i0), .val (.int i1), x2, .val (.int i3), .val (.int i4), .val (.ref (ad Z ca r5)), .val (.ref (ad Z ca q1.2)), .val (.int (0 : Int32)), .val (.int (i4 - (1 : Int32))), x9, x10, x11, x12, x13, x14]) d0_168 rfl rfl (own_stI (x := x8) rfl p8) ?_
        refine o_blk (pc' := 172) (st' := [(.ref (ad Z ca q1.2))]) (ls' := #[.val (.int i0), .val (.int i1), x2, .val (.int i3), .val (.int i4), .val (.ref (ad Z ca r5)), .val (.ref (ad Z ca q1.2)), .val (.int (0 : Int32)), .val (.int (i4 - (1 : Int32))), x9, x10, x11, x12, x13, x14]) b0_170_172 rfl ?_
        obtain ⟨hb3, hM⟩ := own_ite hM
        obtain ⟨q4, hq4, hM⟩ := own_bind hM
        refine o_callV (W := 0) (argsL := []) (rest := []) (pc' := 175) (own_word hw 157 rfl) (own_word hw 158 rfl) (own_word hw 160 rfl) (own_word hw 160 rfl) (own_word hw 159 rfl) (own_word hw 161 rfl) (own_word hw 7 rfl) (by decide) (R_q2.exa (t := 0) hb3) (fun hE => rm_top l Z a0 hw ca K q2.1 q1.2 q4 h_q2 hE R_q2 hq4) d0_172 pd_8 rfl rfl rfl (Nat.le_of_eq rfl) (by decide) (by decide) (by decide) (by decide) rfl ?_
        rintro _ h_q4 ⟨rfl, R_q4⟩ hs_q4
        refine o_stP (pc' := 177) (st' := []) (ls' := #[.val (.int i0), .val (.int i1), x2, .val (.int i3), .val (.int i4), .val (.ref (ad Z ca r5)), .val (.ref (ad Z ca q1.2)), .val (.int (0 : Int32)), .val (.int (i4 - (1 : Int32))), .val (.int q4.2), x10, x11, x12, x13, x14]) d0_175 rfl rfl (own_stI (x := x9) rfl p9) ?_
        refine o_blk (pc' := 183) (st' := [(.int (i4 - (1 : Int32))), (.int (0 : Int32)), (.int q4.2)]) (ls' := #[.val (.int i0), .val (.int i1), x2, .val (.int i3), .val (.int i4), .val (.ref (ad Z ca r5)), .val (.ref (ad Z ca q1.2)), .val (.int (0 : Int32)), .val (.int (i4 - (1 : Int32))), .val (.int q4.2), x10, x11, x12, x13, x14]) b0_177_183 rfl ?_
        obtain ⟨q5, hq5, hM⟩ := own_bind hM
        refine o_callS (W := 0) (argsL := [(.int q4.2), (.int (0 : Int32)), (.int (i4 - (1 : Int32)))]) (rest := []) (pc' := 186) (own_word hw 162 rfl) (own_word hw 163 rfl) (own_word hw 3 rfl) (own_word hw 164 rfl) (by decide) (fun hE => rm_ceno l Z a0 hw ca K q4.1 q4.2 (0 : Int32) (i4 - (1 : Int32)) q5 h_q4 hE R_q4 hq5) d0_183 pd_17 rfl rfl rfl (Nat.le_of_eq rfl) (by decide) (by decide) (by decide) (by decide) rfl ?_
        rintro _ h_q5 ⟨rfl, R_q5⟩ hs_q5
        refine o_if (pc' := 191) (pc'' := 189) d0_186 (by decide) (by decide) rfl (fun (hc186_6 : ¬ q5.2 = 0) => ?_) (fun (hc186_6 : q5.2 = 0) => ?_)
        ·
          rw [if_neg hc186_6] at hM
          refine o_blk (pc' := 195) (st' := [(.int (i4 - (1 : Int32))), (.int (0 : Int32))]) (ls' := #[.val (.int i0), .val (.int i1), x2, .val (.int i3), .val (.int i4), .val (.ref (ad Z ca r5)), .val (.ref (ad Z ca q1.2)), .val (.int (0 : Int32)), .val (.int (i4 - (1 : Int32))), .val (.int q4.2), x10, x11, x12, x13, x14]) b0_191_195 rfl ?_
          refine o_ic (pc' := 200) (pc'' := 198) d0_195 (by decide) (by decide) rfl (fun (hc195_7 : ¬ (0 : Int32) = (i4 - (1 : Int32))) => ?_) (fun (hc195_7 : (0 : Int32) = (i4 - (1 : Int32))) => ?_)
          ·
            rw [if_neg hc195_7] at hM
            refine o_blk (pc' := 204) (st' := [(.int (i4 - (1 : Int32))), (.int q4.2)]) (ls' := #[.val (.int i0), .val (.int i1), x2, .val (.int i3), .val (.int i4), .val (.ref (ad Z ca r5)), .val (.ref (ad Z ca q1.2)), .val (.int (0 : Int32)), .val (.int (i4 - (1 : Int32))), .val (.int q4.2), x10, x11, x12, x13, x14]) b0_200_204 rfl ?_
            refine o_ic (pc' := 220) (pc'' := 207) d0_204 (by decide) (by decide) rfl (fun (hc204_8 : q4.2 = (i4 - (1 : Int32))) => ?_) (fun (hc204_8 : ¬ q4.2 = (i4 - (1 : Int32))) => ?_)
            ·
              rw [if_pos hc204_8] at hM
              refine o_blk (pc' := 221) (st' := [(.int (1 : Int32))]) (ls' := #[.val (.int i0), .val (.int i1), x2, .val (.int i3), .val (.int i4), .val (.ref (ad Z ca r5)), .val (.ref (ad Z ca q1.2)), .val (.int (0 : Int32)), .val (.int (i4 - (1 : Int32))), .val (.int q4.2), x10, x11, x12, x13, x14]) b0_220_221 rfl ?_
              refine o_goto (pc' := 225) d0_221 (by decide) (by decide) ?_
              exact ih_225 _ _ _ _ _ _ _ _ _ p2 _ (Pl.i _) _ (Pl.r _) _ p10 _ p11 _ p12 _ p13 _ p14 R_q5 hM
            ·
              rw [if_neg hc204_8] at hM
              refine o_blk (pc' := 211) (st' := [(.int (0 : Int32)), (.int q4.2)]) (ls' := #[.val (.int i0), .val (.int i1), x2, .val (.int i3), .val (.int i4), .val (.ref (ad Z ca r5)), .val (.ref (ad Z ca q1.2)), .val (.int (0 : Int32)), .val (.int (i4 - (1 : Int32))), .val (.int q4.2), x10, x11, x12, x13, x14]) b0_207_211 rfl ?_
              refine o_ic (pc' := 224) (pc'' := 214) d0_211 (by decide) (by decide) rfl (fun (hc211_9 : q4.2 = (0 : Int32)) => ?_) (fun (hc211_9 : ¬ q4.2 = (0 : Int32)) => ?_)
              ·
                rw [if_pos hc211_9] at hM
                refine o_blk (pc' := 225) (st' := [(.int (0 : Int32))]) (ls' := #[.val (.int i0), .val (.int i1), x2, .val (.int i3), .val (.int i4), .val (.ref (ad Z ca r5)), .val (.ref (ad Z ca q1.2)), .val (.int (0 : Int32)), .val (.int (i4 - (1 : Int32))), .val (.int q4.2), x10, x11, x12, x13, x14]) b0_224_225 rfl ?_
                exact ih_225 _ _ _ _ _ _ _ _ _ p2 _ (Pl.i _) _ (Pl.r _) _ p10 _ p11 _ p12 _ p13 _ p14 R_q5 hM
              ·
                rw [if_neg hc211_9] at hM
                refine o_blk (pc' := 217) (st' := [(.int (i1 &&& (1 : Int32)))]) (ls' := #[.val (.int i0), .val (.int i1), x2, .val (.int i3), .val (.int i4), .val (.ref (ad Z ca r5)), .val (.ref (ad Z ca q1.2)), .val (.int (0 : Int32)), .val (.int (i4 - (1 : Int32))), .val (.int q4.2), x10, x11, x12, x13, x14]) b0_214_217 rfl ?_
                refine o_if (pc' := 224) (pc'' := 220) d0_217 (by decide) (by decide) rfl (fun (hc217_10 : (i1 &&& (1 : Int32)) = 0) => ?_) (fun (hc217_10 : ¬ (i1 &&& (1 : Int32)) = 0) => ?_)
                ·
                  rw [if_pos (hbit_b3.mp hc217_10)] at hM
                  refine o_blk (pc' := 225) (st' := [(.int (0 : Int32))]) (ls' := #[.val (.int i0), .val (.int i1), x2, .val (.int i3), .val (.int i4), .val (.ref (ad Z ca r5)), .val (.ref (ad Z ca q1.2)), .val (.int (0 : Int32)), .val (.int (i4 - (1 : Int32))), .val (.int q4.2), x10, x11, x12, x13, x14]) b0_224_225 rfl ?_
                  exact ih_225 _ _ _ _ _ _ _ _ _ p2 _ (Pl.i _) _ (Pl.r _) _ p10 _ p11 _ p12 _ p13 _ p14 R_q5 hM
                ·
                  rw [if_neg (mt hbit_b3.mpr hc217_10)] at hM
                  refine o_blk (pc' := 221) (st' := [(.int (1 : Int32))]) (ls' := #[.val (.int i0), .val (.int i1), x2, .val (.int i3), .val (.int i4), .val (.ref (ad Z ca r5)), .val (.ref (ad Z ca q1.2)), .val (.int (0 : Int32)), .val (.int (i4 - (1 : Int32))), .val (.int q4.2), x10, x11, x12, x13, x14]) b0_220_221 rfl ?_
                  refine o_goto (pc' := 225) d0_221 (by decide) (by decide) ?_
                  exact ih_225 _ _ _ _ _ _ _ _ _ p2 _ (Pl.i _) _ (Pl.r _) _ p10 _ p11 _ p12 _ p13 _ p14 R_q5 hM
          ·
            rw [if_pos hc195_7] at hM
            refine o_blk (pc' := 199) (st' := [(.int (1 : Int32))]) (ls' := #[.val (.int i0), .val (.int i1), x2, .val (.int i3), .val (.int i4), .val (.ref (ad Z ca r5)), .val (.ref (ad Z ca q1.2)), .val (.int (0 : Int32)), .val (.int (i4 - (1 : Int32))), .val (.int q4.2), x10, x11, x12, x13, x14]) b0_198_199 rfl ?_
            cases hM
            exact o_retZ (w := 0) d0_199 (by decide) (by decide) rfl (by decide) (congrArg (fun z => some (Value.int z)) hres)
        ·
          rw [if_pos hc186_6] at hM
          refine o_blk (pc' := 190) (st' := [(.int (0 : Int32))]) (ls' := #[.val (.int i0), .val (.int i1), x2, .val (.int i3), .val (.int i4), .val (.ref (ad Z ca r5)), .val (.ref (ad Z ca q1.2)), .val (.int (0 : Int32)), .val (.int (i4 - (1 : Int32))), .val (.int q4.2), x10, x11, x12, x13, x14]) b0_189_190 rfl ?_
          cases hM
          exact o_retZ (w := 0) d0_190 (by decide) (by decide) rfl (by decide) (congrArg (fun z => some (Value.int z)) hres)
      · intro h H i3 r6 i7 i8 i9 s0 x2 p2 x4 p4 x5 p5 x10 p10 x11 p11 x12 p12 x13 p13 x14 p14 R hM
        have hM : B_law_225 b1 b2 b3 b4 b5 (L_law b1 b2 b3 b4 b5 f) H 0 i3 0 0 r6 i7 i8 i9 0 0 0 s0 0 = some res := hM
        unfold B_law_225 at hM
        refine o_stP (pc' := 227) (st' := []) (ls' := #[.val (.int i0), .val (.int i1), x2, .val (.int i3), x4, x5, .val (.ref (ad Z ca r6)), .val (.int i7), .val (.int i8), .val (.int i9), .val (.int s0), x11, x12, x13, x14]) d0_225 rfl rfl (own_stI (x := x10) rfl p10) ?_
        refine o_blk (pc' := 229) (st' := [(.int s0)]) (ls' := #[.val (.int i0), .val (.int i1), x2, .val (.int i3), x4, x5, .val (.ref (ad Z ca r6)), .val (.int i7), .val (.int i8), .val (.int i9), .val (.int s0), x11, x12, x13, x14]) b0_227_229 rfl ?_
        refine o_if (pc' := 237) (pc'' := 232) d0_229 (by decide) (by decide) rfl (fun (hc229_1 : s0 = 0) => ?_) (fun (hc229_1 : ¬ s0 = 0) => ?_)
        ·
          rw [if_pos hc229_1] at hM
          refine o_blk (pc' := 241) (st' := [(.int (i9 + (1 : Int32)))]) (ls' := #[.val (.int i0), .val (.int i1), x2, .val (.int i3), x4, x5, .val (.ref (ad Z ca r6)), .val (.int i7), .val (.int i8), .val (.int i9), .val (.int s0), x11, x12, x13, x14]) b0_237_241 rfl ?_
          exact ih_241 _ _ _ _ _ _ _ _ _ p2 _ p4 _ p5 _ (Pl.i _) _ p11 _ p12 _ p13 _ p14 R hM
        ·
          rw [if_neg hc229_1] at hM
          refine o_blk (pc' := 234) (st' := [(.int i7)]) (ls' := #[.val (.int i0), .val (.int i1), x2, .val (.int i3), x4, x5, .val (.ref (ad Z ca r6)), .val (.int i7), .val (.int i8), .val (.int i9), .val (.int s0), x11, x12, x13, x14]) b0_232_234 rfl ?_
          refine o_goto (pc' := 241) d0_234 (by decide) (by decide) ?_
          exact ih_241 _ _ _ _ _ _ _ _ _ p2 _ p4 _ p5 _ (Pl.i _) _ p11 _ p12 _ p13 _ p14 R hM
      · intro h H i3 r6 i8 i9 i10 s0 x2 p2 x4 p4 x5 p5 x7 p7 x11 p11 x12 p12 x13 p13 x14 p14 R hM
        have hM : B_law_241 b1 b2 b3 b4 b5 (L_law b1 b2 b3 b4 b5 f) H 0 i3 0 0 r6 0 i8 i9 i10 0 0 s0 0 = some res := hM
        unfold B_law_241 at hM
        refine o_stP (pc' := 243) (st' := []) (ls' := #[.val (.int i0), .val (.int i1), x2, .val (.int i3), x4, x5, .val (.ref (ad Z ca r6)), x7, .val (.int i8), .val (.int i9), .val (.int i10), .val (.int s0), x12, x13, x14]) d0_241 rfl rfl (own_stI (x := x11) rfl p11) ?_
        refine o_blk (pc' := 245) (st' := [(.int i10)]) (ls' := #[.val (.int i0), .val (.int i1), x2, .val (.int i3), x4, x5, .val (.ref (ad Z ca r6)), x7, .val (.int i8), .val (.int i9), .val (.int i10), .val (.int s0), x12, x13, x14]) b0_243_245 rfl ?_
        refine o_if (pc' := 255) (pc'' := 248) d0_245 (by decide) (by decide) rfl (fun (hc245_1 : i10 = 0) => ?_) (fun (hc245_1 : ¬ i10 = 0) => ?_)
        ·
          rw [if_pos hc245_1] at hM
          refine o_blk (pc' := 257) (st' := [(.int i8)]) (ls' := #[.val (.int i0), .val (.int i1), x2, .val (.int i3), x4, x5, .val (.ref (ad Z ca r6)), x7, .val (.int i8), .val (.int i9), .val (.int i10), .val (.int s0), x12, x13, x14]) b0_255_257 rfl ?_
          exact ih_257 _ _ _ _ _ _ _ _ _ p2 _ p4 _ p5 _ p7 _ (Pl.i _) _ p12 _ p13 _ p14 R hM
        ·
          rw [if_neg hc245_1] at hM
          refine o_blk (pc' := 252) (st' := [(.int (i9 - (1 : Int32)))]) (ls' := #[.val (.int i0), .val (.int i1), x2, .val (.int i3), x4, x5, .val (.ref (ad Z ca r6)), x7, .val (.int i8), .val (.int i9), .val (.int i10), .val (.int s0), x12, x13, x14]) b0_248_252 rfl ?_
          refine o_goto (pc' := 257) d0_252 (by decide) (by decide) ?_
          exact ih_257 _ _ _ _ _ _ _ _ _ p2 _ p4 _ p5 _ p7 _ (Pl.i _) _ p12 _ p13 _ p14 R hM
      · intro h H i3 r6 i9 i10 i11 s0 x2 p2 x4 p4 x5 p5 x7 p7 x8 p8 x12 p12 x13 p13 x14 p14 R hM
        have hM : B_law_257 b1 b2 b3 b4 b5 (L_law b1 b2 b3 b4 b5 f) H 0 i3 0 0 r6 0 0 i9 i10 i11 0 s0 0 = some res := hM
        unfold B_law_257 at hM
        refine o_stP (pc' := 259) (st' := []) (ls' := #[.val (.int i0), .val (.int i1), x2, .val (.int i3), x4, x5, .val (.ref (ad Z ca r6)), x7, x8, .val (.int i9), .val (.int i10), .val (.int i11), .val (.int s0), x13, x14]) d0_257 rfl rfl (own_stI (x := x12) rfl p12) ?_
        refine o_blk (pc' := 261) (st' := [(.int i10)]) (ls' := #[.val (.int i0), .val (.int i1), x2, .val (.int i3), x4, x5, .val (.ref (ad Z ca r6)), x7, x8, .val (.int i9), .val (.int i10), .val (.int i11), .val (.int s0), x13, x14]) b0_259_261 rfl ?_
        refine o_if (pc' := 280) (pc'' := 264) d0_261 (by decide) (by decide) rfl (fun (hc261_1 : i10 = 0) => ?_) (fun (hc261_1 : ¬ i10 = 0) => ?_)
        ·
          rw [if_pos hc261_1] at hM
          refine o_blk (pc' := 281) (st' := [(.int i3)]) (ls' := #[.val (.int i0), .val (.int i1), x2, .val (.int i3), x4, x5, .val (.ref (ad Z ca r6)), x7, x8, .val (.int i9), .val (.int i10), .val (.int i11), .val (.int s0), x13, x14]) b0_280_281 rfl ?_
          refine o_if (pc' := 289) (pc'' := 284) d0_281 (by decide) (by decide) rfl (fun (hc281_2 : i3 = 0) => ?_) (fun (hc281_2 : ¬ i3 = 0) => ?_)
          ·
            rw [if_pos hc281_2] at hM
            refine o_blk (pc' := 293) (st' := [(.int (i9 + (1 : Int32)))]) (ls' := #[.val (.int i0), .val (.int i1), x2, .val (.int i3), x4, x5, .val (.ref (ad Z ca r6)), x7, x8, .val (.int i9), .val (.int i10), .val (.int i11), .val (.int s0), x13, x14]) b0_289_293 rfl ?_
            exact ih_293 _ _ _ _ _ _ _ _ _ p2 _ p4 _ p5 _ p7 _ p8 _ (Pl.i _) _ p13 _ p14 R hM
          ·
            rw [if_neg hc281_2] at hM
            refine o_blk (pc' := 286) (st' := [(.int i9)]) (ls' := #[.val (.int i0), .val (.int i1), x2, .val (.int i3), x4, x5, .val (.ref (ad Z ca r6)), x7, x8, .val (.int i9), .val (.int i10), .val (.int i11), .val (.int s0), x13, x14]) b0_284_286 rfl ?_
            refine o_goto (pc' := 293) d0_286 (by decide) (by decide) ?_
            exact ih_293 _ _ _ _ _ _ _ _ _ p2 _ p4 _ p5 _ p7 _ p8 _ (Pl.i _) _ p13 _ p14 R hM
        ·
          rw [if_neg hc261_1] at hM
          refine o_blk (pc' := 265) (st' := [(.int i3)]) (ls' := #[.val (.int i0), .val (.int i1), x2, .val (.int i3), x4, x5, .val (.ref (ad Z ca r6)), x7, x8, .val (.int i9), .val (.int i10), .val (.int i11), .val (.int s0), x13, x14]) b0_264_265 rfl ?_
          refine o_if (pc' := 275) (pc'' := 268) d0_265 (by decide) (by decide) rfl (fun (hc265_3 : i3 = 0) => ?_) (fun (hc265_3 : ¬ i3 = 0) => ?_)
          ·
            rw [if_pos hc265_3] at hM
            refine o_blk (pc' := 277) (st' := [(.int i9)]) (ls' := #[.val (.int i0), .val (.int i1), x2, .val (.int i3), x4, x5, .val (.ref (ad Z ca r6)), x7, x8, .val (.int i9), .val (.int i10), .val (.int i11), .val (.int s0), x13, x14]) b0_275_277 rfl ?_
            refine o_goto (pc' := 293) d0_277 (by decide) (by decide) ?_
            exact ih_293 _ _ _ _ _ _ _ _ _ p2 _ p4 _ p5 _ p7 _ p8 _ (Pl.i _) _ p13 _ p14 R hM
          ·
            rw [if_neg hc265_3] at hM
            refine o_blk (pc' := 272) (st' := [(.int (i9 - (1 : Int32)))]) (ls' := #[.val (.int i0), .val (.int i1), x2, .val (.int i3), x4, x5, .val (.ref (ad Z ca r6)), x7, x8, .val (.int i9), .val (.int i10), .val (.int i11), .val (.int s0), x13, x14]) b0_268_272 rfl ?_
            refine o_goto (pc' := 293) d0_272 (by decide) (by decide) ?_
            exact ih_293 _ _ _ _ _ _ _ _ _ p2 _ p4 _ p5 _ p7 _ p8 _ (Pl.i _) _ p13 _ p14 R hM
      · intro h H i3 r6 i9 i11 i12 s0 x2 p2 x4 p4 x5 p5 x7 p7 x8 p8 x10 p10 x13 p13 x14 p14 R hM
        have hM : B_law_293 b1 b2 b3 b4 b5 (L_law b1 b2 b3 b4 b5 f) H 0 i3 0 0 r6 0 0 i9 0 i11 i12 s0 0 = some res := hM
        unfold B_law_293 at hM
        refine o_stP (pc' := 295) (st' := []) (ls' := #[.val (.int i0), .val (.int i1), x2, .val (.int i3), x4, x5, .val (.ref (ad Z ca r6)), x7, x8, .val (.int i9), x10, .val (.int i11), .val (.int i12), .val (.int s0), x14]) d0_293 rfl rfl (own_stI (x := x13) rfl p13) ?_
        refine o_blk (pc' := 301) (st' := [(.int s0), (.int i9), (.ref (ad Z ca r6))]) (ls' := #[.val (.int i0), .val (.int i1), x2, .val (.int i3), x4, x5, .val (.ref (ad Z ca r6)), x7, x8, .val (.int i9), x10, .val (.int i11), .val (.int i12), .val (.int s0), x14]) b0_295_301 rfl ?_
        obtain ⟨hb1, hM⟩ := own_ite hM
        obtain ⟨q2, hq2, hM⟩ := own_bind hM
        refine o_callV (W := 0) (argsL := [(.int i9), (.int s0)]) (rest := []) (pc' := 304) (own_word hw 165 rfl) (own_word hw 166 rfl) (own_word hw 168 rfl) (own_word hw 168 rfl) (own_word hw 167 rfl) (own_word hw 169 rfl) (own_word hw 7 rfl) (by decide) (R.exa (t := 0) hb1) (fun hE => rm_bel l Z a0 hw ca K H r6 i9 s0 q2 h hE R hq2) d0_301 pd_1 rfl rfl rfl (Nat.le_of_eq rfl) (by decide) (by decide) (by decide) (by decide) rfl ?_
        rintro _ h_q2 ⟨rfl, R_q2⟩ hs_q2
        refine o_stP (pc' := 306) (st' := []) (ls' := #[.val (.int i0), .val (.int i1), x2, .val (.int i3), x4, x5, .val (.ref (ad Z ca r6)), x7, x8, .val (.int i9), x10, .val (.int i11), .val (.int i12), .val (.int s0), .val (.int q2.2)]) d0_304 rfl rfl (own_stI (x := x14) rfl p14) ?_
        refine o_blk (pc' := 312) (st' := [(.int i12), (.int i11), (.int q2.2)]) (ls' := #[.val (.int i0), .val (.int i1), x2, .val (.int i3), x4, x5, .val (.ref (ad Z ca r6)), x7, x8, .val (.int i9), x10, .val (.int i11), .val (.int i12), .val (.int s0), .val (.int q2.2)]) b0_306_312 rfl ?_
        obtain ⟨q3, hq3, hM⟩ := own_bind hM
        refine o_callS (W := 0) (argsL := [(.int q2.2), (.int i11), (.int i12)]) (rest := []) (pc' := 315) (own_word hw 162 rfl) (own_word hw 163 rfl) (own_word hw 3 rfl) (own_word hw 164 rfl) (by decide) (fun hE => rm_ceno l Z a0 hw ca K q2.1 q2.2 i11 i12 q3 h_q2 hE R_q2 hq3) d0_312 pd_17 rfl rfl rfl (Nat.le_of_eq rfl) (by decide) (by decide) (by decide) (by decide) rfl ?_
        rintro _ h_q3 ⟨rfl, R_q3⟩ hs_q3
        refine o_if (pc' := 320) (pc'' := 318) d0_315 (by decide) (by decide) rfl (fun (hc315_4 : ¬ q3.2 = 0) => ?_) (fun (hc315_4 : q3.2 = 0) => ?_)
        ·
          rw [if_neg hc315_4] at hM
          refine o_blk (pc' := 322) (st' := [(.int i11)]) (ls' := #[.val (.int i0), .val (.int i1), x2, .val (.int i3), x4, x5, .val (.ref (ad Z ca r6)), x7, x8, .val (.int i9), x10, .val (.int i11), .val (.int i12), .val (.int s0), .val (.int q2.2)]) b0_320_322 rfl ?_
          refine o_stP (pc' := 324) (st' := []) (ls' := #[.val (.int i0), .val (.int i1), x2, .val (.int i3), x4, x5, .val (.ref (ad Z ca r6)), .val (.int i11), x8, .val (.int i9), x10, .val (.int i11), .val (.int i12), .val (.int s0), .val (.int q2.2)]) d0_322 rfl rfl (own_stI (x := x7) rfl p7) ?_
          refine o_blk (pc' := 326) (st' := [(.int i12)]) (ls' := #[.val (.int i0), .val (.int i1), x2, .val (.int i3), x4, x5, .val (.ref (ad Z ca r6)), .val (.int i11), x8, .val (.int i9), x10, .val (.int i11), .val (.int i12), .val (.int s0), .val (.int q2.2)]) b0_324_326 rfl ?_
          refine o_stP (pc' := 328) (st' := []) (ls' := #[.val (.int i0), .val (.int i1), x2, .val (.int i3), x4, x5, .val (.ref (ad Z ca r6)), .val (.int i11), .val (.int i12), .val (.int i9), x10, .val (.int i11), .val (.int i12), .val (.int s0), .val (.int q2.2)]) d0_326 rfl rfl (own_stI (x := x8) rfl p8) ?_
          refine o_blk (pc' := 332) (st' := []) (ls' := #[.val (.int i0), .val (.int i1), x2, .val (.int i3), x4, x5, .val (.ref (ad Z ca r6)), .val (.int i11), .val (.int i12), .val (.int q2.2), x10, .val (.int i11), .val (.int i12), .val (.int s0), .val (.int q2.2)]) b0_328_332 rfl ?_
          refine o_blk (pc' := 336) (st' := [(.int i12), (.int i11)]) (ls' := #[.val (.int i0), .val (.int i1), x2, .val (.int i3), x4, x5, .val (.ref (ad Z ca r6)), .val (.int i11), .val (.int i12), .val (.int q2.2), x10, .val (.int i11), .val (.int i12), .val (.int s0), .val (.int q2.2)]) b0_332_336 rfl ?_
          refine o_ic (pc' := 341) (pc'' := 339) d0_336 (by decide) (by decide) rfl (fun (hc336_5 : ¬ i11 = i12) => ?_) (fun (hc336_5 : i11 = i12) => ?_)
          ·
            rw [if_neg hc336_5] at hM
            refine o_blk (pc' := 345) (st' := [(.int i12), (.int q2.2)]) (ls' := #[.val (.int i0), .val (.int i1), x2, .val (.int i3), x4, x5, .val (.ref (ad Z ca r6)), .val (.int i11), .val (.int i12), .val (.int q2.2), x10, .val (.int i11), .val (.int i12), .val (.int s0), .val (.int q2.2)]) b0_341_345 rfl ?_
            refine o_ic (pc' := 361) (pc'' := 348) d0_345 (by decide) (by decide) rfl (fun (hc345_6 : q2.2 = i12) => ?_) (fun (hc345_6 : ¬ q2.2 = i12) => ?_)
            ·
              rw [if_pos hc345_6] at hM
              refine o_blk (pc' := 362) (st' := [(.int (1 : Int32))]) (ls' := #[.val (.int i0), .val (.int i1), x2, .val (.int i3), x4, x5, .val (.ref (ad Z ca r6)), .val (.int i11), .val (.int i12), .val (.int q2.2), x10, .val (.int i11), .val (.int i12), .val (.int s0), .val (.int q2.2)]) b0_361_362 rfl ?_
              refine o_goto (pc' := 366) d0_362 (by decide) (by decide) ?_
              exact ih_366 _ _ _ _ _ _ _ _ _ p2 _ p4 _ p5 _ p10 _ (Pl.i _) _ (Pl.i _) _ (Pl.i _) _ (Pl.i _) R_q3 hM
            ·
              rw [if_neg hc345_6] at hM
              refine o_blk (pc' := 352) (st' := [(.int i11), (.int q2.2)]) (ls' := #[.val (.int i0), .val (.int i1), x2, .val (.int i3), x4, x5, .val (.ref (ad Z ca r6)), .val (.int i11), .val (.int i12), .val (.int q2.2), x10, .val (.int i11), .val (.int i12), .val (.int s0), .val (.int q2.2)]) b0_348_352 rfl ?_
              refine o_ic (pc' := 365) (pc'' := 355) d0_352 (by decide) (by decide) rfl (fun (hc352_7 : q2.2 = i11) => ?_) (fun (hc352_7 : ¬ q2.2 = i11) => ?_)
              ·
                rw [if_pos hc352_7] at hM
                refine o_blk (pc' := 366) (st' := [(.int (0 : Int32))]) (ls' := #[.val (.int i0), .val (.int i1), x2, .val (.int i3), x4, x5, .val (.ref (ad Z ca r6)), .val (.int i11), .val (.int i12), .val (.int q2.2), x10, .val (.int i11), .val (.int i12), .val (.int s0), .val (.int q2.2)]) b0_365_366 rfl ?_
                exact ih_366 _ _ _ _ _ _ _ _ _ p2 _ p4 _ p5 _ p10 _ (Pl.i _) _ (Pl.i _) _ (Pl.i _) _ (Pl.i _) R_q3 hM
              ·
                rw [if_neg hc352_7] at hM
                refine o_blk (pc' := 358) (st' := [(.int (i1 &&& (2 : Int32)))]) (ls' := #[.val (.int i0), .val (.int i1), x2, .val (.int i3), x4, x5, .val (.ref (ad Z ca r6)), .val (.int i11), .val (.int i12), .val (.int q2.2), x10, .val (.int i11), .val (.int i12), .val (.int s0), .val (.int q2.2)]) b0_355_358 rfl ?_
                refine o_if (pc' := 365) (pc'' := 361) d0_358 (by decide) (by decide) rfl (fun (hc358_8 : (i1 &&& (2 : Int32)) = 0) => ?_) (fun (hc358_8 : ¬ (i1 &&& (2 : Int32)) = 0) => ?_)
                ·
                  rw [if_pos (hbit_b4.mp hc358_8)] at hM
                  refine o_blk (pc' := 366) (st' := [(.int (0 : Int32))]) (ls' := #[.val (.int i0), .val (.int i1), x2, .val (.int i3), x4, x5, .val (.ref (ad Z ca r6)), .val (.int i11), .val (.int i12), .val (.int q2.2), x10, .val (.int i11), .val (.int i12), .val (.int s0), .val (.int q2.2)]) b0_365_366 rfl ?_
                  exact ih_366 _ _ _ _ _ _ _ _ _ p2 _ p4 _ p5 _ p10 _ (Pl.i _) _ (Pl.i _) _ (Pl.i _) _ (Pl.i _) R_q3 hM
                ·
                  rw [if_neg (mt hbit_b4.mpr hc358_8)] at hM
                  refine o_blk (pc' := 362) (st' := [(.int (1 : Int32))]) (ls' := #[.val (.int i0), .val (.int i1), x2, .val (.int i3), x4, x5, .val (.ref (ad Z ca r6)), .val (.int i11), .val (.int i12), .val (.int q2.2), x10, .val (.int i11), .val (.int i12), .val (.int s0), .val (.int q2.2)]) b0_361_362 rfl ?_
                  refine o_goto (pc' := 366) d0_362 (by decide) (by decide) ?_
                  exact ih_366 _ _ _ _ _ _ _ _ _ p2 _ p4 _ p5 _ p10 _ (Pl.i _) _ (Pl.i _) _ (Pl.i _) _ (Pl.i _) R_q3 hM
          ·
            rw [if_pos hc336_5] at hM
            refine o_blk (pc' := 340) (st' := [(.int (1 : Int32))]) (ls' := #[.val (.int i0), .val (.int i1), x2, .val (.int i3), x4, x5, .val (.ref (ad Z ca r6)), .val (.int i11), .val (.int i12), .val (.int q2.2), x10, .val (.int i11), .val (.int i12), .val (.int s0), .val (.int q2.2)]) b0_339_340 rfl ?_
            cases hM
            exact o_retZ (w := 0) d0_340 (by decide) (by decide) rfl (by decide) (congrArg (fun z => some (Value.int z)) hres)
        ·
          rw [if_pos hc315_4] at hM
          refine o_blk (pc' := 319) (st' := [(.int (0 : Int32))]) (ls' := #[.val (.int i0), .val (.int i1), x2, .val (.int i3), x4, x5, .val (.ref (ad Z ca r6)), x7, x8, .val (.int i9), x10, .val (.int i11), .val (.int i12), .val (.int s0), .val (.int q2.2)]) b0_318_319 rfl ?_
          cases hM
          exact o_retZ (w := 0) d0_319 (by decide) (by decide) rfl (by decide) (congrArg (fun z => some (Value.int z)) hres)
      · intro h H i3 r6 i7 i8 i9 s0 x2 p2 x4 p4 x5 p5 x10 p10 x11 p11 x12 p12 x13 p13 x14 p14 R hM
        have hM : B_law_366 b1 b2 b3 b4 b5 (L_law b1 b2 b3 b4 b5 f) H 0 i3 0 0 r6 i7 i8 i9 0 0 0 s0 0 = some res := hM
        unfold B_law_366 at hM
        refine o_stP (pc' := 368) (st' := []) (ls' := #[.val (.int i0), .val (.int i1), x2, .val (.int i3), x4, x5, .val (.ref (ad Z ca r6)), .val (.int i7), .val (.int i8), .val (.int i9), .val (.int s0), x11, x12, x13, x14]) d0_366 rfl rfl (own_stI (x := x10) rfl p10) ?_
        refine o_blk (pc' := 370) (st' := [(.int s0)]) (ls' := #[.val (.int i0), .val (.int i1), x2, .val (.int i3), x4, x5, .val (.ref (ad Z ca r6)), .val (.int i7), .val (.int i8), .val (.int i9), .val (.int s0), x11, x12, x13, x14]) b0_368_370 rfl ?_
        refine o_if (pc' := 378) (pc'' := 373) d0_370 (by decide) (by decide) rfl (fun (hc370_1 : s0 = 0) => ?_) (fun (hc370_1 : ¬ s0 = 0) => ?_)
        ·
          rw [if_pos hc370_1] at hM
          refine o_blk (pc' := 382) (st' := [(.int (i9 + (1 : Int32)))]) (ls' := #[.val (.int i0), .val (.int i1), x2, .val (.int i3), x4, x5, .val (.ref (ad Z ca r6)), .val (.int i7), .val (.int i8), .val (.int i9), .val (.int s0), x11, x12, x13, x14]) b0_378_382 rfl ?_
          exact ih_382 _ _ _ _ _ _ _ _ _ p2 _ p4 _ p5 _ (Pl.i _) _ p11 _ p12 _ p13 _ p14 R hM
        ·
          rw [if_neg hc370_1] at hM
          refine o_blk (pc' := 375) (st' := [(.int i7)]) (ls' := #[.val (.int i0), .val (.int i1), x2, .val (.int i3), x4, x5, .val (.ref (ad Z ca r6)), .val (.int i7), .val (.int i8), .val (.int i9), .val (.int s0), x11, x12, x13, x14]) b0_373_375 rfl ?_
          refine o_goto (pc' := 382) d0_375 (by decide) (by decide) ?_
          exact ih_382 _ _ _ _ _ _ _ _ _ p2 _ p4 _ p5 _ (Pl.i _) _ p11 _ p12 _ p13 _ p14 R hM
      · intro h H i3 r6 i8 i9 i10 s0 x2 p2 x4 p4 x5 p5 x7 p7 x11 p11 x12 p12 x13 p13 x14 p14 R hM
        have hM : B_law_382 b1 b2 b3 b4 b5 (L_law b1 b2 b3 b4 b5 f) H 0 i3 0 0 r6 0 i8 i9 i10 0 0 s0 0 = some res := hM
        unfold B_law_382 at hM
        refine o_stP (pc' := 384) (st' := []) (ls' := #[.val (.int i0), .val (.int i1), x2, .val (.int i3), x4, x5, .val (.ref (ad Z ca r6)), x7, .val (.int i8), .val (.int i9), .val (.int i10), .val (.int s0), x12, x13, x14]) d0_382 rfl rfl (own_stI (x := x11) rfl p11) ?_
        refine o_blk (pc' := 386) (st' := [(.int i10)]) (ls' := #[.val (.int i0), .val (.int i1), x2, .val (.int i3), x4, x5, .val (.ref (ad Z ca r6)), x7, .val (.int i8), .val (.int i9), .val (.int i10), .val (.int s0), x12, x13, x14]) b0_384_386 rfl ?_
        refine o_if (pc' := 396) (pc'' := 389) d0_386 (by decide) (by decide) rfl (fun (hc386_1 : i10 = 0) => ?_) (fun (hc386_1 : ¬ i10 = 0) => ?_)
        ·
          rw [if_pos hc386_1] at hM
          refine o_blk (pc' := 398) (st' := [(.int i8)]) (ls' := #[.val (.int i0), .val (.int i1), x2, .val (.int i3), x4, x5, .val (.ref (ad Z ca r6)), x7, .val (.int i8), .val (.int i9), .val (.int i10), .val (.int s0), x12, x13, x14]) b0_396_398 rfl ?_
          exact ih_398 _ _ _ _ _ _ _ _ _ p2 _ p4 _ p5 _ p7 _ (Pl.i _) _ p12 _ p13 _ p14 R hM
        ·
          rw [if_neg hc386_1] at hM
          refine o_blk (pc' := 393) (st' := [(.int (i9 - (1 : Int32)))]) (ls' := #[.val (.int i0), .val (.int i1), x2, .val (.int i3), x4, x5, .val (.ref (ad Z ca r6)), x7, .val (.int i8), .val (.int i9), .val (.int i10), .val (.int s0), x12, x13, x14]) b0_389_393 rfl ?_
          refine o_goto (pc' := 398) d0_393 (by decide) (by decide) ?_
          exact ih_398 _ _ _ _ _ _ _ _ _ p2 _ p4 _ p5 _ p7 _ (Pl.i _) _ p12 _ p13 _ p14 R hM
      · intro h H i3 r6 i9 i10 i11 s0 x2 p2 x4 p4 x5 p5 x7 p7 x8 p8 x12 p12 x13 p13 x14 p14 R hM
        have hM : B_law_398 b1 b2 b3 b4 b5 (L_law b1 b2 b3 b4 b5 f) H 0 i3 0 0 r6 0 0 i9 i10 i11 0 s0 0 = some res := hM
        unfold B_law_398 at hM
        refine o_stP (pc' := 400) (st' := []) (ls' := #[.val (.int i0), .val (.int i1), x2, .val (.int i3), x4, x5, .val (.ref (ad Z ca r6)), x7, x8, .val (.int i9), .val (.int i10), .val (.int i11), .val (.int s0), x13, x14]) d0_398 rfl rfl (own_stI (x := x12) rfl p12) ?_
        refine o_blk (pc' := 402) (st' := [(.int i10)]) (ls' := #[.val (.int i0), .val (.int i1), x2, .val (.int i3), x4, x5, .val (.ref (ad Z ca r6)), x7, x8, .val (.int i9), .val (.int i10), .val (.int i11), .val (.int s0), x13, x14]) b0_400_402 rfl ?_
        refine o_if (pc' := 421) (pc'' := 405) d0_402 (by decide) (by decide) rfl (fun (hc402_1 : i10 = 0) => ?_) (fun (hc402_1 : ¬ i10 = 0) => ?_)
        ·
          rw [if_pos hc402_1] at hM
          refine o_blk (pc' := 422) (st' := [(.int i3)]) (ls' := #[.val (.int i0), .val (.int i1), x2, .val (.int i3), x4, x5, .val (.ref (ad Z ca r6)), x7, x8, .val (.int i9), .val (.int i10), .val (.int i11), .val (.int s0), x13, x14]) b0_421_422 rfl ?_
          refine o_if (pc' := 430) (pc'' := 425) d0_422 (by decide) (by decide) rfl (fun (hc422_2 : i3 = 0) => ?_) (fun (hc422_2 : ¬ i3 = 0) => ?_)
          ·
            rw [if_pos hc422_2] at hM
            refine o_blk (pc' := 434) (st' := [(.int (i9 + (1 : Int32)))]) (ls' := #[.val (.int i0), .val (.int i1), x2, .val (.int i3), x4, x5, .val (.ref (ad Z ca r6)), x7, x8, .val (.int i9), .val (.int i10), .val (.int i11), .val (.int s0), x13, x14]) b0_430_434 rfl ?_
            exact ih_434 _ _ _ _ _ _ _ _ _ p2 _ p4 _ p5 _ p7 _ p8 _ (Pl.i _) _ p13 _ p14 R hM
          ·
            rw [if_neg hc422_2] at hM
            refine o_blk (pc' := 427) (st' := [(.int i9)]) (ls' := #[.val (.int i0), .val (.int i1), x2, .val (.int i3), x4, x5, .val (.ref (ad Z ca r6)), x7, x8, .val (.int i9), .val (.int i10), .val (.int i11), .val (.int s0), x13, x14]) b0_425_427 rfl ?_
            refine o_goto (pc' := 434) d0_427 (by decide) (by decide) ?_
            exact ih_434 _ _ _ _ _ _ _ _ _ p2 _ p4 _ p5 _ p7 _ p8 _ (Pl.i _) _ p13 _ p14 R hM
        ·
          rw [if_neg hc402_1] at hM
          refine o_blk (pc' := 406) (st' := [(.int i3)]) (ls' := #[.val (.int i0), .val (.int i1), x2, .val (.int i3), x4, x5, .val (.ref (ad Z ca r6)), x7, x8, .val (.int i9), .val (.int i10), .val (.int i11), .val (.int s0), x13, x14]) b0_405_406 rfl ?_
          refine o_if (pc' := 416) (pc'' := 409) d0_406 (by decide) (by decide) rfl (fun (hc406_3 : i3 = 0) => ?_) (fun (hc406_3 : ¬ i3 = 0) => ?_)
          ·
            rw [if_pos hc406_3] at hM
            refine o_blk (pc' := 418) (st' := [(.int i9)]) (ls' := #[.val (.int i0), .val (.int i1), x2, .val (.int i3), x4, x5, .val (.ref (ad Z ca r6)), x7, x8, .val (.int i9), .val (.int i10), .val (.int i11), .val (.int s0), x13, x14]) b0_416_418 rfl ?_
            refine o_goto (pc' := 434) d0_418 (by decide) (by decide) ?_
            exact ih_434 _ _ _ _ _ _ _ _ _ p2 _ p4 _ p5 _ p7 _ p8 _ (Pl.i _) _ p13 _ p14 R hM
          ·
            rw [if_neg hc406_3] at hM
            refine o_blk (pc' := 413) (st' := [(.int (i9 - (1 : Int32)))]) (ls' := #[.val (.int i0), .val (.int i1), x2, .val (.int i3), x4, x5, .val (.ref (ad Z ca r6)), x7, x8, .val (.int i9), .val (.int i10), .val (.int i11), .val (.int s0), x13, x14]) b0_409_413 rfl ?_
            refine o_goto (pc' := 434) d0_413 (by decide) (by decide) ?_
            exact ih_434 _ _ _ _ _ _ _ _ _ p2 _ p4 _ p5 _ p7 _ p8 _ (Pl.i _) _ p13 _ p14 R hM
      · intro h H i3 r6 i9 i11 i12 s0 x2 p2 x4 p4 x5 p5 x7 p7 x8 p8 x10 p10 x13 p13 x14 p14 R hM
        have hM : B_law_434 b1 b2 b3 b4 b5 (L_law b1 b2 b3 b4 b5 f) H 0 i3 0 0 r6 0 0 i9 0 i11 i12 s0 0 = some res := hM
        unfold B_law_434 at hM
        refine o_stP (pc' := 436) (st' := []) (ls' := #[.val (.int i0), .val (.int i1), x2, .val (.int i3), x4, x5, .val (.ref (ad Z ca r6)), x7, x8, .val (.int i9), x10, .val (.int i11), .val (.int i12), .val (.int s0), x14]) d0_434 rfl rfl (own_stI (x := x13) rfl p13) ?_
        refine o_blk (pc' := 442) (st' := [(.int s0), (.int i9), (.ref (ad Z ca r6))]) (ls' := #[.val (.int i0), .val (.int i1), x2, .val (.int i3), x4, x5, .val (.ref (ad Z ca r6)), x7, x8, .val (.int i9), x10, .val (.int i11), .val (.int i12), .val (.int s0), x14]) b0_436_442 rfl ?_
        obtain ⟨hb1, hM⟩ := own_ite hM
        obtain ⟨q2, hq2, hM⟩ := own_bind hM
        refine o_callV (W := 0) (argsL := [(.int i9), (.int s0)]) (rest := []) (pc' := 445) (own_word hw 165 rfl) (own_word hw 166 rfl) (own_word hw 168 rfl) (own_word hw 168 rfl) (own_word hw 167 rfl) (own_word hw 169 rfl) (own_word hw 7 rfl) (by decide) (R.exa (t := 0) hb1) (fun hE => rm_bel l Z a0 hw ca K H r6 i9 s0 q2 h hE R hq2) d0_442 pd_1 rfl rfl rfl (Nat.le_of_eq rfl) (by decide) (by decide) (by decide) (by decide) rfl ?_
        rintro _ h_q2 ⟨rfl, R_q2⟩ hs_q2
        refine o_stP (pc' := 447) (st' := []) (ls' := #[.val (.int i0), .val (.int i1), x2, .val (.int i3), x4, x5, .val (.ref (ad Z ca r6)), x7, x8, .val (.int i9), x10, .val (.int i11), .val (.int i12), .val (.int s0), .val (.int q2.2)]) d0_445 rfl rfl (own_stI (x := x14) rfl p14) ?_
        refine o_blk (pc' := 453) (st' := [(.int i12), (.int i11), (.int q2.2)]) (ls' := #[.val (.int i0), .val (.int i1), x2, .val (.int i3), x4, x5, .val (.ref (ad Z ca r6)), x7, x8, .val (.int i9), x10, .val (.int i11), .val (.int i12), .val (.int s0), .val (.int q2.2)]) b0_447_453 rfl ?_
        obtain ⟨q3, hq3, hM⟩ := own_bind hM
        refine o_callS (W := 0) (argsL := [(.int q2.2), (.int i11), (.int i12)]) (rest := []) (pc' := 456) (own_word hw 162 rfl) (own_word hw 163 rfl) (own_word hw 3 rfl) (own_word hw 164 rfl) (by decide) (fun hE => rm_ceno l Z a0 hw ca K q2.1 q2.2 i11 i12 q3 h_q2 hE R_q2 hq3) d0_453 pd_17 rfl rfl rfl (Nat.le_of_eq rfl) (by decide) (by decide) (by decide) (by decide) rfl ?_
        rintro _ h_q3 ⟨rfl, R_q3⟩ hs_q3
        refine o_if (pc' := 461) (pc'' := 459) d0_456 (by decide) (by decide) rfl (fun (hc456_4 : ¬ q3.2 = 0) => ?_) (fun (hc456_4 : q3.2 = 0) => ?_)
        ·
          rw [if_neg hc456_4] at hM
          refine o_blk (pc' := 463) (st' := [(.int i11)]) (ls' := #[.val (.int i0), .val (.int i1), x2, .val (.int i3), x4, x5, .val (.ref (ad Z ca r6)), x7, x8, .val (.int i9), x10, .val (.int i11), .val (.int i12), .val (.int s0), .val (.int q2.2)]) b0_461_463 rfl ?_
          refine o_stP (pc' := 465) (st' := []) (ls' := #[.val (.int i0), .val (.int i1), x2, .val (.int i3), x4, x5, .val (.ref (ad Z ca r6)), .val (.int i11), x8, .val (.int i9), x10, .val (.int i11), .val (.int i12), .val (.int s0), .val (.int q2.2)]) d0_463 rfl rfl (own_stI (x := x7) rfl p7) ?_
          refine o_blk (pc' := 467) (st' := [(.int i12)]) (ls' := #[.val (.int i0), .val (.int i1), x2, .val (.int i3), x4, x5, .val (.ref (ad Z ca r6)), .val (.int i11), x8, .val (.int i9), x10, .val (.int i11), .val (.int i12), .val (.int s0), .val (.int q2.2)]) b0_465_467 rfl ?_
          refine o_stP (pc' := 469) (st' := []) (ls' := #[.val (.int i0), .val (.int i1), x2, .val (.int i3), x4, x5, .val (.ref (ad Z ca r6)), .val (.int i11), .val (.int i12), .val (.int i9), x10, .val (.int i11), .val (.int i12), .val (.int s0), .val (.int q2.2)]) d0_467 rfl rfl (own_stI (x := x8) rfl p8) ?_
          refine o_blk (pc' := 473) (st' := []) (ls' := #[.val (.int i0), .val (.int i1), x2, .val (.int i3), x4, x5, .val (.ref (ad Z ca r6)), .val (.int i11), .val (.int i12), .val (.int q2.2), x10, .val (.int i11), .val (.int i12), .val (.int s0), .val (.int q2.2)]) b0_469_473 rfl ?_
          refine o_blk (pc' := 477) (st' := [(.int i12), (.int i11)]) (ls' := #[.val (.int i0), .val (.int i1), x2, .val (.int i3), x4, x5, .val (.ref (ad Z ca r6)), .val (.int i11), .val (.int i12), .val (.int q2.2), x10, .val (.int i11), .val (.int i12), .val (.int s0), .val (.int q2.2)]) b0_473_477 rfl ?_
          refine o_ic (pc' := 482) (pc'' := 480) d0_477 (by decide) (by decide) rfl (fun (hc477_5 : ¬ i11 = i12) => ?_) (fun (hc477_5 : i11 = i12) => ?_)
          ·
            rw [if_neg hc477_5] at hM
            refine o_blk (pc' := 486) (st' := [(.int i12), (.int q2.2)]) (ls' := #[.val (.int i0), .val (.int i1), x2, .val (.int i3), x4, x5, .val (.ref (ad Z ca r6)), .val (.int i11), .val (.int i12), .val (.int q2.2), x10, .val (.int i11), .val (.int i12), .val (.int s0), .val (.int q2.2)]) b0_482_486 rfl ?_
            refine o_ic (pc' := 502) (pc'' := 489) d0_486 (by decide) (by decide) rfl (fun (hc486_6 : q2.2 = i12) => ?_) (fun (hc486_6 : ¬ q2.2 = i12) => ?_)
            ·
              rw [if_pos hc486_6] at hM
              refine o_blk (pc' := 503) (st' := [(.int (1 : Int32))]) (ls' := #[.val (.int i0), .val (.int i1), x2, .val (.int i3), x4, x5, .val (.ref (ad Z ca r6)), .val (.int i11), .val (.int i12), .val (.int q2.2), x10, .val (.int i11), .val (.int i12), .val (.int s0), .val (.int q2.2)]) b0_502_503 rfl ?_
              refine o_goto (pc' := 507) d0_503 (by decide) (by decide) ?_
              exact ih_507 _ _ _ _ _ _ _ _ _ p2 _ p4 _ p5 _ p10 _ (Pl.i _) _ (Pl.i _) _ (Pl.i _) _ (Pl.i _) R_q3 hM
            ·
              rw [if_neg hc486_6] at hM
              refine o_blk (pc' := 493) (st' := [(.int i11), (.int q2.2)]) (ls' := #[.val (.int i0), .val (.int i1), x2, .val (.int i3), x4, x5, .val (.ref (ad Z ca r6)), .val (.int i11), .val (.int i12), .val (.int q2.2), x10, .val (.int i11), .val (.int i12), .val (.int s0), .val (.int q2.2)]) b0_489_493 rfl ?_
              refine o_ic (pc' := 506) (pc'' := 496) d0_493 (by decide) (by decide) rfl (fun (hc493_7 : q2.2 = i11) => ?_) (fun (hc493_7 : ¬ q2.2 = i11) => ?_)
              ·
                rw [if_pos hc493_7] at hM
                refine o_blk (pc' := 507) (st' := [(.int (0 : Int32))]) (ls' := #[.val (.int i0), .val (.int i1), x2, .val (.int i3), x4, x5, .val (.ref (ad Z ca r6)), .val (.int i11), .val (.int i12), .val (.int q2.2), x10, .val (.int i11), .val (.int i12), .val (.int s0), .val (.int q2.2)]) b0_506_507 rfl ?_
                exact ih_507 _ _ _ _ _ _ _ _ _ p2 _ p4 _ p5 _ p10 _ (Pl.i _) _ (Pl.i _) _ (Pl.i _) _ (Pl.i _) R_q3 hM
              ·
                rw [if_neg hc493_7] at hM
                refine o_blk (pc' := 499) (st' := [(.int (i1 &&& (4 : Int32)))]) (ls' := #[.val (.int i0), .val (.int i1), x2, .val (.int i3), x4, x5, .val (.ref (ad Z ca r6)), .val (.int i11), .val (.int i12), .val (.int q2.2), x10, .val (.int i11), .val (.int i12), .val (.int s0), .val (.int q2.2)]) b0_496_499 rfl ?_
                refine o_if (pc' := 506) (pc'' := 502) d0_499 (by decide) (by decide) rfl (fun (hc499_8 : (i1 &&& (4 : Int32)) = 0) => ?_) (fun (hc499_8 : ¬ (i1 &&& (4 : Int32)) = 0) => ?_)
                ·
                  rw [if_pos (hbit_b5.mp hc499_8)] at hM
                  refine o_blk (pc' := 507) (st' := [(.int (0 : Int32))]) (ls' := #[.val (.int i0), .val (.int i1), x2, .val (.int i3), x4, x5, .val (.ref (ad Z ca r6)), .val (.int i11), .val (.int i12), .val (.int q2.2), x10, .val (.int i11), .val (.int i12), .val (.int s0), .val (.int q2.2)]) b0_506_507 rfl ?_
                  exact ih_507 _ _ _ _ _ _ _ _ _ p2 _ p4 _ p5 _ p10 _ (Pl.i _) _ (Pl.i _) _ (Pl.i _) _ (Pl.i _) R_q3 hM
                ·
                  rw [if_neg (mt hbit_b5.mpr hc499_8)] at hM
                  refine o_blk (pc' := 503) (st' := [(.int (1 : Int32))]) (ls' := #[.val (.int i0), .val (.int i1), x2, .val (.int i3), x4, x5, .val (.ref (ad Z ca r6)), .val (.int i11), .val (.int i12), .val (.int q2.2), x10, .val (.int i11), .val (.int i12), .val (.int s0), .val (.int q2.2)]) b0_502_503 rfl ?_
                  refine o_goto (pc' := 507) d0_503 (by decide) (by decide) ?_
                  exact ih_507 _ _ _ _ _ _ _ _ _ p2 _ p4 _ p5 _ p10 _ (Pl.i _) _ (Pl.i _) _ (Pl.i _) _ (Pl.i _) R_q3 hM
          ·
            rw [if_pos hc477_5] at hM
            refine o_blk (pc' := 481) (st' := [(.int (1 : Int32))]) (ls' := #[.val (.int i0), .val (.int i1), x2, .val (.int i3), x4, x5, .val (.ref (ad Z ca r6)), .val (.int i11), .val (.int i12), .val (.int q2.2), x10, .val (.int i11), .val (.int i12), .val (.int s0), .val (.int q2.2)]) b0_480_481 rfl ?_
            cases hM
            exact o_retZ (w := 0) d0_481 (by decide) (by decide) rfl (by decide) (congrArg (fun z => some (Value.int z)) hres)
        ·
          rw [if_pos hc456_4] at hM
          refine o_blk (pc' := 460) (st' := [(.int (0 : Int32))]) (ls' := #[.val (.int i0), .val (.int i1), x2, .val (.int i3), x4, x5, .val (.ref (ad Z ca r6)), x7, x8, .val (.int i9), x10, .val (.int i11), .val (.int i12), .val (.int s0), .val (.int q2.2)]) b0_459_460 rfl ?_
          cases hM
          exact o_retZ (w := 0) d0_460 (by decide) (by decide) rfl (by decide) (congrArg (fun z => some (Value.int z)) hres)
      · intro h H i3 r6 i7 i8 i9 s0 x2 p2 x4 p4 x5 p5 x10 p10 x11 p11 x12 p12 x13 p13 x14 p14 R hM
        have hM : B_law_507 b1 b2 b3 b4 b5 (L_law b1 b2 b3 b4 b5 f) H 0 i3 0 0 r6 i7 i8 i9 0 0 0 s0 0 = some res := hM
        unfold B_law_507 at hM
        refine o_stP (pc' := 509) (st' := []) (ls' := #[.val (.int i0), .val (.int i1), x2, .val (.int i3), x4, x5, .val (.ref (ad Z ca r6)), .val (.int i7), .val (.int i8), .val (.int i9), .val (.int s0), x11, x12, x13, x14]) d0_507 rfl rfl (own_stI (x := x10) rfl p10) ?_
        refine o_blk (pc' := 511) (st' := [(.int s0)]) (ls' := #[.val (.int i0), .val (.int i1), x2, .val (.int i3), x4, x5, .val (.ref (ad Z ca r6)), .val (.int i7), .val (.int i8), .val (.int i9), .val (.int s0), x11, x12, x13, x14]) b0_509_511 rfl ?_
        refine o_if (pc' := 519) (pc'' := 514) d0_511 (by decide) (by decide) rfl (fun (hc511_1 : s0 = 0) => ?_) (fun (hc511_1 : ¬ s0 = 0) => ?_)
        ·
          rw [if_pos hc511_1] at hM
          refine o_blk (pc' := 523) (st' := [(.int (i9 + (1 : Int32)))]) (ls' := #[.val (.int i0), .val (.int i1), x2, .val (.int i3), x4, x5, .val (.ref (ad Z ca r6)), .val (.int i7), .val (.int i8), .val (.int i9), .val (.int s0), x11, x12, x13, x14]) b0_519_523 rfl ?_
          exact ih_523 _ _ _ _ _ _ _ _ _ p2 _ p4 _ p5 _ (Pl.i _) _ p11 _ p12 _ p13 _ p14 R hM
        ·
          rw [if_neg hc511_1] at hM
          refine o_blk (pc' := 516) (st' := [(.int i7)]) (ls' := #[.val (.int i0), .val (.int i1), x2, .val (.int i3), x4, x5, .val (.ref (ad Z ca r6)), .val (.int i7), .val (.int i8), .val (.int i9), .val (.int s0), x11, x12, x13, x14]) b0_514_516 rfl ?_
          refine o_goto (pc' := 523) d0_516 (by decide) (by decide) ?_
          exact ih_523 _ _ _ _ _ _ _ _ _ p2 _ p4 _ p5 _ (Pl.i _) _ p11 _ p12 _ p13 _ p14 R hM
      · intro h H i3 r6 i8 i9 i10 s0 x2 p2 x4 p4 x5 p5 x7 p7 x11 p11 x12 p12 x13 p13 x14 p14 R hM
        have hM : B_law_523 b1 b2 b3 b4 b5 (L_law b1 b2 b3 b4 b5 f) H 0 i3 0 0 r6 0 i8 i9 i10 0 0 s0 0 = some res := hM
        unfold B_law_523 at hM
        refine o_stP (pc' := 525) (st' := []) (ls' := #[.val (.int i0), .val (.int i1), x2, .val (.int i3), x4, x5, .val (.ref (ad Z ca r6)), x7, .val (.int i8), .val (.int i9), .val (.int i10), .val (.int s0), x12, x13, x14]) d0_523 rfl rfl (own_stI (x := x11) rfl p11) ?_
        refine o_blk (pc' := 527) (st' := [(.int i10)]) (ls' := #[.val (.int i0), .val (.int i1), x2, .val (.int i3), x4, x5, .val (.ref (ad Z ca r6)), x7, .val (.int i8), .val (.int i9), .val (.int i10), .val (.int s0), x12, x13, x14]) b0_525_527 rfl ?_
        refine o_if (pc' := 537) (pc'' := 530) d0_527 (by decide) (by decide) rfl (fun (hc527_1 : i10 = 0) => ?_) (fun (hc527_1 : ¬ i10 = 0) => ?_)
        ·
          rw [if_pos hc527_1] at hM
          refine o_blk (pc' := 539) (st' := [(.int i8)]) (ls' := #[.val (.int i0), .val (.int i1), x2, .val (.int i3), x4, x5, .val (.ref (ad Z ca r6)), x7, .val (.int i8), .val (.int i9), .val (.int i10), .val (.int s0), x12, x13, x14]) b0_537_539 rfl ?_
          exact ih_539 _ _ _ _ _ _ _ _ _ p2 _ p4 _ p5 _ p7 _ (Pl.i _) _ p12 _ p13 _ p14 R hM
        ·
          rw [if_neg hc527_1] at hM
          refine o_blk (pc' := 534) (st' := [(.int (i9 - (1 : Int32)))]) (ls' := #[.val (.int i0), .val (.int i1), x2, .val (.int i3), x4, x5, .val (.ref (ad Z ca r6)), x7, .val (.int i8), .val (.int i9), .val (.int i10), .val (.int s0), x12, x13, x14]) b0_530_534 rfl ?_
          refine o_goto (pc' := 539) d0_534 (by decide) (by decide) ?_
          exact ih_539 _ _ _ _ _ _ _ _ _ p2 _ p4 _ p5 _ p7 _ (Pl.i _) _ p12 _ p13 _ p14 R hM
      · intro h H i3 r6 i9 i10 i11 s0 x2 p2 x4 p4 x5 p5 x7 p7 x8 p8 x12 p12 x13 p13 x14 p14 R hM
        have hM : B_law_539 b1 b2 b3 b4 b5 (L_law b1 b2 b3 b4 b5 f) H 0 i3 0 0 r6 0 0 i9 i10 i11 0 s0 0 = some res := hM
        unfold B_law_539 at hM
        refine o_stP (pc' := 541) (st' := []) (ls' := #[.val (.int i0), .val (.int i1), x2, .val (.int i3), x4, x5, .val (.ref (ad Z ca r6)), x7, x8, .val (.int i9), .val (.int i10), .val (.int i11), .val (.int s0), x13, x14]) d0_539 rfl rfl (own_stI (x := x12) rfl p12) ?_
        refine o_blk (pc' := 543) (st' := [(.int i10)]) (ls' := #[.val (.int i0), .val (.int i1), x2, .val (.int i3), x4, x5, .val (.ref (ad Z ca r6)), x7, x8, .val (.int i9), .val (.int i10), .val (.int i11), .val (.int s0), x13, x14]) b0_541_543 rfl ?_
        refine o_if (pc' := 562) (pc'' := 546) d0_543 (by decide) (by decide) rfl (fun (hc543_1 : i10 = 0) => ?_) (fun (hc543_1 : ¬ i10 = 0) => ?_)
        ·
          rw [if_pos hc543_1] at hM
          refine o_blk (pc' := 563) (st' := [(.int i3)]) (ls' := #[.val (.int i0), .val (.int i1), x2, .val (.int i3), x4, x5, .val (.ref (ad Z ca r6)), x7, x8, .val (.int i9), .val (.int i10), .val (.int i11), .val (.int s0), x13, x14]) b0_562_563 rfl ?_
          refine o_if (pc' := 571) (pc'' := 566) d0_563 (by decide) (by decide) rfl (fun (hc563_2 : i3 = 0) => ?_) (fun (hc563_2 : ¬ i3 = 0) => ?_)
          ·
            rw [if_pos hc563_2] at hM
            refine o_blk (pc' := 575) (st' := [(.int (i9 + (1 : Int32)))]) (ls' := #[.val (.int i0), .val (.int i1), x2, .val (.int i3), x4, x5, .val (.ref (ad Z ca r6)), x7, x8, .val (.int i9), .val (.int i10), .val (.int i11), .val (.int s0), x13, x14]) b0_571_575 rfl ?_
            exact ih_575 _ _ _ _ _ _ _ _ p2 _ (Pl.i _) _ p4 _ p5 _ p7 _ p8 _ (Pl.i _) _ p13 _ p14 R hM
          ·
            rw [if_neg hc563_2] at hM
            refine o_blk (pc' := 568) (st' := [(.int i9)]) (ls' := #[.val (.int i0), .val (.int i1), x2, .val (.int i3), x4, x5, .val (.ref (ad Z ca r6)), x7, x8, .val (.int i9), .val (.int i10), .val (.int i11), .val (.int s0), x13, x14]) b0_566_568 rfl ?_
            refine o_goto (pc' := 575) d0_568 (by decide) (by decide) ?_
            exact ih_575 _ _ _ _ _ _ _ _ p2 _ (Pl.i _) _ p4 _ p5 _ p7 _ p8 _ (Pl.i _) _ p13 _ p14 R hM
        ·
          rw [if_neg hc543_1] at hM
          refine o_blk (pc' := 547) (st' := [(.int i3)]) (ls' := #[.val (.int i0), .val (.int i1), x2, .val (.int i3), x4, x5, .val (.ref (ad Z ca r6)), x7, x8, .val (.int i9), .val (.int i10), .val (.int i11), .val (.int s0), x13, x14]) b0_546_547 rfl ?_
          refine o_if (pc' := 557) (pc'' := 550) d0_547 (by decide) (by decide) rfl (fun (hc547_3 : i3 = 0) => ?_) (fun (hc547_3 : ¬ i3 = 0) => ?_)
          ·
            rw [if_pos hc547_3] at hM
            refine o_blk (pc' := 559) (st' := [(.int i9)]) (ls' := #[.val (.int i0), .val (.int i1), x2, .val (.int i3), x4, x5, .val (.ref (ad Z ca r6)), x7, x8, .val (.int i9), .val (.int i10), .val (.int i11), .val (.int s0), x13, x14]) b0_557_559 rfl ?_
            refine o_goto (pc' := 575) d0_559 (by decide) (by decide) ?_
            exact ih_575 _ _ _ _ _ _ _ _ p2 _ (Pl.i _) _ p4 _ p5 _ p7 _ p8 _ (Pl.i _) _ p13 _ p14 R hM
          ·
            rw [if_neg hc547_3] at hM
            refine o_blk (pc' := 554) (st' := [(.int (i9 - (1 : Int32)))]) (ls' := #[.val (.int i0), .val (.int i1), x2, .val (.int i3), x4, x5, .val (.ref (ad Z ca r6)), x7, x8, .val (.int i9), .val (.int i10), .val (.int i11), .val (.int s0), x13, x14]) b0_550_554 rfl ?_
            refine o_goto (pc' := 575) d0_554 (by decide) (by decide) ?_
            exact ih_575 _ _ _ _ _ _ _ _ p2 _ (Pl.i _) _ p4 _ p5 _ p7 _ p8 _ (Pl.i _) _ p13 _ p14 R hM
      · intro h H r6 i9 i11 i12 s0 x2 p2 x3 p3 x4 p4 x5 p5 x7 p7 x8 p8 x10 p10 x13 p13 x14 p14 R hM
        have hM : B_law_575 b1 b2 b3 b4 b5 (L_law b1 b2 b3 b4 b5 f) H 0 0 0 0 r6 0 0 i9 0 i11 i12 s0 0 = some res := hM
        unfold B_law_575 at hM
        refine o_stP (pc' := 577) (st' := []) (ls' := #[.val (.int i0), .val (.int i1), x2, x3, x4, x5, .val (.ref (ad Z ca r6)), x7, x8, .val (.int i9), x10, .val (.int i11), .val (.int i12), .val (.int s0), x14]) d0_575 rfl rfl (own_stI (x := x13) rfl p13) ?_
        refine o_blk (pc' := 583) (st' := [(.int s0), (.int i9), (.ref (ad Z ca r6))]) (ls' := #[.val (.int i0), .val (.int i1), x2, x3, x4, x5, .val (.ref (ad Z ca r6)), x7, x8, .val (.int i9), x10, .val (.int i11), .val (.int i12), .val (.int s0), x14]) b0_577_583 rfl ?_
        obtain ⟨hb1, hM⟩ := own_ite hM
        obtain ⟨q2, hq2, hM⟩ := own_bind hM
        refine o_callV (W := 0) (argsL := [(.int i9), (.int s0)]) (rest := []) (pc' := 586) (own_word hw 165 rfl) (own_word hw 166 rfl) (own_word hw 168 rfl) (own_word hw 168 rfl) (own_word hw 167 rfl) (own_word hw 169 rfl) (own_word hw 7 rfl) (by decide) (R.exa (t := 0) hb1) (fun hE => rm_bel l Z a0 hw ca K H r6 i9 s0 q2 h hE R hq2) d0_583 pd_1 rfl rfl rfl (Nat.le_of_eq rfl) (by decide) (by decide) (by decide) (by decide) rfl ?_
        rintro _ h_q2 ⟨rfl, R_q2⟩ hs_q2
        refine o_stP (pc' := 588) (st' := []) (ls' := #[.val (.int i0), .val (.int i1), x2, x3, x4, x5, .val (.ref (ad Z ca r6)), x7, x8, .val (.int i9), x10, .val (.int i11), .val (.int i12), .val (.int s0), .val (.int q2.2)]) d0_586 rfl rfl (own_stI (x := x14) rfl p14) ?_
        refine o_blk (pc' := 594) (st' := [(.int i12), (.int i11), (.int q2.2)]) (ls' := #[.val (.int i0), .val (.int i1), x2, x3, x4, x5, .val (.ref (ad Z ca r6)), x7, x8, .val (.int i9), x10, .val (.int i11), .val (.int i12), .val (.int s0), .val (.int q2.2)]) b0_588_594 rfl ?_
        obtain ⟨q3, hq3, hM⟩ := own_bind hM
        refine o_callS (W := 0) (argsL := [(.int q2.2), (.int i11), (.int i12)]) (rest := []) (pc' := 597) (own_word hw 162 rfl) (own_word hw 163 rfl) (own_word hw 3 rfl) (own_word hw 164 rfl) (by decide) (fun hE => rm_ceno l Z a0 hw ca K q2.1 q2.2 i11 i12 q3 h_q2 hE R_q2 hq3) d0_594 pd_17 rfl rfl rfl (Nat.le_of_eq rfl) (by decide) (by decide) (by decide) (by decide) rfl ?_
        rintro _ h_q3 ⟨rfl, R_q3⟩ hs_q3
        obtain ⟨hb4, hM⟩ := own_ite hM
        cases hM
        exact o_retZ (w := 0) d0_597 (by decide) (by decide) rfl hb4 (congrArg (fun z => some (Value.int z)) hres)
  unfold M_law at hM
  refine o_blk (pc' := 3) (st' := [(.int (i0 &&& (1 : Int32)))]) (ls' := #[.val (.int i0), .val (.int i1), .unset, .unset, .unset, .unset, .unset, .unset, .unset, .unset, .unset, .unset, .unset, .unset, .unset]) b0_0_3 rfl ?_
  refine o_if (pc' := 10) (pc'' := 6) d0_3 (by decide) (by decide) rfl (fun (hc3_1 : (i0 &&& (1 : Int32)) = 0) => ?_) (fun (hc3_1 : ¬ (i0 &&& (1 : Int32)) = 0) => ?_)
  ·
    rw [if_pos (hbit_b1.mp hc3_1)] at hM
    refine o_blk (pc' := 11) (st' := [(.int (0 : Int32))]) (ls' := #[.val (.int i0), .val (.int i1), .unset, .unset, .unset, .unset, .unset, .unset, .unset, .unset, .unset, .unset, .unset, .unset, .unset]) b0_10_11 rfl ?_
    exact (LP 30).1 _ _ _ _ Pl.u _ Pl.u _ Pl.u _ Pl.u _ Pl.u _ Pl.u _ Pl.u _ Pl.u _ Pl.u _ Pl.u _ Pl.u _ Pl.u _ Pl.u R0 hM
  ·
    rw [if_neg (mt hbit_b1.mpr hc3_1)] at hM
    refine o_blk (pc' := 7) (st' := [(.int (1 : Int32))]) (ls' := #[.val (.int i0), .val (.int i1), .unset, .unset, .unset, .unset, .unset, .unset, .unset, .unset, .unset, .unset, .unset, .unset, .unset]) b0_6_7 rfl ?_
    refine o_goto (pc' := 11) d0_7 (by decide) (by decide) ?_
    exact (LP 30).1 _ _ _ _ Pl.u _ Pl.u _ Pl.u _ Pl.u _ Pl.u _ Pl.u _ Pl.u _ Pl.u _ Pl.u _ Pl.u _ Pl.u _ Pl.u _ Pl.u R0 hM
theorem own_len {s : State} {args : Array Value} {t : Term} {a : Addr} {cl : Cell} {z : Int32} (ev : t.eval args s none [] s = some (.ref a)) (ha : s.arrayAt? a = some cl) (e : (Term.length t).eval args s none [] s = some (.int z)) : cl.slots.size < 2 ^ 31 ∧ cl.slots.size.toInt32 = z := by
  simp [Term.eval, ev, ha] at e
  exact e
theorem own_bxs {s : State} {args : Array Value} {C D : String} {ca : Addr} {cc : Cell} (ev : (Term.static C "cache" D).eval args s none [] s = some (.ref ca)) (A : Arr s s.heap ca cc (.object "java/lang/Integer"))
    (hl : (Cond.eq (.length (.static C "cache" D)) (.int 256)).value args s none s [] = some true)
    (ha : (Cond.all (.static C "cache" D) (.and (.exactly (.elem (.static C "cache" D) (.index 0)) "java/lang/Integer") (.eq (.field (.elem (.static C "cache" D) (.index 0)) "java/lang/Integer" "value" "I") (.sub (.index 0) (.int 128))))).value args s none s [] = some true) :
    Bxs s ca cc "java/lang/Integer" "I" 256 (fun j => .int (j - 128)) := by
  have e1 := eqv_i (y := 256) rfl hl
  have q5 : s.arrayAt? ca = some cc := Arr.fin (Vm.Alike.refl _) A
  obtain ⟨q3, q4⟩ := own_len ev q5 e1
  exact Bxs.start (fun _ => ev) A q3 q4 (by decide) ha (fun X j hj h => eqv_i (by simp [Term.eval]; exact (back32 hj).1) h)
theorem own_initd {s : State} {args : Array Value} {C n d : String} (h1 : (Cond.laysStatic C n d).before args s = true) (h2 : (Cond.initializedFor C n d).before args s = true) : (Cond.initialized C).before args s = true := by
  obtain ⟨c, k, i, f, a, cell, q1, q2, -⟩ := Cond.laysStatic_spec h1
  have q3 := Cond.initializedFor_spec q2 h2
  have q4 := State.fieldFound?_class q2
  simp [Cond.before, Cond.holds, Cond.value, q1, q4, q3]
theorem own_oka {Z : State} {cb : Addr} {cc : Cell} (s1 : Sta Z Z.heap "java/lang/Integer$IntegerCache" "high" "I" (.int 127)) (s2 : Sta Z Z.heap "java/lang/Integer$IntegerCache" "cache" "[Ljava/lang/Integer;" (.ref cb)) (B : Bxs Z cb cc "java/lang/Integer" "I" 256 (fun j => .int (j - 128))) : ∃ ca, OKa Z ca := by
  have hsz : cc.slots.size = 256 := B.2.1
  have q : ∀ i : Nat, ∃ b : Addr, i < 256 → cc.slots[i]? = some (.ref b) ∧ Exa Z Z.heap b "java/lang/Integer" ∧ Fld Z Z.heap b "java/lang/Integer" "value" "I" (.int (Int32.ofNat i - 128)) := by
    intro i
    by_cases hi : i < 256
    · obtain ⟨e1, e2⟩ := own_clamp (i := i) (by omega)
      obtain ⟨b, q1, q2, q3⟩ := B.2.2.2 (Int32.ofNat i) (by rw [e2, hsz]; intro z; rcases z with z | z; exact e1 z; omega)
      rw [e2] at q1
      exact ⟨b, fun _ => ⟨q1, q2, q3⟩⟩
    · exact ⟨(0 : Nat), fun z => absurd z hi⟩
  obtain ⟨ca, hca⟩ := Classical.axiomOfChoice q
  exact ⟨ca, fun i hi => (hca i hi).2, cb, cc, s1, s2, B.1, hsz, fun i hi => (hca i hi).1⟩
theorem own_rep0 (Z : State) (ca : Nat → Addr) : Rep Z ca Z.heap [] := ⟨⟨Nat.le_refl _, fun _ _ q => q⟩, rfl, by decide, fun k o q => by cases k <;> cases q⟩
theorem own_bit (x y : Int32) : (x &&& y = 0) ↔ decide (x &&& y = 0) = true := by simp
theorem own_all : ∀ b1 b2 b3 b4 b5 : Bool, ((M_law [] b1 b2 b3 b4 b5).any fun r => r.2 == 1) = true := by decide +kernel
theorem own_some (b1 b2 b3 b4 b5 : Bool) : ∃ res, M_law [] b1 b2 b3 b4 b5 = some res ∧ res.2 = 1 := by
  have q := own_all b1 b2 b3 b4 b5
  cases hq : M_law [] b1 b2 b3 b4 b5 with
  | none => rw [hq] at q; cases q
  | some r => rw [hq] at q; exact ⟨r, rfl, by simpa using q⟩
set_option maxRecDepth 65536 in
set_option maxHeartbeats 40000000 in
theorem comes_1 {Post : Tables → Env → Array Value → State → Outcome → State → Prop} (hpost : ∀ tb e args s v u, (limb_1_1.after args s (.returned v) u = true ∧ limb_1_2.after args s (.returned v) u = true ∧ True) → FrameEnd s (.returned v) u (Jvm.fieldLocs frame_1_writes args s ++ Jvm.arrayLocs frame_1_arrays args s ++ Jvm.staticLocs frame_1_statics s) 88 448 → Post tb e args s (.returned v) u) :
    ArmFor flags0 classFile x code maxLocals ret World_1 tables_1 room_1 Calls_1 rest_1 Pre_1 Post := by
  intro l hfl _ _ p e ha hc hk s m args below hf hA hF happ hP
  obtain ⟨hcalls, hrest, hpre⟩ := hP
  obtain ⟨-, -, -, hnamed, -, -, -, hat⟩ := (Spec.applies_iff hf).mp happ
  obtain ⟨hg, hn⟩ := and_e (Cond.before_iff.mp (show (Jvm.Cond.and given_1 narrow_1).before args s = true from hpre))
  obtain ⟨g0, hg⟩ := and_e hg
  obtain ⟨k0, hg⟩ := and_e hg
  have k1 := hg
  obtain ⟨w0, w1, rfl⟩ : ∃ w0 w1 : Value, args = #[w0, w1] := by
    have hs : args.size = 2 := by simpa [Cond.value, given_1] using g0
    obtain ⟨L⟩ := args
    match L, hs with
    | [w0, w1], _ => exact ⟨w0, w1, rfl⟩
  have hw := fun d (hd : d ∈ tables_1) => atoms_spec (ws := Jvm.Cond.code x code maxLocals ret :: tables_1) hat d (List.mem_cons_of_mem _ hd)
  have hfit : Fit s := fun {y c} hc i hi => by
    obtain ⟨ha, rfl⟩ := Array.getElem?_eq_some_iff.mp hc
    have q := List.all_eq_true.mp ((Array.all_eq_true_iff_forall_mem.mp hF) _ (Array.getElem_mem ha)) i (List.mem_range.mpr hi)
    simpa [Array.getElem?_eq_getElem hi] using q
  obtain ⟨i0, e0⟩ := is_v k0
  obtain rfl : w0 = (.int i0) := Option.some.inj e0
  obtain ⟨i1, e1⟩ := is_v k1
  obtain rfl : w1 = (.int i1) := Option.some.inj e1
  obtain ⟨hsets, -⟩ := atoms_of jdkStatics_1 (show (jdkStatics_1.foldr Jvm.Cond.and restOwn_1).before _ s = true from by rw [← rest_1_c_eq]; exact hrest)
  have wS : ∀ (k : Nat) (d : Jvm.Cond), jdkStatics_1[k]? = some d → d.before _ s = true := fun k d q => hsets d (List.mem_of_getElem? q)
  have hini := own_initd (wS 0 _ rfl) (wS 1 _ rfl)
  have s1 := Sta.start (eqv_i (y := 127) rfl (Cond.before_iff.mp (wS 3 _ rfl))) (Or.inl (wS 1 _ rfl))
  obtain ⟨cb, ev⟩ := exa_v (Cond.before_iff.mp (wS 5 _ rfl))
  have s2 := Sta.start ev (Or.inr ⟨hini, wS 2 _ rfl⟩)
  obtain ⟨cc, Ac⟩ := Arr.start ev (Cond.before_iff.mp (wS 4 _ rfl))
  have hlen := Cond.before_iff.mp (wS 6 _ rfl)
  obtain ⟨ca, K⟩ := own_oka s1 s2 (own_bxs ev Ac hlen (Cond.before_iff.mp (wS 7 _ rfl)))
  obtain ⟨res, hres1, hres2⟩ := own_some (decide (i0 &&& 1 = 0)) (decide (i0 &&& 2 = 0)) (decide (i1 &&& 1 = 0)) (decide (i1 &&& 2 = 0)) (decide (i1 &&& 4 = 0))
  obtain ⟨n, o, h1, h2, h3, _, L, rfl, ⟨⟨rfl, _⟩, N⟩, hq⟩ := rm_law l s _ hw ca K [] i0 i1 _ _ _ _ _ res s.heap ⟨Nat.le_refl _, fun _ _ q => q⟩ (own_rep0 s ca) (own_bit i0 1) (own_bit i0 2) (own_bit i1 1) (own_bit i1 2) (own_bit i1 4) hres2 hres1 tables_1 p e ha hc hk s m _ below hf ((Spec.applies_iff_loose hf).mp happ).1 ⟨rfl, State.Warmed39.refl s, rfl⟩ trivial
  refine ⟨n, _, h1, h2, h3, hpost _ _ _ _ _ _ ⟨Cond.after_iff.mpr rfl, Cond.after_iff.mpr (eq_i res_at (Term.int_eval (1)) rfl), trivial⟩ ⟨hq.1, hq.2.1, (hq.2.2.sift fun y hy => Or.inr (N y hy)).mono (by decide) (by decide)⟩⟩
theorem main_1_1 : Claimed_1_1 := comes_1 fun _ _ _ _ _ _ h hF => ⟨h.1, hF⟩
theorem main_1_2 : Claimed_1_2 := comes_1 fun _ _ _ _ _ _ h hF => ⟨h.2.1, hF⟩
end Jvm.Pilot.@@N@@
namespace Jvm.Pilot.@@N@@
open Jvm Jvm.ClassFile Sem Op Lib Jvm.Free Jvm.Stand Jvm.Pilot.@@N@@.Jvm.D
/-! MADE BY PROGRAM (witnessworld.py) out of the Statement's table words and the real class files: 29 classes; the members and pool entries that the words name. The judged class is class 1, her method 3. -/
namespace start1
open Jvm.ClassFile
def u (s : String) : CpInfo := .utf8 (stringToUtf16 s)
/-- a pool by its gaps: so many unusable entries, then the entry; so many at the end -/
def gap : Nat → List CpInfo → List CpInfo
  | 0, r => r
  | n + 1, r => .unusable :: gap n r
def poolList (es : List (Nat × CpInfo)) (last : Nat) : List CpInfo := es.foldr (fun e r => gap e.1 (e.2 :: r)) (gap last [])
def pool (es : List (Nat × CpInfo)) (last : Nat) : Array CpInfo := ⟨poolList es last⟩
def fileOf (pool : Array CpInfo) (this : Nat) (attrs : Array Attribute := #[]) (ms : Array MethodInfo := #[]) (fl : Nat := 33) (sup : Nat := 0) (ifs : Array Nat := #[]) (fds : Array FieldInfo := #[]) : ClassFile where
  minorVersion := 0
  majorVersion := 65
  constantPool := pool
  accessFlags := fl
  thisClass := this
  superClass := sup
  interfaces := ifs
  fields := fds
  methods := ms
  attributes := attrs
def plain (name : String) (sup : Option ClassId) : Class where
  name := name
  kind := .ordinary
  loader := none
  accessFlags := 33
  super := sup
  interfaces := #[]
  cf := none
  fields := #[]
  methods := #[]
  instanceTypes := #[]
  staticTypes := #[]
  resolved := #[]
  callSites := []
  init := .initialized
  statics := none
  mirror := none

def pool0 : Array CpInfo := pool [(5, u "<init>"), (0, u "()V"), (1, .class_ 10), (1, u "java/lang/Object")] 113

def k0c0 : Code := { maxStack := 0, maxLocals := 1, code := object_method_1_code, exceptionTable := #[], attributes := #[] }
def k0m0 : Method := { name := "<init>", desc := "()V", sig := { parameters := [], returnType := none }, accessFlags := 1, code := some k0c0 }
/-- java/lang/Object -/
def k0 : Class := { plain "java/lang/Object" none with
  accessFlags := 33
  interfaces := #[]
  cf := some (fileOf pool0 8 #[] #[{ accessFlags := 1, nameIndex := 5, descriptorIndex := 6, attributes := #[] }] 33 0 #[] #[])
  fields := #[]
  methods := #[k0m0]
  instanceTypes := #[]
  staticTypes := #[]
  resolved := Array.replicate 124 none
  statics := none }

def pool1 : Array CpInfo := pool [(2, .class_ 4), (1, u "java/lang/Object"), (0, u "<init>"), (0, u "()V"), (0, .methodref 8 9), (0, .class_ 10), (0, .nameAndType 11 12), (0, u "com/example/mild_horn/mildhorn/translation/CentroidsBelowPinLaw"), (0, u "parentOf"), (0, u "(IIZ)I"), (0, .class_ 14), (0, u "com/example/mild_horn/mildhorn/translation/Centroids"), (0, .methodref 13 16), (0, .nameAndType 5 17), (0, u "([I)V"), (0, .methodref 13 19), (0, .nameAndType 20 21), (0, u "top"), (0, u "()I"), (0, .methodref 8 23), (0, .nameAndType 24 25), (0, u "centroidOf"), (0, u "(III)Z"), (0, .methodref 13 27), (0, .nameAndType 28 29), (0, u "below"), (0, u "(II)I"), (3, u "law"), (0, u "(II)Z")] 4

def k1m0 : Method := { name := "<init>", desc := "()V", sig := { parameters := [], returnType := none }, accessFlags := 1, code := none }
def k1c1 : Code := { maxStack := 3, maxLocals := 3, code := method_2_code, exceptionTable := #[], attributes := #[] }
def k1m1 : Method := { name := "parentOf", desc := "(IIZ)I", sig := { parameters := [.int, .int, .boolean], returnType := some .int }, accessFlags := 10, code := some k1c1 }
def k1c2 : Code := { maxStack := 2, maxLocals := 4, code := method_3_code, exceptionTable := #[], attributes := #[] }
def k1m2 : Method := { name := "centroidOf", desc := "(III)Z", sig := { parameters := [.int, .int, .int], returnType := some .boolean }, accessFlags := 10, code := some k1c2 }
def k1c3 : Code := { maxStack := 5, maxLocals := 15, code := code, exceptionTable := #[], attributes := #[] }
def k1m3 : Method := { name := "law", desc := "(II)Z", sig := { parameters := [.int, .int], returnType := some .boolean }, accessFlags := 9, code := some k1c3 }
/-- com/example/mild_horn/mildhorn/translation/CentroidsBelowPinLaw -/
def k1 : Class := { plain "com/example/mild_horn/mildhorn/translation/CentroidsBelowPinLaw" (some 0) with
  accessFlags := 49
  interfaces := #[]
  cf := some (fileOf pool1 8 #[] #[{ accessFlags := 1, nameIndex := 5, descriptorIndex := 6, attributes := #[] }, { accessFlags := 10, nameIndex := 11, descriptorIndex := 12, attributes := #[] }, { accessFlags := 10, nameIndex := 24, descriptorIndex := 25, attributes := #[] }, { accessFlags := 9, nameIndex := 33, descriptorIndex := 34, attributes := #[] }] 49 2 #[] #[])
  fields := #[]
  methods := #[k1m0, k1m1, k1m2, k1m3]
  instanceTypes := #[]
  staticTypes := #[]
  resolved := Array.replicate 39 none
  statics := none }

def pool2 : Array CpInfo := pool [(1, .methodref 2 3), (0, .class_ 4), (0, .nameAndType 5 6), (0, u "java/lang/Object"), (0, u "<init>"), (0, u "()V"), (0, .fieldref 8 9), (0, .class_ 10), (0, .nameAndType 11 12), (0, u "com/example/mild_horn/mildhorn/translation/Centroids"), (0, u "parents"), (0, u "[I"), (0, .methodref 8 14), (0, .nameAndType 15 16), (0, u "children"), (0, u "([I)[[I"), (0, .fieldref 8 18), (0, .nameAndType 15 19), (0, u "[[I"), (0, .methodref 8 21), (0, .nameAndType 22 23), (0, u "neighbours"), (0, u "([I[[I)[[I"), (0, .fieldref 8 25), (0, .nameAndType 22 19), (0, .fieldref 8 27), (0, .nameAndType 28 12), (0, u "first"), (0, .fieldref 8 30), (0, .nameAndType 31 12), (0, u "last"), (0, .fieldref 8 33), (0, .nameAndType 34 12), (0, u "after"), (0, .methodref 8 36), (0, .nameAndType 37 38), (0, u "number"), (0, u "(I)V"), (0, .methodref 8 40), (0, .nameAndType 41 42), (0, u "decompose"), (0, u "(I)I"), (0, .fieldref 8 44), (0, .nameAndType 45 46), (0, u "top"), (0, u "I"), (0, .class_ 12), (0, .class_ 49), (0, u "java/util/ArrayDeque"), (0, .methodref 48 3), (0, .methodref 52 53), (0, .class_ 54), (0, .nameAndType 55 56), (0, u "java/lang/Integer"), (0, u "valueOf"), (0, u "(I)Ljava/lang/Integer;"), (0, .interfaceMethodref 58 59), (0, .class_ 60), (0, .nameAndType 61 62), (0, u "java/util/Deque"), (0, u "push"), (0, u "(Ljava/lang/Object;)V"), (0, .interfaceMethodref 58 64), (0, .nameAndType 65 66), (0, u "isEmpty"), (0, u "()Z"), (0, .interfaceMethodref 58 68), (0, .nameAndType 69 70), (0, u "pop"), (0, u "()Ljava/lang/Object;"), (0, .methodref 52 72), (0, .nameAndType 73 74), (0, u "intValue"), (0, u "()I"), (0, .methodref 76 77), (0, .class_ 78), (0, .nameAndType 79 80), (0, u "java/lang/Math"), (0, u "max"), (0, u "(II)I"), (0, .methodref 8 82), (0, .nameAndType 83 84), (0, u "reach"), (0, u "(I[Z[I[I)I"), (0, .methodref 8 86), (0, .nameAndType 87 88), (0, u "heaviest"), (0, u "(II[Z[I[I)I"), (0, .methodref 90 91), (0, .class_ 92), (0, .nameAndType 93 94), (0, u "java/util/Arrays"), (0, u "copyOf"), (0, u "([II)[I"), (0, u "([I)V"), (3, u "below")] 7

def k2c0 : Code := { maxStack := 3, maxLocals := 3, code := prog_40_method_1_code, exceptionTable := #[], attributes := #[] }
def k2m0 : Method := { name := "<init>", desc := "([I)V", sig := { parameters := [(.array .int)], returnType := none }, accessFlags := 0, code := some k2c0 }
def k2c1 : Code := { maxStack := 1, maxLocals := 1, code := prog_40_method_2_code, exceptionTable := #[], attributes := #[] }
def k2m1 : Method := { name := "top", desc := "()I", sig := { parameters := [], returnType := some .int }, accessFlags := 0, code := some k2c1 }
def k2c2 : Code := { maxStack := 2, maxLocals := 4, code := prog_40_method_3_code, exceptionTable := #[], attributes := #[] }
def k2m2 : Method := { name := "below", desc := "(II)I", sig := { parameters := [.int, .int], returnType := some .int }, accessFlags := 0, code := some k2c2 }
def k2c3 : Code := { maxStack := 6, maxLocals := 6, code := prog_40_method_6_code, exceptionTable := #[], attributes := #[] }
def k2m3 : Method := { name := "children", desc := "([I)[[I", sig := { parameters := [(.array .int)], returnType := some (.array (.array .int)) }, accessFlags := 10, code := some k2c3 }
def k2c4 : Code := { maxStack := 5, maxLocals := 7, code := prog_40_method_7_code, exceptionTable := #[], attributes := #[] }
def k2m4 : Method := { name := "number", desc := "(I)V", sig := { parameters := [.int], returnType := none }, accessFlags := 2, code := some k2c4 }
def k2c5 : Code := { maxStack := 6, maxLocals := 16, code := prog_40_method_8_code, exceptionTable := #[], attributes := #[] }
def k2m5 : Method := { name := "decompose", desc := "(I)I", sig := { parameters := [.int], returnType := some .int }, accessFlags := 2, code := some k2c5 }
def k2c6 : Code := { maxStack := 3, maxLocals := 12, code := prog_40_method_9_code, exceptionTable := #[], attributes := #[] }
def k2m6 : Method := { name := "reach", desc := "(I[Z[I[I)I", sig := { parameters := [.int, (.array .boolean), (.array .int), (.array .int)], returnType := some .int }, accessFlags := 2, code := some k2c6 }
def k2c7 : Code := { maxStack := 3, maxLocals := 12, code := prog_40_method_10_code, exceptionTable := #[], attributes := #[] }
def k2m7 : Method := { name := "heaviest", desc := "(II[Z[I[I)I", sig := { parameters := [.int, .int, (.array .boolean), (.array .int), (.array .int)], returnType := some .int }, accessFlags := 2, code := some k2c7 }
def k2c8 : Code := { maxStack := 5, maxLocals := 5, code := prog_40_method_11_code, exceptionTable := #[], attributes := #[] }
def k2m8 : Method := { name := "neighbours", desc := "([I[[I)[[I", sig := { parameters := [(.array .int), (.array (.array .int))], returnType := some (.array (.array .int)) }, accessFlags := 10, code := some k2c8 }
/-- com/example/mild_horn/mildhorn/translation/Centroids -/
def k2 : Class := { plain "com/example/mild_horn/mildhorn/translation/Centroids" (some 0) with
  accessFlags := 48
  interfaces := #[]
  cf := some (fileOf pool2 8 #[] #[{ accessFlags := 0, nameIndex := 5, descriptorIndex := 95, attributes := #[] }, { accessFlags := 0, nameIndex := 45, descriptorIndex := 74, attributes := #[] }, { accessFlags := 0, nameIndex := 99, descriptorIndex := 80, attributes := #[] }, { accessFlags := 10, nameIndex := 15, descriptorIndex := 16, attributes := #[] }, { accessFlags := 2, nameIndex := 37, descriptorIndex := 38, attributes := #[] }, { accessFlags := 2, nameIndex := 41, descriptorIndex := 42, attributes := #[] }, { accessFlags := 2, nameIndex := 83, descriptorIndex := 84, attributes := #[] }, { accessFlags := 2, nameIndex := 87, descriptorIndex := 88, attributes := #[] }, { accessFlags := 10, nameIndex := 22, descriptorIndex := 23, attributes := #[] }] 48 2 #[] #[{ accessFlags := 18, nameIndex := 11, descriptorIndex := 12, attributes := #[] }, { accessFlags := 18, nameIndex := 15, descriptorIndex := 19, attributes := #[] }, { accessFlags := 18, nameIndex := 22, descriptorIndex := 19, attributes := #[] }, { accessFlags := 18, nameIndex := 28, descriptorIndex := 12, attributes := #[] }, { accessFlags := 18, nameIndex := 31, descriptorIndex := 12, attributes := #[] }, { accessFlags := 18, nameIndex := 34, descriptorIndex := 12, attributes := #[] }, { accessFlags := 18, nameIndex := 45, descriptorIndex := 46, attributes := #[] }])
  fields := #[{ name := "parents", type := (.array .int), accessFlags := 18, slot := 0, constantValue := 0 }, { name := "children", type := (.array (.array .int)), accessFlags := 18, slot := 1, constantValue := 0 }, { name := "neighbours", type := (.array (.array .int)), accessFlags := 18, slot := 2, constantValue := 0 }, { name := "first", type := (.array .int), accessFlags := 18, slot := 3, constantValue := 0 }, { name := "last", type := (.array .int), accessFlags := 18, slot := 4, constantValue := 0 }, { name := "after", type := (.array .int), accessFlags := 18, slot := 5, constantValue := 0 }, { name := "top", type := .int, accessFlags := 18, slot := 6, constantValue := 0 }]
  methods := #[k2m0, k2m1, k2m2, k2m3, k2m4, k2m5, k2m6, k2m7, k2m8]
  instanceTypes := #[(.array .int), (.array (.array .int)), (.array (.array .int)), (.array .int), (.array .int), (.array .int), .int]
  staticTypes := #[]
  resolved := Array.replicate 107 none
  statics := none }

def pool3 : Array CpInfo := pool [(2, .class_ 4), (1, u "java/lang/Object"), (0, u "<init>"), (0, u "()V"), (7, .class_ 16), (1, u "java/util/Arrays"), (57, .class_ 76), (1, u "java/util/Arrays$NaturalOrder"), (36, .class_ 115), (1, u "java/util/Arrays$LegacyMergeSort"), (1, u "Z"), (32, .methodref 151 152), (0, .class_ 153), (0, .nameAndType 154 155), (0, u "java/lang/System"), (0, u "arraycopy"), (0, u "(Ljava/lang/Object;ILjava/lang/Object;II)V"), (146, u "copyOf"), (1, .methodref 305 306), (0, .class_ 307), (0, .nameAndType 308 309), (0, u "java/lang/Math"), (0, u "min"), (0, u "(II)I"), (65, .class_ 376), (0, u "java/util/Arrays$ArrayList"), (68, u "$assertionsDisabled"), (269, u "MIN_ARRAY_SORT_GRAN"), (0, u "I"), (2, u "INSERTIONSORT_THRESHOLD"), (151, u "([II)[I"), (103, .class_ 976), (0, u "java/util/Arrays$ArrayItr")] 52

def k3m0 : Method := { name := "<init>", desc := "()V", sig := { parameters := [], returnType := none }, accessFlags := 2, code := none }
def k3c1 : Code := { maxStack := 6, maxLocals := 3, code := jdk_65_method_123_code, exceptionTable := #[], attributes := #[] }
def k3m1 : Method := { name := "copyOf", desc := "([II)[I", sig := { parameters := [(.array .int), .int], returnType := some (.array .int) }, accessFlags := 9, code := some k3c1 }
/-- java/util/Arrays -/
def k3 : Class := { plain "java/util/Arrays" (some 0) with
  accessFlags := 49
  interfaces := #[]
  cf := some (fileOf pool3 14 #[.nestMembers #[975, 375, 113, 74]] #[{ accessFlags := 2, nameIndex := 5, descriptorIndex := 6, attributes := #[] }, { accessFlags := 9, nameIndex := 302, descriptorIndex := 871, attributes := #[] }] 49 2 #[] #[{ accessFlags := 26, nameIndex := 715, descriptorIndex := 716, attributes := #[] }, { accessFlags := 26, nameIndex := 719, descriptorIndex := 716, attributes := #[] }, { accessFlags := 4120, nameIndex := 445, descriptorIndex := 117, attributes := #[] }])
  fields := #[{ name := "MIN_ARRAY_SORT_GRAN", type := .int, accessFlags := 26, slot := 0, constantValue := 0 }, { name := "INSERTIONSORT_THRESHOLD", type := .int, accessFlags := 26, slot := 1, constantValue := 0 }, { name := "$assertionsDisabled", type := .boolean, accessFlags := 4120, slot := 2, constantValue := 0 }]
  methods := #[k3m0, k3m1]
  instanceTypes := #[]
  staticTypes := #[.int, .int, .boolean]
  resolved := Array.replicate 1029 none
  statics := none }

def pool4 : Array CpInfo := pool [(1, .class_ 2), (0, u "java/lang/Math"), (1, .class_ 6), (1, u "java/lang/Object"), (0, u "<init>"), (0, u "()V"), (89, .class_ 100), (1, u "java/lang/Math$RandomNumberGeneratorHolder"), (71, u "negativeZeroFloatBits"), (0, u "J"), (2, u "negativeZeroDoubleBits"), (21, u "max"), (2, u "min"), (43, u "$assertionsDisabled"), (0, u "Z"), (88, u "(II)I"), (2, u "twoToTheDoubleScaleDown"), (0, u "D"), (4, u "twoToTheDoubleScaleUp"), (9, u "E"), (3, u "PI"), (2, u "TAU"), (2, u "DEGREES_TO_RADIANS"), (0, u "RADIANS_TO_DEGREES")] 94

def k4m0 : Method := { name := "<init>", desc := "()V", sig := { parameters := [], returnType := none }, accessFlags := 2, code := none }
def k4c1 : Code := { maxStack := 2, maxLocals := 2, code := jdk_29_method_65_code, exceptionTable := #[], attributes := #[] }
def k4m1 : Method := { name := "max", desc := "(II)I", sig := { parameters := [.int, .int], returnType := some .int }, accessFlags := 9, code := some k4c1 }
def k4c2 : Code := { maxStack := 2, maxLocals := 2, code := jdk_29_method_69_code, exceptionTable := #[], attributes := #[] }
def k4m2 : Method := { name := "min", desc := "(II)I", sig := { parameters := [.int, .int], returnType := some .int }, accessFlags := 9, code := some k4c2 }
/-- java/lang/Math -/
def k4 : Class := { plain "java/lang/Math" (some 0) with
  accessFlags := 49
  interfaces := #[]
  cf := some (fileOf pool4 1 #[.nestMembers #[98]] #[{ accessFlags := 2, nameIndex := 7, descriptorIndex := 8, attributes := #[] }, { accessFlags := 9, nameIndex := 198, descriptorIndex := 335, attributes := #[] }, { accessFlags := 9, nameIndex := 201, descriptorIndex := 335, attributes := #[] }] 49 4 #[] #[{ accessFlags := 25, nameIndex := 354, descriptorIndex := 339, attributes := #[] }, { accessFlags := 25, nameIndex := 358, descriptorIndex := 339, attributes := #[] }, { accessFlags := 25, nameIndex := 361, descriptorIndex := 339, attributes := #[] }, { accessFlags := 26, nameIndex := 364, descriptorIndex := 339, attributes := #[] }, { accessFlags := 26, nameIndex := 365, descriptorIndex := 339, attributes := #[] }, { accessFlags := 26, nameIndex := 172, descriptorIndex := 173, attributes := #[] }, { accessFlags := 26, nameIndex := 176, descriptorIndex := 173, attributes := #[] }, { accessFlags := 8, nameIndex := 344, descriptorIndex := 339, attributes := #[] }, { accessFlags := 8, nameIndex := 338, descriptorIndex := 339, attributes := #[] }, { accessFlags := 4120, nameIndex := 245, descriptorIndex := 246, attributes := #[] }])
  fields := #[{ name := "E", type := .double, accessFlags := 25, slot := 0, constantValue := 0 }, { name := "PI", type := .double, accessFlags := 25, slot := 1, constantValue := 0 }, { name := "TAU", type := .double, accessFlags := 25, slot := 2, constantValue := 0 }, { name := "DEGREES_TO_RADIANS", type := .double, accessFlags := 26, slot := 3, constantValue := 0 }, { name := "RADIANS_TO_DEGREES", type := .double, accessFlags := 26, slot := 4, constantValue := 0 }, { name := "negativeZeroFloatBits", type := .long, accessFlags := 26, slot := 5, constantValue := 0 }, { name := "negativeZeroDoubleBits", type := .long, accessFlags := 26, slot := 6, constantValue := 0 }, { name := "twoToTheDoubleScaleUp", type := .double, accessFlags := 8, slot := 7, constantValue := 0 }, { name := "twoToTheDoubleScaleDown", type := .double, accessFlags := 8, slot := 8, constantValue := 0 }, { name := "$assertionsDisabled", type := .boolean, accessFlags := 4120, slot := 9, constantValue := 0 }]
  methods := #[k4m0, k4m1, k4m2]
  instanceTypes := #[]
  staticTypes := #[.double, .double, .double, .double, .double, .long, .long, .double, .double, .boolean]
  resolved := Array.replicate 460 none
  statics := none }

def pool5 : Array CpInfo := pool [(2, .class_ 4), (1, u "java/lang/Object"), (0, u "<init>"), (0, u "()V"), (1, .class_ 10), (1, u "java/lang/System"), (0, u "allowSecurityManager"), (0, u "I"), (16, u "cons"), (0, u "Ljava/io/Console;"), (77, .class_ 110), (1, u "java/lang/System$CallersHolder"), (43, u "initialErrStream"), (0, u "Ljava/io/PrintStream;"), (19, u "security"), (0, u "Ljava/lang/SecurityManager;"), (31, .class_ 209), (0, u "java/lang/System$1"), (7, u "props"), (0, u "Ljava/util/Properties;"), (2, u "lineSeparator"), (0, u "Ljava/lang/String;"), (96, .class_ 321), (1, u "java/lang/System$LoggerFinder"), (5, .class_ 328), (0, u "java/lang/System$Logger"), (67, u "err"), (2, u "out"), (91, u "notSupportedJnuEncoding"), (15, u "in"), (17, u "initialIn"), (0, u "Ljava/io/InputStream;"), (35, u "bootLayer"), (0, u "Ljava/lang/ModuleLayer;"), (99, .class_ 664), (0, u "java/lang/System$2"), (9, u "NEVER"), (2, u "MAYBE"), (49, u "arraycopy"), (0, u "(Ljava/lang/Object;ILjava/lang/Object;II)V"), (72, .class_ 802), (0, u "java/lang/System$Logger$Level")] 31

def k5m0 : Method := { name := "<init>", desc := "()V", sig := { parameters := [], returnType := none }, accessFlags := 2, code := none }
def k5m1 : Method := { name := "arraycopy", desc := "(Ljava/lang/Object;ILjava/lang/Object;II)V", sig := { parameters := [(.object "java/lang/Object"), .int, (.object "java/lang/Object"), .int, .int], returnType := none }, accessFlags := 265, code := none }
/-- java/lang/System -/
def k5 : Class := { plain "java/lang/System" (some 0) with
  accessFlags := 49
  interfaces := #[]
  cf := some (fileOf pool5 8 #[.nestMembers #[319, 327, 801, 108, 663, 208]] #[{ accessFlags := 2, nameIndex := 5, descriptorIndex := 6, attributes := #[] }, { accessFlags := 265, nameIndex := 727, descriptorIndex := 728, attributes := #[] }] 49 2 #[] #[{ accessFlags := 25, nameIndex := 507, descriptorIndex := 526, attributes := #[] }, { accessFlags := 25, nameIndex := 399, descriptorIndex := 155, attributes := #[] }, { accessFlags := 25, nameIndex := 396, descriptorIndex := 155, attributes := #[] }, { accessFlags := 10, nameIndex := 525, descriptorIndex := 526, attributes := #[] }, { accessFlags := 26, nameIndex := 674, descriptorIndex := 12, attributes := #[] }, { accessFlags := 26, nameIndex := 677, descriptorIndex := 12, attributes := #[] }, { accessFlags := 10, nameIndex := 11, descriptorIndex := 12, attributes := #[] }, { accessFlags := 74, nameIndex := 175, descriptorIndex := 176, attributes := #[] }, { accessFlags := 10, nameIndex := 491, descriptorIndex := 222, attributes := #[] }, { accessFlags := 74, nameIndex := 29, descriptorIndex := 30, attributes := #[] }, { accessFlags := 74, nameIndex := 154, descriptorIndex := 155, attributes := #[] }, { accessFlags := 10, nameIndex := 217, descriptorIndex := 218, attributes := #[] }, { accessFlags := 10, nameIndex := 221, descriptorIndex := 222, attributes := #[] }, { accessFlags := 8, nameIndex := 562, descriptorIndex := 563, attributes := #[] }])
  fields := #[{ name := "in", type := (.object "java/io/InputStream"), accessFlags := 25, slot := 0, constantValue := 0 }, { name := "out", type := (.object "java/io/PrintStream"), accessFlags := 25, slot := 1, constantValue := 0 }, { name := "err", type := (.object "java/io/PrintStream"), accessFlags := 25, slot := 2, constantValue := 0 }, { name := "initialIn", type := (.object "java/io/InputStream"), accessFlags := 10, slot := 3, constantValue := 0 }, { name := "NEVER", type := .int, accessFlags := 26, slot := 4, constantValue := 0 }, { name := "MAYBE", type := .int, accessFlags := 26, slot := 5, constantValue := 0 }, { name := "allowSecurityManager", type := .int, accessFlags := 10, slot := 6, constantValue := 0 }, { name := "security", type := (.object "java/lang/SecurityManager"), accessFlags := 74, slot := 7, constantValue := 0 }, { name := "notSupportedJnuEncoding", type := (.object "java/lang/String"), accessFlags := 10, slot := 8, constantValue := 0 }, { name := "cons", type := (.object "java/io/Console"), accessFlags := 74, slot := 9, constantValue := 0 }, { name := "initialErrStream", type := (.object "java/io/PrintStream"), accessFlags := 74, slot := 10, constantValue := 0 }, { name := "props", type := (.object "java/util/Properties"), accessFlags := 10, slot := 11, constantValue := 0 }, { name := "lineSeparator", type := (.object "java/lang/String"), accessFlags := 10, slot := 12, constantValue := 0 }, { name := "bootLayer", type := (.object "java/lang/ModuleLayer"), accessFlags := 8, slot := 13, constantValue := 0 }]
  methods := #[k5m0, k5m1]
  instanceTypes := #[]
  staticTypes := #[(.object "java/io/InputStream"), (.object "java/io/PrintStream"), (.object "java/io/PrintStream"), (.object "java/io/InputStream"), .int, .int, .int, (.object "java/lang/SecurityManager"), (.object "java/lang/String"), (.object "java/io/Console"), (.object "java/io/PrintStream"), (.object "java/util/Properties"), (.object "java/lang/String"), (.object "java/lang/ModuleLayer")]
  resolved := Array.replicate 834 none
  statics := none }

def pool6 : Array CpInfo := pool [(8, .class_ 10), (1, u "java/lang/Iterable"), (24, .class_ 36), (0, u "java/lang/Object")] 25

/-- java/lang/Iterable -/
def k6 : Class := { plain "java/lang/Iterable" (some 0) with
  accessFlags := 1537
  interfaces := #[]
  cf := some (fileOf pool6 8 #[] #[] 1537 35 #[] #[])
  fields := #[]
  methods := #[]
  instanceTypes := #[]
  staticTypes := #[]
  resolved := Array.replicate 62 none
  statics := none }

def pool7 : Array CpInfo := pool [(10, .class_ 12), (1, u "java/util/Collection"), (17, u "()Z"), (29, .class_ 61), (0, u "java/lang/Object"), (0, .class_ 63), (0, u "java/lang/Iterable"), (2, u "isEmpty")] 48

def k7m0 : Method := { name := "isEmpty", desc := "()Z", sig := { parameters := [], returnType := some .boolean }, accessFlags := 1025, code := none }
/-- java/util/Collection -/
def k7 : Class := { plain "java/util/Collection" (some 0) with
  accessFlags := 1537
  interfaces := #[6]
  cf := some (fileOf pool7 10 #[] #[{ accessFlags := 1025, nameIndex := 66, descriptorIndex := 30, attributes := #[] }] 1537 60 #[62] #[])
  fields := #[]
  methods := #[k7m0]
  instanceTypes := #[]
  staticTypes := #[]
  resolved := Array.replicate 115 none
  statics := none }

def pool8 : Array CpInfo := pool [(1, .methodref 2 3), (0, .class_ 4), (0, .nameAndType 5 6), (0, u "java/lang/Object"), (0, u "<init>"), (0, u "()V"), (1, .class_ 10), (1, u "java/util/AbstractCollection"), (66, .class_ 78), (0, u "java/util/Collection")] 81

def k8c0 : Code := { maxStack := 1, maxLocals := 1, code := jdk_22_method_1_code, exceptionTable := #[], attributes := #[] }
def k8m0 : Method := { name := "<init>", desc := "()V", sig := { parameters := [], returnType := none }, accessFlags := 4, code := some k8c0 }
/-- java/util/AbstractCollection -/
def k8 : Class := { plain "java/util/AbstractCollection" (some 0) with
  accessFlags := 1057
  interfaces := #[7]
  cf := some (fileOf pool8 8 #[] #[{ accessFlags := 4, nameIndex := 5, descriptorIndex := 6, attributes := #[] }] 1057 2 #[77] #[])
  fields := #[]
  methods := #[k8m0]
  instanceTypes := #[]
  staticTypes := #[]
  resolved := Array.replicate 160 none
  statics := none }

def pool9 : Array CpInfo := pool [(1, .class_ 2), (0, u "java/util/Queue"), (0, .class_ 4), (0, u "java/lang/Object"), (0, .class_ 6), (0, u "java/util/Collection")] 14

/-- java/util/Queue -/
def k9 : Class := { plain "java/util/Queue" (some 0) with
  accessFlags := 1537
  interfaces := #[7]
  cf := some (fileOf pool9 1 #[] #[] 1537 3 #[5] #[])
  fields := #[]
  methods := #[]
  instanceTypes := #[]
  staticTypes := #[]
  resolved := Array.replicate 21 none
  statics := none }

def pool10 : Array CpInfo := pool [(8, .class_ 10), (1, u "java/util/SequencedCollection"), (15, .class_ 27), (0, u "java/lang/Object"), (0, .class_ 29), (0, u "java/util/Collection")] 27

/-- java/util/SequencedCollection -/
def k10 : Class := { plain "java/util/SequencedCollection" (some 0) with
  accessFlags := 1537
  interfaces := #[7]
  cf := some (fileOf pool10 8 #[] #[] 1537 26 #[28] #[])
  fields := #[]
  methods := #[]
  instanceTypes := #[]
  staticTypes := #[]
  resolved := Array.replicate 57 none
  statics := none }

def pool11 : Array CpInfo := pool [(8, .class_ 10), (1, u "java/util/Deque"), (2, .class_ 14), (0, u "java/lang/Object"), (0, .class_ 16), (0, u "java/util/Queue"), (0, .class_ 18), (0, u "java/util/SequencedCollection"), (1, u "(Ljava/lang/Object;)V"), (8, u "()Ljava/lang/Object;"), (19, u "push"), (0, u "pop")] 19

def k11m0 : Method := { name := "push", desc := "(Ljava/lang/Object;)V", sig := { parameters := [(.object "java/lang/Object")], returnType := none }, accessFlags := 1025, code := none }
def k11m1 : Method := { name := "pop", desc := "()Ljava/lang/Object;", sig := { parameters := [], returnType := some (.object "java/lang/Object") }, accessFlags := 1025, code := none }
/-- java/util/Deque -/
def k11 : Class := { plain "java/util/Deque" (some 0) with
  accessFlags := 1537
  interfaces := #[9, 10]
  cf := some (fileOf pool11 8 #[] #[{ accessFlags := 1025, nameIndex := 49, descriptorIndex := 20, attributes := #[] }, { accessFlags := 1025, nameIndex := 50, descriptorIndex := 29, attributes := #[] }] 1537 13 #[15, 17] #[])
  fields := #[]
  methods := #[k11m0, k11m1]
  instanceTypes := #[]
  staticTypes := #[]
  resolved := Array.replicate 70 none
  statics := none }

def pool12 : Array CpInfo := pool [(1, .class_ 2), (0, u "java/lang/Cloneable"), (0, .class_ 4), (0, u "java/lang/Object")] 2

/-- java/lang/Cloneable -/
def k12 : Class := { plain "java/lang/Cloneable" (some 0) with
  accessFlags := 1537
  interfaces := #[]
  cf := some (fileOf pool12 1 #[] #[] 1537 3 #[] #[])
  fields := #[]
  methods := #[]
  instanceTypes := #[]
  staticTypes := #[]
  resolved := Array.replicate 7 none
  statics := none }

def pool13 : Array CpInfo := pool [(1, .class_ 2), (0, u "java/io/Serializable"), (0, .class_ 4), (0, u "java/lang/Object")] 2

/-- java/io/Serializable -/
def k13 : Class := { plain "java/io/Serializable" (some 0) with
  accessFlags := 1537
  interfaces := #[]
  cf := some (fileOf pool13 1 #[] #[] 1537 3 #[] #[])
  fields := #[]
  methods := #[]
  instanceTypes := #[]
  staticTypes := #[]
  resolved := Array.replicate 7 none
  statics := none }

def pool14 : Array CpInfo := pool [(3, .fieldref 4 5), (0, .class_ 6), (0, .nameAndType 7 8), (0, u "java/util/ArrayDeque"), (0, u "elements"), (0, u "[Ljava/lang/Object;"), (4, u "(II)I"), (6, .fieldref 4 21), (0, .nameAndType 22 23), (0, u "tail"), (0, u "I"), (0, .fieldref 4 25), (0, .nameAndType 26 23), (0, u "head"), (12, u "<init>"), (2, .methodref 43 44), (0, .class_ 45), (0, .nameAndType 39 46), (0, u "java/util/AbstractCollection"), (0, u "()V"), (0, .class_ 48), (0, u "java/lang/Object"), (19, .methodref 4 69), (0, .nameAndType 70 13), (0, u "dec"), (3, .methodref 4 75), (0, .nameAndType 76 13), (0, u "inc"), (9, .methodref 4 87), (0, .nameAndType 88 89), (0, u "addFirst"), (0, u "(Ljava/lang/Object;)V"), (3, .methodref 4 94), (0, .nameAndType 95 96), (0, u "pollFirst"), (0, u "()Ljava/lang/Object;"), (6, .methodref 4 104), (0, .nameAndType 105 106), (0, u "elementAt"), (0, u "([Ljava/lang/Object;I)Ljava/lang/Object;"), (11, .methodref 4 119), (0, .nameAndType 120 96), (0, u "removeFirst"), (10, .class_ 132), (0, u "java/util/ArrayDeque$DeqIterator"), (3, .class_ 137), (0, u "java/util/ArrayDeque$DescendingIterator"), (1, .class_ 140), (0, u "java/util/ArrayDeque$DeqSpliterator"), (137, .class_ 279), (0, u "java/util/Deque"), (0, .class_ 281), (0, u "java/lang/Cloneable"), (0, .class_ 283), (0, u "java/io/Serializable"), (0, u "MAX_ARRAY_SIZE"), (1, u "serialVersionUID"), (0, u "J"), (54, u "push"), (0, u "pop"), (3, u "isEmpty"), (0, u "()Z")] 89

def k14c0 : Code := { maxStack := 2, maxLocals := 1, code := jdk_21_method_3_code, exceptionTable := #[], attributes := #[] }
def k14m0 : Method := { name := "<init>", desc := "()V", sig := { parameters := [], returnType := none }, accessFlags := 1, code := some k14c0 }
def k14c1 : Code := { maxStack := 2, maxLocals := 2, code := jdk_21_method_6_code, exceptionTable := #[], attributes := #[] }
def k14m1 : Method := { name := "inc", desc := "(II)I", sig := { parameters := [.int, .int], returnType := some .int }, accessFlags := 24, code := some k14c1 }
def k14c2 : Code := { maxStack := 2, maxLocals := 2, code := jdk_21_method_7_code, exceptionTable := #[], attributes := #[] }
def k14m2 : Method := { name := "dec", desc := "(II)I", sig := { parameters := [.int, .int], returnType := some .int }, accessFlags := 24, code := some k14c2 }
def k14c3 : Code := { maxStack := 2, maxLocals := 2, code := jdk_21_method_10_code, exceptionTable := #[], attributes := #[] }
def k14m3 : Method := { name := "elementAt", desc := "([Ljava/lang/Object;I)Ljava/lang/Object;", sig := { parameters := [(.array (.object "java/lang/Object")), .int], returnType := some (.object "java/lang/Object") }, accessFlags := 24, code := some k14c3 }
def k14c4 : Code := { maxStack := 4, maxLocals := 3, code := jdk_21_method_12_code, exceptionTable := #[], attributes := #[] }
def k14m4 : Method := { name := "addFirst", desc := "(Ljava/lang/Object;)V", sig := { parameters := [(.object "java/lang/Object")], returnType := none }, accessFlags := 1, code := some k14c4 }
def k14c5 : Code := { maxStack := 2, maxLocals := 2, code := jdk_21_method_18_code, exceptionTable := #[], attributes := #[] }
def k14m5 : Method := { name := "removeFirst", desc := "()Ljava/lang/Object;", sig := { parameters := [], returnType := some (.object "java/lang/Object") }, accessFlags := 1, code := some k14c5 }
def k14c6 : Code := { maxStack := 3, maxLocals := 4, code := jdk_21_method_20_code, exceptionTable := #[], attributes := #[] }
def k14m6 : Method := { name := "pollFirst", desc := "()Ljava/lang/Object;", sig := { parameters := [], returnType := some (.object "java/lang/Object") }, accessFlags := 1, code := some k14c6 }
def k14c7 : Code := { maxStack := 2, maxLocals := 2, code := jdk_21_method_34_code, exceptionTable := #[], attributes := #[] }
def k14m7 : Method := { name := "push", desc := "(Ljava/lang/Object;)V", sig := { parameters := [(.object "java/lang/Object")], returnType := none }, accessFlags := 1, code := some k14c7 }
def k14c8 : Code := { maxStack := 1, maxLocals := 1, code := jdk_21_method_35_code, exceptionTable := #[], attributes := #[] }
def k14m8 : Method := { name := "pop", desc := "()Ljava/lang/Object;", sig := { parameters := [], returnType := some (.object "java/lang/Object") }, accessFlags := 1, code := some k14c8 }
def k14c9 : Code := { maxStack := 2, maxLocals := 1, code := jdk_21_method_38_code, exceptionTable := #[], attributes := #[] }
def k14m9 : Method := { name := "isEmpty", desc := "()Z", sig := { parameters := [], returnType := some .boolean }, accessFlags := 1, code := some k14c9 }
/-- java/util/ArrayDeque -/
def k14 : Class := { plain "java/util/ArrayDeque" (some 8) with
  accessFlags := 33
  interfaces := #[11, 12, 13]
  cf := some (fileOf pool14 4 #[.nestMembers #[139, 136, 131]] #[{ accessFlags := 1, nameIndex := 39, descriptorIndex := 46, attributes := #[] }, { accessFlags := 24, nameIndex := 76, descriptorIndex := 13, attributes := #[] }, { accessFlags := 24, nameIndex := 70, descriptorIndex := 13, attributes := #[] }, { accessFlags := 24, nameIndex := 105, descriptorIndex := 106, attributes := #[] }, { accessFlags := 1, nameIndex := 88, descriptorIndex := 89, attributes := #[] }, { accessFlags := 1, nameIndex := 120, descriptorIndex := 96, attributes := #[] }, { accessFlags := 1, nameIndex := 95, descriptorIndex := 96, attributes := #[] }, { accessFlags := 1, nameIndex := 342, descriptorIndex := 89, attributes := #[] }, { accessFlags := 1, nameIndex := 343, descriptorIndex := 96, attributes := #[] }, { accessFlags := 1, nameIndex := 347, descriptorIndex := 348, attributes := #[] }] 33 43 #[278, 280, 282] #[{ accessFlags := 128, nameIndex := 7, descriptorIndex := 8, attributes := #[] }, { accessFlags := 128, nameIndex := 26, descriptorIndex := 23, attributes := #[] }, { accessFlags := 128, nameIndex := 22, descriptorIndex := 23, attributes := #[] }, { accessFlags := 26, nameIndex := 284, descriptorIndex := 23, attributes := #[] }, { accessFlags := 26, nameIndex := 286, descriptorIndex := 287, attributes := #[] }])
  fields := #[{ name := "elements", type := (.array (.object "java/lang/Object")), accessFlags := 128, slot := 0, constantValue := 0 }, { name := "head", type := .int, accessFlags := 128, slot := 1, constantValue := 0 }, { name := "tail", type := .int, accessFlags := 128, slot := 2, constantValue := 0 }, { name := "MAX_ARRAY_SIZE", type := .int, accessFlags := 26, slot := 0, constantValue := 0 }, { name := "serialVersionUID", type := .long, accessFlags := 26, slot := 1, constantValue := 0 }]
  methods := #[k14m0, k14m1, k14m2, k14m3, k14m4, k14m5, k14m6, k14m7, k14m8, k14m9]
  instanceTypes := #[(.array (.object "java/lang/Object")), .int, .int]
  staticTypes := #[.int, .long]
  resolved := Array.replicate 438 none
  statics := none }

def pool15 : Array CpInfo := pool [(2, .class_ 4), (1, u "java/lang/Object"), (0, u "<init>"), (0, u "()V"), (1, .class_ 10), (1, u "java/lang/Number"), (2, .class_ 14), (0, u "java/io/Serializable"), (0, u "serialVersionUID"), (0, u "J")] 20

def k15m0 : Method := { name := "<init>", desc := "()V", sig := { parameters := [], returnType := none }, accessFlags := 1, code := none }
/-- java/lang/Number -/
def k15 : Class := { plain "java/lang/Number" (some 0) with
  accessFlags := 1057
  interfaces := #[13]
  cf := some (fileOf pool15 8 #[] #[{ accessFlags := 1, nameIndex := 5, descriptorIndex := 6, attributes := #[] }] 1057 2 #[13] #[{ accessFlags := 26, nameIndex := 15, descriptorIndex := 16, attributes := #[] }])
  fields := #[{ name := "serialVersionUID", type := .long, accessFlags := 26, slot := 0, constantValue := 0 }]
  methods := #[k15m0]
  instanceTypes := #[]
  staticTypes := #[.long]
  resolved := Array.replicate 37 none
  statics := none }

def pool16 : Array CpInfo := pool [(1, .class_ 2), (0, u "java/lang/Comparable"), (0, .class_ 4), (0, u "java/lang/Object")] 7

/-- java/lang/Comparable -/
def k16 : Class := { plain "java/lang/Comparable" (some 0) with
  accessFlags := 1537
  interfaces := #[]
  cf := some (fileOf pool16 1 #[] #[] 1537 3 #[] #[])
  fields := #[]
  methods := #[]
  instanceTypes := #[]
  staticTypes := #[]
  resolved := Array.replicate 12 none
  statics := none }

def pool17 : Array CpInfo := pool [(1, .class_ 2), (0, u "java/lang/constant/Constable"), (0, .class_ 4), (0, u "java/lang/Object")] 6

/-- java/lang/constant/Constable -/
def k17 : Class := { plain "java/lang/constant/Constable" (some 0) with
  accessFlags := 1537
  interfaces := #[]
  cf := some (fileOf pool17 1 #[] #[] 1537 3 #[] #[])
  fields := #[]
  methods := #[]
  instanceTypes := #[]
  staticTypes := #[]
  resolved := Array.replicate 11 none
  statics := none }

def pool18 : Array CpInfo := pool [(1, .class_ 2), (0, u "java/lang/constant/ConstantDesc"), (0, .class_ 4), (0, u "java/lang/Object")] 32

/-- java/lang/constant/ConstantDesc -/
def k18 : Class := { plain "java/lang/constant/ConstantDesc" (some 0) with
  accessFlags := 1537
  interfaces := #[]
  cf := some (fileOf pool18 1 #[] #[] 1537 3 #[] #[])
  fields := #[]
  methods := #[]
  instanceTypes := #[]
  staticTypes := #[]
  resolved := Array.replicate 37 none
  statics := none }

def pool19 : Array CpInfo := pool [(1, .class_ 2), (0, u "java/lang/Integer"), (16, u "digits"), (0, u "[C"), (64, u "DigitOnes"), (0, u "[B"), (2, u "DigitTens"), (31, u "()I"), (65, u "valueOf"), (0, u "(I)Ljava/lang/Integer;"), (0, .class_ 190), (0, u "java/lang/Integer$IntegerCache"), (0, .fieldref 189 192), (0, .nameAndType 193 194), (0, u "high"), (0, u "I"), (0, .fieldref 189 196), (0, .nameAndType 197 198), (0, u "cache"), (0, u "[Ljava/lang/Integer;"), (4, .class_ 204), (0, u "java/lang/Number"), (0, .fieldref 1 206), (0, .nameAndType 207 194), (0, u "value"), (5, u "intValue"), (88, u "TYPE"), (0, u "Ljava/lang/Class;"), (0, .class_ 305), (0, u "java/lang/Comparable"), (0, .class_ 307), (0, u "java/lang/constant/Constable"), (0, .class_ 309), (0, u "java/lang/constant/ConstantDesc"), (0, u "MIN_VALUE"), (1, u "MAX_VALUE"), (3, u "SIZE"), (1, u "BYTES"), (1, u "serialVersionUID"), (0, u "J")] 131

def k19c0 : Code := { maxStack := 3, maxLocals := 1, code := jdk_33_method_22_code, exceptionTable := #[], attributes := #[] }
def k19m0 : Method := { name := "valueOf", desc := "(I)Ljava/lang/Integer;", sig := { parameters := [.int], returnType := some (.object "java/lang/Integer") }, accessFlags := 9, code := some k19c0 }
def k19c1 : Code := { maxStack := 1, maxLocals := 1, code := jdk_33_method_27_code, exceptionTable := #[], attributes := #[] }
def k19m1 : Method := { name := "intValue", desc := "()I", sig := { parameters := [], returnType := some .int }, accessFlags := 1, code := some k19c1 }
/-- java/lang/Integer -/
def k19 : Class := { plain "java/lang/Integer" (some 15) with
  accessFlags := 49
  interfaces := #[16, 17, 18]
  cf := some (fileOf pool19 1 #[.nestMembers #[189]] #[{ accessFlags := 9, nameIndex := 187, descriptorIndex := 188, attributes := #[] }, { accessFlags := 1, nameIndex := 213, descriptorIndex := 121, attributes := #[] }] 49 203 #[304, 306, 308] #[{ accessFlags := 25, nameIndex := 310, descriptorIndex := 194, attributes := #[] }, { accessFlags := 25, nameIndex := 312, descriptorIndex := 194, attributes := #[] }, { accessFlags := 25, nameIndex := 302, descriptorIndex := 303, attributes := #[] }, { accessFlags := 24, nameIndex := 19, descriptorIndex := 20, attributes := #[] }, { accessFlags := 24, nameIndex := 89, descriptorIndex := 86, attributes := #[] }, { accessFlags := 24, nameIndex := 85, descriptorIndex := 86, attributes := #[] }, { accessFlags := 18, nameIndex := 207, descriptorIndex := 194, attributes := #[] }, { accessFlags := 25, nameIndex := 316, descriptorIndex := 194, attributes := #[] }, { accessFlags := 25, nameIndex := 318, descriptorIndex := 194, attributes := #[] }, { accessFlags := 26, nameIndex := 320, descriptorIndex := 321, attributes := #[] }])
  fields := #[{ name := "MIN_VALUE", type := .int, accessFlags := 25, slot := 0, constantValue := 0 }, { name := "MAX_VALUE", type := .int, accessFlags := 25, slot := 1, constantValue := 0 }, { name := "TYPE", type := (.object "java/lang/Class"), accessFlags := 25, slot := 2, constantValue := 0 }, { name := "digits", type := (.array .char), accessFlags := 24, slot := 3, constantValue := 0 }, { name := "DigitTens", type := (.array .byte), accessFlags := 24, slot := 4, constantValue := 0 }, { name := "DigitOnes", type := (.array .byte), accessFlags := 24, slot := 5, constantValue := 0 }, { name := "value", type := .int, accessFlags := 18, slot := 0, constantValue := 0 }, { name := "SIZE", type := .int, accessFlags := 25, slot := 6, constantValue := 0 }, { name := "BYTES", type := .int, accessFlags := 25, slot := 7, constantValue := 0 }, { name := "serialVersionUID", type := .long, accessFlags := 26, slot := 8, constantValue := 0 }]
  methods := #[k19m0, k19m1]
  instanceTypes := #[.int]
  staticTypes := #[.int, .int, (.object "java/lang/Class"), (.array .char), (.array .byte), (.array .byte), .int, .int, .long]
  resolved := Array.replicate 453 none
  statics := none }

def pool20 : Array CpInfo := pool [(2, .class_ 4), (1, u "java/lang/Object"), (0, u "<init>"), (0, u "()V"), (0, .class_ 8), (0, u "java/lang/Integer"), (7, .class_ 18), (1, u "java/lang/Integer$IntegerCache"), (0, u "$assertionsDisabled"), (0, u "Z"), (26, u "high"), (0, u "I"), (8, u "archivedCache"), (0, u "[Ljava/lang/Integer;"), (12, u "cache"), (0, u "low")] 27

def k20m0 : Method := { name := "<init>", desc := "()V", sig := { parameters := [], returnType := none }, accessFlags := 2, code := none }
/-- java/lang/Integer$IntegerCache -/
def k20 : Class := { plain "java/lang/Integer$IntegerCache" (some 0) with
  accessFlags := 48
  interfaces := #[]
  cf := some (fileOf pool20 16 #[.nestHost 7] #[{ accessFlags := 2, nameIndex := 5, descriptorIndex := 6, attributes := #[] }] 48 2 #[] #[{ accessFlags := 24, nameIndex := 72, descriptorIndex := 48, attributes := #[] }, { accessFlags := 24, nameIndex := 47, descriptorIndex := 48, attributes := #[] }, { accessFlags := 24, nameIndex := 71, descriptorIndex := 58, attributes := #[] }, { accessFlags := 8, nameIndex := 57, descriptorIndex := 58, attributes := #[] }, { accessFlags := 4120, nameIndex := 19, descriptorIndex := 20, attributes := #[] }])
  fields := #[{ name := "low", type := .int, accessFlags := 24, slot := 0, constantValue := 0 }, { name := "high", type := .int, accessFlags := 24, slot := 1, constantValue := 0 }, { name := "cache", type := (.array (.object "java/lang/Integer")), accessFlags := 24, slot := 2, constantValue := 0 }, { name := "archivedCache", type := (.array (.object "java/lang/Integer")), accessFlags := 8, slot := 3, constantValue := 0 }, { name := "$assertionsDisabled", type := .boolean, accessFlags := 4120, slot := 4, constantValue := 0 }]
  methods := #[k20m0]
  instanceTypes := #[]
  staticTypes := #[.int, .int, (.array (.object "java/lang/Integer")), (.array (.object "java/lang/Integer")), .boolean]
  resolved := Array.replicate 100 none
  statics := some 0 }

/-- the primitive boolean -/
def k21 : Class := { plain "boolean" none with kind := .primitive 'Z', accessFlags := 0x411 }
/-- [Z -/
def k22 : Class := { plain "[Z" (some 0) with kind := .array 21 .boolean, interfaces := #[12, 13], accessFlags := 1041 }

/-- the primitive byte -/
def k23 : Class := { plain "byte" none with kind := .primitive 'B', accessFlags := 0x411 }
/-- [B -/
def k24 : Class := { plain "[B" (some 0) with kind := .array 23 .byte, interfaces := #[12, 13], accessFlags := 1041 }

/-- the primitive int -/
def k25 : Class := { plain "int" none with kind := .primitive 'I', accessFlags := 0x411 }
/-- [I -/
def k26 : Class := { plain "[I" (some 0) with kind := .array 25 .int, interfaces := #[12, 13], accessFlags := 1041 }

/-- [Ljava/lang/Integer; -/
def k27 : Class := { plain "[Ljava/lang/Integer;" (some 0) with kind := .array 19 (.object "java/lang/Integer"), interfaces := #[12, 13], accessFlags := 1041 }

/-- [Ljava/lang/Object; -/
def k28 : Class := { plain "[Ljava/lang/Object;" (some 0) with kind := .array 0 (.object "java/lang/Object"), interfaces := #[12, 13], accessFlags := 1041 }

def heap : Heap := #[{ cls := 20, slots := #[.int 0, .int 127, .ref 1, .null, .int 0], vm := .statics 20 },
  { cls := 27, slots := #[.ref 2, .ref 3, .ref 4, .ref 5, .ref 6, .ref 7, .ref 8, .ref 9, .ref 10, .ref 11, .ref 12, .ref 13, .ref 14, .ref 15, .ref 16, .ref 17, .ref 18, .ref 19, .ref 20, .ref 21, .ref 22, .ref 23, .ref 24, .ref 25, .ref 26, .ref 27, .ref 28, .ref 29, .ref 30, .ref 31, .ref 32, .ref 33, .ref 34, .ref 35, .ref 36, .ref 37, .ref 38, .ref 39, .ref 40, .ref 41, .ref 42, .ref 43, .ref 44, .ref 45, .ref 46, .ref 47, .ref 48, .ref 49, .ref 50, .ref 51, .ref 52, .ref 53, .ref 54, .ref 55, .ref 56, .ref 57, .ref 58, .ref 59, .ref 60, .ref 61, .ref 62, .ref 63, .ref 64, .ref 65, .ref 66, .ref 67, .ref 68, .ref 69, .ref 70, .ref 71, .ref 72, .ref 73, .ref 74, .ref 75, .ref 76, .ref 77, .ref 78, .ref 79, .ref 80, .ref 81, .ref 82, .ref 83, .ref 84, .ref 85, .ref 86, .ref 87, .ref 88, .ref 89, .ref 90, .ref 91, .ref 92, .ref 93, .ref 94, .ref 95, .ref 96, .ref 97, .ref 98, .ref 99, .ref 100, .ref 101, .ref 102, .ref 103, .ref 104, .ref 105, .ref 106, .ref 107, .ref 108, .ref 109, .ref 110, .ref 111, .ref 112, .ref 113, .ref 114, .ref 115, .ref 116, .ref 117, .ref 118, .ref 119, .ref 120, .ref 121, .ref 122, .ref 123, .ref 124, .ref 125, .ref 126, .ref 127, .ref 128, .ref 129, .ref 130, .ref 131, .ref 132, .ref 133, .ref 134, .ref 135, .ref 136, .ref 137, .ref 138, .ref 139, .ref 140, .ref 141, .ref 142, .ref 143, .ref 144, .ref 145, .ref 146, .ref 147, .ref 148, .ref 149, .ref 150, .ref 151, .ref 152, .ref 153, .ref 154, .ref 155, .ref 156, .ref 157, .ref 158, .ref 159, .ref 160, .ref 161, .ref 162, .ref 163, .ref 164, .ref 165, .ref 166, .ref 167, .ref 168, .ref 169, .ref 170, .ref 171, .ref 172, .ref 173, .ref 174, .ref 175, .ref 176, .ref 177, .ref 178, .ref 179, .ref 180, .ref 181, .ref 182, .ref 183, .ref 184, .ref 185, .ref 186, .ref 187, .ref 188, .ref 189, .ref 190, .ref 191, .ref 192, .ref 193, .ref 194, .ref 195, .ref 196, .ref 197, .ref 198, .ref 199, .ref 200, .ref 201, .ref 202, .ref 203, .ref 204, .ref 205, .ref 206, .ref 207, .ref 208, .ref 209, .ref 210, .ref 211, .ref 212, .ref 213, .ref 214, .ref 215, .ref 216, .ref 217, .ref 218, .ref 219, .ref 220, .ref 221, .ref 222, .ref 223, .ref 224, .ref 225, .ref 226, .ref 227, .ref 228, .ref 229, .ref 230, .ref 231, .ref 232, .ref 233, .ref 234, .ref 235, .ref 236, .ref 237, .ref 238, .ref 239, .ref 240, .ref 241, .ref 242, .ref 243, .ref 244, .ref 245, .ref 246, .ref 247, .ref 248, .ref 249, .ref 250, .ref 251, .ref 252, .ref 253, .ref 254, .ref 255, .ref 256, .ref 257], vm := .none },
  { cls := 19, slots := #[.int (-128)], vm := .none },
  { cls := 19, slots := #[.int (-127)], vm := .none },
  { cls := 19, slots := #[.int (-126)], vm := .none },
  { cls := 19, slots := #[.int (-125)], vm := .none },
  { cls := 19, slots := #[.int (-124)], vm := .none },
  { cls := 19, slots := #[.int (-123)], vm := .none },
  { cls := 19, slots := #[.int (-122)], vm := .none },
  { cls := 19, slots := #[.int (-121)], vm := .none },
  { cls := 19, slots := #[.int (-120)], vm := .none },
  { cls := 19, slots := #[.int (-119)], vm := .none },
  { cls := 19, slots := #[.int (-118)], vm := .none },
  { cls := 19, slots := #[.int (-117)], vm := .none },
  { cls := 19, slots := #[.int (-116)], vm := .none },
  { cls := 19, slots := #[.int (-115)], vm := .none },
  { cls := 19, slots := #[.int (-114)], vm := .none },
  { cls := 19, slots := #[.int (-113)], vm := .none },
  { cls := 19, slots := #[.int (-112)], vm := .none },
  { cls := 19, slots := #[.int (-111)], vm := .none },
  { cls := 19, slots := #[.int (-110)], vm := .none },
  { cls := 19, slots := #[.int (-109)], vm := .none },
  { cls := 19, slots := #[.int (-108)], vm := .none },
  { cls := 19, slots := #[.int (-107)], vm := .none },
  { cls := 19, slots := #[.int (-106)], vm := .none },
  { cls := 19, slots := #[.int (-105)], vm := .none },
  { cls := 19, slots := #[.int (-104)], vm := .none },
  { cls := 19, slots := #[.int (-103)], vm := .none },
  { cls := 19, slots := #[.int (-102)], vm := .none },
  { cls := 19, slots := #[.int (-101)], vm := .none },
  { cls := 19, slots := #[.int (-100)], vm := .none },
  { cls := 19, slots := #[.int (-99)], vm := .none },
  { cls := 19, slots := #[.int (-98)], vm := .none },
  { cls := 19, slots := #[.int (-97)], vm := .none },
  { cls := 19, slots := #[.int (-96)], vm := .none },
  { cls := 19, slots := #[.int (-95)], vm := .none },
  { cls := 19, slots := #[.int (-94)], vm := .none },
  { cls := 19, slots := #[.int (-93)], vm := .none },
  { cls := 19, slots := #[.int (-92)], vm := .none },
  { cls := 19, slots := #[.int (-91)], vm := .none },
  { cls := 19, slots := #[.int (-90)], vm := .none },
  { cls := 19, slots := #[.int (-89)], vm := .none },
  { cls := 19, slots := #[.int (-88)], vm := .none },
  { cls := 19, slots := #[.int (-87)], vm := .none },
  { cls := 19, slots := #[.int (-86)], vm := .none },
  { cls := 19, slots := #[.int (-85)], vm := .none },
  { cls := 19, slots := #[.int (-84)], vm := .none },
  { cls := 19, slots := #[.int (-83)], vm := .none },
  { cls := 19, slots := #[.int (-82)], vm := .none },
  { cls := 19, slots := #[.int (-81)], vm := .none },
  { cls := 19, slots := #[.int (-80)], vm := .none },
  { cls := 19, slots := #[.int (-79)], vm := .none },
  { cls := 19, slots := #[.int (-78)], vm := .none },
  { cls := 19, slots := #[.int (-77)], vm := .none },
  { cls := 19, slots := #[.int (-76)], vm := .none },
  { cls := 19, slots := #[.int (-75)], vm := .none },
  { cls := 19, slots := #[.int (-74)], vm := .none },
  { cls := 19, slots := #[.int (-73)], vm := .none },
  { cls := 19, slots := #[.int (-72)], vm := .none },
  { cls := 19, slots := #[.int (-71)], vm := .none },
  { cls := 19, slots := #[.int (-70)], vm := .none },
  { cls := 19, slots := #[.int (-69)], vm := .none },
  { cls := 19, slots := #[.int (-68)], vm := .none },
  { cls := 19, slots := #[.int (-67)], vm := .none },
  { cls := 19, slots := #[.int (-66)], vm := .none },
  { cls := 19, slots := #[.int (-65)], vm := .none },
  { cls := 19, slots := #[.int (-64)], vm := .none },
  { cls := 19, slots := #[.int (-63)], vm := .none },
  { cls := 19, slots := #[.int (-62)], vm := .none },
  { cls := 19, slots := #[.int (-61)], vm := .none },
  { cls := 19, slots := #[.int (-60)], vm := .none },
  { cls := 19, slots := #[.int (-59)], vm := .none },
  { cls := 19, slots := #[.int (-58)], vm := .none },
  { cls := 19, slots := #[.int (-57)], vm := .none },
  { cls := 19, slots := #[.int (-56)], vm := .none },
  { cls := 19, slots := #[.int (-55)], vm := .none },
  { cls := 19, slots := #[.int (-54)], vm := .none },
  { cls := 19, slots := #[.int (-53)], vm := .none },
  { cls := 19, slots := #[.int (-52)], vm := .none },
  { cls := 19, slots := #[.int (-51)], vm := .none },
  { cls := 19, slots := #[.int (-50)], vm := .none },
  { cls := 19, slots := #[.int (-49)], vm := .none },
  { cls := 19, slots := #[.int (-48)], vm := .none },
  { cls := 19, slots := #[.int (-47)], vm := .none },
  { cls := 19, slots := #[.int (-46)], vm := .none },
  { cls := 19, slots := #[.int (-45)], vm := .none },
  { cls := 19, slots := #[.int (-44)], vm := .none },
  { cls := 19, slots := #[.int (-43)], vm := .none },
  { cls := 19, slots := #[.int (-42)], vm := .none },
  { cls := 19, slots := #[.int (-41)], vm := .none },
  { cls := 19, slots := #[.int (-40)], vm := .none },
  { cls := 19, slots := #[.int (-39)], vm := .none },
  { cls := 19, slots := #[.int (-38)], vm := .none },
  { cls := 19, slots := #[.int (-37)], vm := .none },
  { cls := 19, slots := #[.int (-36)], vm := .none },
  { cls := 19, slots := #[.int (-35)], vm := .none },
  { cls := 19, slots := #[.int (-34)], vm := .none },
  { cls := 19, slots := #[.int (-33)], vm := .none },
  { cls := 19, slots := #[.int (-32)], vm := .none },
  { cls := 19, slots := #[.int (-31)], vm := .none },
  { cls := 19, slots := #[.int (-30)], vm := .none },
  { cls := 19, slots := #[.int (-29)], vm := .none },
  { cls := 19, slots := #[.int (-28)], vm := .none },
  { cls := 19, slots := #[.int (-27)], vm := .none },
  { cls := 19, slots := #[.int (-26)], vm := .none },
  { cls := 19, slots := #[.int (-25)], vm := .none },
  { cls := 19, slots := #[.int (-24)], vm := .none },
  { cls := 19, slots := #[.int (-23)], vm := .none },
  { cls := 19, slots := #[.int (-22)], vm := .none },
  { cls := 19, slots := #[.int (-21)], vm := .none },
  { cls := 19, slots := #[.int (-20)], vm := .none },
  { cls := 19, slots := #[.int (-19)], vm := .none },
  { cls := 19, slots := #[.int (-18)], vm := .none },
  { cls := 19, slots := #[.int (-17)], vm := .none },
  { cls := 19, slots := #[.int (-16)], vm := .none },
  { cls := 19, slots := #[.int (-15)], vm := .none },
  { cls := 19, slots := #[.int (-14)], vm := .none },
  { cls := 19, slots := #[.int (-13)], vm := .none },
  { cls := 19, slots := #[.int (-12)], vm := .none },
  { cls := 19, slots := #[.int (-11)], vm := .none },
  { cls := 19, slots := #[.int (-10)], vm := .none },
  { cls := 19, slots := #[.int (-9)], vm := .none },
  { cls := 19, slots := #[.int (-8)], vm := .none },
  { cls := 19, slots := #[.int (-7)], vm := .none },
  { cls := 19, slots := #[.int (-6)], vm := .none },
  { cls := 19, slots := #[.int (-5)], vm := .none },
  { cls := 19, slots := #[.int (-4)], vm := .none },
  { cls := 19, slots := #[.int (-3)], vm := .none },
  { cls := 19, slots := #[.int (-2)], vm := .none },
  { cls := 19, slots := #[.int (-1)], vm := .none },
  { cls := 19, slots := #[.int 0], vm := .none },
  { cls := 19, slots := #[.int 1], vm := .none },
  { cls := 19, slots := #[.int 2], vm := .none },
  { cls := 19, slots := #[.int 3], vm := .none },
  { cls := 19, slots := #[.int 4], vm := .none },
  { cls := 19, slots := #[.int 5], vm := .none },
  { cls := 19, slots := #[.int 6], vm := .none },
  { cls := 19, slots := #[.int 7], vm := .none },
  { cls := 19, slots := #[.int 8], vm := .none },
  { cls := 19, slots := #[.int 9], vm := .none },
  { cls := 19, slots := #[.int 10], vm := .none },
  { cls := 19, slots := #[.int 11], vm := .none },
  { cls := 19, slots := #[.int 12], vm := .none },
  { cls := 19, slots := #[.int 13], vm := .none },
  { cls := 19, slots := #[.int 14], vm := .none },
  { cls := 19, slots := #[.int 15], vm := .none },
  { cls := 19, slots := #[.int 16], vm := .none },
  { cls := 19, slots := #[.int 17], vm := .none },
  { cls := 19, slots := #[.int 18], vm := .none },
  { cls := 19, slots := #[.int 19], vm := .none },
  { cls := 19, slots := #[.int 20], vm := .none },
  { cls := 19, slots := #[.int 21], vm := .none },
  { cls := 19, slots := #[.int 22], vm := .none },
  { cls := 19, slots := #[.int 23], vm := .none },
  { cls := 19, slots := #[.int 24], vm := .none },
  { cls := 19, slots := #[.int 25], vm := .none },
  { cls := 19, slots := #[.int 26], vm := .none },
  { cls := 19, slots := #[.int 27], vm := .none },
  { cls := 19, slots := #[.int 28], vm := .none },
  { cls := 19, slots := #[.int 29], vm := .none },
  { cls := 19, slots := #[.int 30], vm := .none },
  { cls := 19, slots := #[.int 31], vm := .none },
  { cls := 19, slots := #[.int 32], vm := .none },
  { cls := 19, slots := #[.int 33], vm := .none },
  { cls := 19, slots := #[.int 34], vm := .none },
  { cls := 19, slots := #[.int 35], vm := .none },
  { cls := 19, slots := #[.int 36], vm := .none },
  { cls := 19, slots := #[.int 37], vm := .none },
  { cls := 19, slots := #[.int 38], vm := .none },
  { cls := 19, slots := #[.int 39], vm := .none },
  { cls := 19, slots := #[.int 40], vm := .none },
  { cls := 19, slots := #[.int 41], vm := .none },
  { cls := 19, slots := #[.int 42], vm := .none },
  { cls := 19, slots := #[.int 43], vm := .none },
  { cls := 19, slots := #[.int 44], vm := .none },
  { cls := 19, slots := #[.int 45], vm := .none },
  { cls := 19, slots := #[.int 46], vm := .none },
  { cls := 19, slots := #[.int 47], vm := .none },
  { cls := 19, slots := #[.int 48], vm := .none },
  { cls := 19, slots := #[.int 49], vm := .none },
  { cls := 19, slots := #[.int 50], vm := .none },
  { cls := 19, slots := #[.int 51], vm := .none },
  { cls := 19, slots := #[.int 52], vm := .none },
  { cls := 19, slots := #[.int 53], vm := .none },
  { cls := 19, slots := #[.int 54], vm := .none },
  { cls := 19, slots := #[.int 55], vm := .none },
  { cls := 19, slots := #[.int 56], vm := .none },
  { cls := 19, slots := #[.int 57], vm := .none },
  { cls := 19, slots := #[.int 58], vm := .none },
  { cls := 19, slots := #[.int 59], vm := .none },
  { cls := 19, slots := #[.int 60], vm := .none },
  { cls := 19, slots := #[.int 61], vm := .none },
  { cls := 19, slots := #[.int 62], vm := .none },
  { cls := 19, slots := #[.int 63], vm := .none },
  { cls := 19, slots := #[.int 64], vm := .none },
  { cls := 19, slots := #[.int 65], vm := .none },
  { cls := 19, slots := #[.int 66], vm := .none },
  { cls := 19, slots := #[.int 67], vm := .none },
  { cls := 19, slots := #[.int 68], vm := .none },
  { cls := 19, slots := #[.int 69], vm := .none },
  { cls := 19, slots := #[.int 70], vm := .none },
  { cls := 19, slots := #[.int 71], vm := .none },
  { cls := 19, slots := #[.int 72], vm := .none },
  { cls := 19, slots := #[.int 73], vm := .none },
  { cls := 19, slots := #[.int 74], vm := .none },
  { cls := 19, slots := #[.int 75], vm := .none },
  { cls := 19, slots := #[.int 76], vm := .none },
  { cls := 19, slots := #[.int 77], vm := .none },
  { cls := 19, slots := #[.int 78], vm := .none },
  { cls := 19, slots := #[.int 79], vm := .none },
  { cls := 19, slots := #[.int 80], vm := .none },
  { cls := 19, slots := #[.int 81], vm := .none },
  { cls := 19, slots := #[.int 82], vm := .none },
  { cls := 19, slots := #[.int 83], vm := .none },
  { cls := 19, slots := #[.int 84], vm := .none },
  { cls := 19, slots := #[.int 85], vm := .none },
  { cls := 19, slots := #[.int 86], vm := .none },
  { cls := 19, slots := #[.int 87], vm := .none },
  { cls := 19, slots := #[.int 88], vm := .none },
  { cls := 19, slots := #[.int 89], vm := .none },
  { cls := 19, slots := #[.int 90], vm := .none },
  { cls := 19, slots := #[.int 91], vm := .none },
  { cls := 19, slots := #[.int 92], vm := .none },
  { cls := 19, slots := #[.int 93], vm := .none },
  { cls := 19, slots := #[.int 94], vm := .none },
  { cls := 19, slots := #[.int 95], vm := .none },
  { cls := 19, slots := #[.int 96], vm := .none },
  { cls := 19, slots := #[.int 97], vm := .none },
  { cls := 19, slots := #[.int 98], vm := .none },
  { cls := 19, slots := #[.int 99], vm := .none },
  { cls := 19, slots := #[.int 100], vm := .none },
  { cls := 19, slots := #[.int 101], vm := .none },
  { cls := 19, slots := #[.int 102], vm := .none },
  { cls := 19, slots := #[.int 103], vm := .none },
  { cls := 19, slots := #[.int 104], vm := .none },
  { cls := 19, slots := #[.int 105], vm := .none },
  { cls := 19, slots := #[.int 106], vm := .none },
  { cls := 19, slots := #[.int 107], vm := .none },
  { cls := 19, slots := #[.int 108], vm := .none },
  { cls := 19, slots := #[.int 109], vm := .none },
  { cls := 19, slots := #[.int 110], vm := .none },
  { cls := 19, slots := #[.int 111], vm := .none },
  { cls := 19, slots := #[.int 112], vm := .none },
  { cls := 19, slots := #[.int 113], vm := .none },
  { cls := 19, slots := #[.int 114], vm := .none },
  { cls := 19, slots := #[.int 115], vm := .none },
  { cls := 19, slots := #[.int 116], vm := .none },
  { cls := 19, slots := #[.int 117], vm := .none },
  { cls := 19, slots := #[.int 118], vm := .none },
  { cls := 19, slots := #[.int 119], vm := .none },
  { cls := 19, slots := #[.int 120], vm := .none },
  { cls := 19, slots := #[.int 121], vm := .none },
  { cls := 19, slots := #[.int 122], vm := .none },
  { cls := 19, slots := #[.int 123], vm := .none },
  { cls := 19, slots := #[.int 124], vm := .none },
  { cls := 19, slots := #[.int 125], vm := .none },
  { cls := 19, slots := #[.int 126], vm := .none },
  { cls := 19, slots := #[.int 127], vm := .none }]
/-- [[I -/
def k29 : Class := { plain "[[I" (some 0) with kind := .array 26 (.array .int), interfaces := #[12, 13], accessFlags := 1041 }
def classes : Array Class := #[k0, k1, k2, k3, k4, k5, k6, k7, k8, k9, k10, k11, k12, k13, k14, k15, k16, k17, k18, k19, k20, k21, k22, k23, k24, k25, k26, k27, k28, k29]
def interned : List (Array UInt16 × Addr) := []
def slotsUsed : Nat := 517
def theMethod : MethodId := ⟨1, 3⟩
def args0 : Array Value := #[.int 5, .int 1]
def aboutOver (below : List Frame) : State where
  vm := { classes := classes, interned := interned.toArray }
  heap := heap
  slotsUsed := slotsUsed
  threads := #[{ frames := .invoking theMethod args0 :: below }]
def below0 : List Frame := [.native { method := ⟨0, 0⟩, args := #[] }]
def about1 : State := aboutOver below0
def p0 : Program := .bare "" "" ""
def e0 : Env := launch0.env 0 0 0
theorem w_frames : about1.frames = Frame.invoking theMethod args0 :: below0 := rfl
set_option maxRecDepth 65536 in
theorem w_args : argsFit about1.vm theMethod args0 = true := by decide +kernel
set_option maxRecDepth 65536 in
theorem w_heap : heapFits about1 = true := by decide +kernel
set_option maxRecDepth 65536 in
theorem w_runnable : about1.curStatus? = some .runnable := by decide +kernel
set_option maxRecDepth 65536 in
theorem w_alone : about1.alone = true := by decide +kernel
set_option maxRecDepth 65536 in
theorem w_named : about1.methodNamed? x = some theMethod := by decide +kernel
set_option maxRecDepth 65536 in
theorem w_hears : about1.hears theMethod below0 = true := by decide +kernel
set_option maxRecDepth 65536 in
theorem w_ripe : about1.ripe theMethod args0 below0 = true := by decide +kernel
theorem w_running : about1.status = .running := rfl
set_option maxRecDepth 65536 in
theorem w_room : about1.hasRoom e0.platform room_1 = true :=
  launch0.hasRoom_least _ room_1 (by decide +kernel) (by decide +kernel) (by decide +kernel) (by decide +kernel) (by decide +kernel) (by decide +kernel)
theorem allAtoms_all (ts : List Jvm.Cond) (a : Array Jvm.Value) (st : Jvm.State) : (allAtoms ts).before a st = ts.all (fun c => c.before a st) := by
  induction ts with
  | nil => rfl
  | cons c t ih =>
    show (Jvm.Cond.and c (allAtoms t)).before a st = _
    rw [Jvm.Cond.before_and, ih, List.all_cons]
def words1 : List Jvm.Cond := Jvm.Cond.code x code maxLocals ret :: tables_1
/-- a 'code' word, met by the world's own term for the bytes: nothing is compared byte by byte -/
theorem code_word {y : MethodName} {bytes : ByteArray} {mx : Nat} {rt : Option FieldType} {a : Array Value} {s : State} {m : MethodId} {meth : Method} {c : Code} (h1 : s.methodNamed? y = some m) (h2 : s.vm.method? m = some meth) (h3 : meth.code = some c) (h4 : c.code = bytes)
    (h5 : (c.maxLocals == mx && c.exceptionTable.isEmpty && decide (c.maxStack ≤ mostOperands) && decide (meth.sig.returnType = rt) && !meth.locks && decide (parseMethodDescriptor y.desc = some meth.sig)) = true) : (Jvm.Cond.code y bytes mx rt).before a s = true := by
  simp only [Bool.and_eq_true, beq_iff_eq, Bool.not_eq_true', decide_eq_true_eq] at h5
  obtain ⟨⟨⟨⟨⟨g1, g2⟩, g3⟩, g4⟩, g5⟩, g6⟩ := h5
  simp [Cond.before, Cond.holds, Cond.value, h1, h2, h3, h4, g1, g2, g3, g4, g5, g6]
def isCode : Jvm.Cond → Bool
  | .code _ _ _ _ => true
  | _ => false
theorem all_split {L : List Jvm.Cond} {P : Jvm.Cond → Bool} (h1 : L.all (fun c => isCode c || P c) = true) (h2 : ∀ c ∈ L.filter isCode, P c = true) : L.all P = true := by
  refine List.all_eq_true.mpr fun c hc => ?_
  have h := List.all_eq_true.mp h1 c hc
  rcases Bool.eq_false_or_eq_true (isCode c) with hi | hi
  · exact h2 c (List.mem_filter.mpr ⟨hc, hi⟩)
  · simpa [hi] using h
set_option maxRecDepth 65536 in
theorem w_c0 : (Jvm.Cond.code x code maxLocals ret).before args0 about1 = true := code_word (m := ⟨1, 3⟩) (meth := k1m3) (c := k1c3) (by decide +kernel) rfl rfl rfl (by decide +kernel)
set_option maxRecDepth 65536 in
theorem w_c1 : (Jvm.Cond.code ({ cls := "com/example/mild_horn/mildhorn/translation/CentroidsBelowPinLaw", name := "parentOf", desc := "(IIZ)I" } : Jvm.MethodName) method_2_code (3 : Nat) (Option.some Jvm.ClassFile.FieldType.int)).before args0 about1 = true := code_word (m := ⟨1, 1⟩) (meth := k1m1) (c := k1c1) (by decide +kernel) rfl rfl rfl (by decide +kernel)
set_option maxRecDepth 65536 in
theorem w_c2 : (Jvm.Cond.code ({ cls := "com/example/mild_horn/mildhorn/translation/Centroids", name := "<init>", desc := "([I)V" } : Jvm.MethodName) prog_40_method_1_code (3 : Nat) (Option.none : Option Jvm.ClassFile.FieldType)).before args0 about1 = true := code_word (m := ⟨2, 0⟩) (meth := k2m0) (c := k2c0) (by decide +kernel) rfl rfl rfl (by decide +kernel)
set_option maxRecDepth 65536 in
theorem w_c3 : (Jvm.Cond.code ({ cls := "java/lang/Object", name := "<init>", desc := "()V" } : Jvm.MethodName) object_method_1_code (1 : Nat) (Option.none : Option Jvm.ClassFile.FieldType)).before args0 about1 = true := code_word (m := ⟨0, 0⟩) (meth := k0m0) (c := k0c0) (by decide +kernel) rfl rfl rfl (by decide +kernel)
set_option maxRecDepth 65536 in
theorem w_c4 : (Jvm.Cond.code ({ cls := "com/example/mild_horn/mildhorn/translation/Centroids", name := "children", desc := "([I)[[I" } : Jvm.MethodName) prog_40_method_6_code (6 : Nat) (Option.some (Jvm.ClassFile.FieldType.array (Jvm.ClassFile.FieldType.array Jvm.ClassFile.FieldType.int)))).before args0 about1 = true := code_word (m := ⟨2, 3⟩) (meth := k2m3) (c := k2c3) (by decide +kernel) rfl rfl rfl (by decide +kernel)
set_option maxRecDepth 65536 in
theorem w_c5 : (Jvm.Cond.code ({ cls := "com/example/mild_horn/mildhorn/translation/Centroids", name := "neighbours", desc := "([I[[I)[[I" } : Jvm.MethodName) prog_40_method_11_code (5 : Nat) (Option.some (Jvm.ClassFile.FieldType.array (Jvm.ClassFile.FieldType.array Jvm.ClassFile.FieldType.int)))).before args0 about1 = true := code_word (m := ⟨2, 8⟩) (meth := k2m8) (c := k2c8) (by decide +kernel) rfl rfl rfl (by decide +kernel)
set_option maxRecDepth 65536 in
theorem w_c6 : (Jvm.Cond.code ({ cls := "java/util/Arrays", name := "copyOf", desc := "([II)[I" } : Jvm.MethodName) jdk_65_method_123_code (3 : Nat) (Option.some (Jvm.ClassFile.FieldType.array Jvm.ClassFile.FieldType.int))).before args0 about1 = true := code_word (m := ⟨3, 1⟩) (meth := k3m1) (c := k3c1) (by decide +kernel) rfl rfl rfl (by decide +kernel)
set_option maxRecDepth 65536 in
theorem w_c7 : (Jvm.Cond.code ({ cls := "java/lang/Math", name := "min", desc := "(II)I" } : Jvm.MethodName) jdk_29_method_69_code (2 : Nat) (Option.some Jvm.ClassFile.FieldType.int)).before args0 about1 = true := code_word (m := ⟨4, 2⟩) (meth := k4m2) (c := k4c2) (by decide +kernel) rfl rfl rfl (by decide +kernel)
set_option maxRecDepth 65536 in
theorem w_c8 : (Jvm.Cond.code ({ cls := "com/example/mild_horn/mildhorn/translation/Centroids", name := "number", desc := "(I)V" } : Jvm.MethodName) prog_40_method_7_code (7 : Nat) (Option.none : Option Jvm.ClassFile.FieldType)).before args0 about1 = true := code_word (m := ⟨2, 4⟩) (meth := k2m4) (c := k2c4) (by decide +kernel) rfl rfl rfl (by decide +kernel)
set_option maxRecDepth 65536 in
theorem w_c9 : (Jvm.Cond.code ({ cls := "java/util/ArrayDeque", name := "<init>", desc := "()V" } : Jvm.MethodName) jdk_21_method_3_code (1 : Nat) (Option.none : Option Jvm.ClassFile.FieldType)).before args0 about1 = true := code_word (m := ⟨14, 0⟩) (meth := k14m0) (c := k14c0) (by decide +kernel) rfl rfl rfl (by decide +kernel)
set_option maxRecDepth 65536 in
theorem w_c10 : (Jvm.Cond.code ({ cls := "java/util/AbstractCollection", name := "<init>", desc := "()V" } : Jvm.MethodName) jdk_22_method_1_code (1 : Nat) (Option.none : Option Jvm.ClassFile.FieldType)).before args0 about1 = true := code_word (m := ⟨8, 0⟩) (meth := k8m0) (c := k8c0) (by decide +kernel) rfl rfl rfl (by decide +kernel)
set_option maxRecDepth 65536 in
theorem w_c11 : (Jvm.Cond.code ({ cls := "java/lang/Integer", name := "valueOf", desc := "(I)Ljava/lang/Integer;" } : Jvm.MethodName) jdk_33_method_22_code (1 : Nat) (Option.some (Jvm.ClassFile.FieldType.object "java/lang/Integer"))).before args0 about1 = true := code_word (m := ⟨19, 0⟩) (meth := k19m0) (c := k19c0) (by decide +kernel) rfl rfl rfl (by decide +kernel)
set_option maxRecDepth 65536 in
theorem w_c12 : (Jvm.Cond.code ({ cls := "java/util/ArrayDeque", name := "push", desc := "(Ljava/lang/Object;)V" } : Jvm.MethodName) jdk_21_method_34_code (2 : Nat) (Option.none : Option Jvm.ClassFile.FieldType)).before args0 about1 = true := code_word (m := ⟨14, 7⟩) (meth := k14m7) (c := k14c7) (by decide +kernel) rfl rfl rfl (by decide +kernel)
set_option maxRecDepth 65536 in
theorem w_c13 : (Jvm.Cond.code ({ cls := "java/util/ArrayDeque", name := "addFirst", desc := "(Ljava/lang/Object;)V" } : Jvm.MethodName) jdk_21_method_12_code (3 : Nat) (Option.none : Option Jvm.ClassFile.FieldType)).before args0 about1 = true := code_word (m := ⟨14, 4⟩) (meth := k14m4) (c := k14c4) (by decide +kernel) rfl rfl rfl (by decide +kernel)
set_option maxRecDepth 65536 in
theorem w_c14 : (Jvm.Cond.code ({ cls := "java/util/ArrayDeque", name := "dec", desc := "(II)I" } : Jvm.MethodName) jdk_21_method_7_code (2 : Nat) (Option.some Jvm.ClassFile.FieldType.int)).before args0 about1 = true := code_word (m := ⟨14, 2⟩) (meth := k14m2) (c := k14c2) (by decide +kernel) rfl rfl rfl (by decide +kernel)
set_option maxRecDepth 65536 in
theorem w_c15 : (Jvm.Cond.code ({ cls := "java/util/ArrayDeque", name := "isEmpty", desc := "()Z" } : Jvm.MethodName) jdk_21_method_38_code (1 : Nat) (Option.some Jvm.ClassFile.FieldType.boolean)).before args0 about1 = true := code_word (m := ⟨14, 9⟩) (meth := k14m9) (c := k14c9) (by decide +kernel) rfl rfl rfl (by decide +kernel)
set_option maxRecDepth 65536 in
theorem w_c16 : (Jvm.Cond.code ({ cls := "java/util/ArrayDeque", name := "pop", desc := "()Ljava/lang/Object;" } : Jvm.MethodName) jdk_21_method_35_code (1 : Nat) (Option.some (Jvm.ClassFile.FieldType.object "java/lang/Object"))).before args0 about1 = true := code_word (m := ⟨14, 8⟩) (meth := k14m8) (c := k14c8) (by decide +kernel) rfl rfl rfl (by decide +kernel)
set_option maxRecDepth 65536 in
theorem w_c17 : (Jvm.Cond.code ({ cls := "java/util/ArrayDeque", name := "removeFirst", desc := "()Ljava/lang/Object;" } : Jvm.MethodName) jdk_21_method_18_code (2 : Nat) (Option.some (Jvm.ClassFile.FieldType.object "java/lang/Object"))).before args0 about1 = true := code_word (m := ⟨14, 5⟩) (meth := k14m5) (c := k14c5) (by decide +kernel) rfl rfl rfl (by decide +kernel)
set_option maxRecDepth 65536 in
theorem w_c18 : (Jvm.Cond.code ({ cls := "java/util/ArrayDeque", name := "pollFirst", desc := "()Ljava/lang/Object;" } : Jvm.MethodName) jdk_21_method_20_code (4 : Nat) (Option.some (Jvm.ClassFile.FieldType.object "java/lang/Object"))).before args0 about1 = true := code_word (m := ⟨14, 6⟩) (meth := k14m6) (c := k14c6) (by decide +kernel) rfl rfl rfl (by decide +kernel)
set_option maxRecDepth 65536 in
theorem w_c19 : (Jvm.Cond.code ({ cls := "java/util/ArrayDeque", name := "elementAt", desc := "([Ljava/lang/Object;I)Ljava/lang/Object;" } : Jvm.MethodName) jdk_21_method_10_code (2 : Nat) (Option.some (Jvm.ClassFile.FieldType.object "java/lang/Object"))).before args0 about1 = true := code_word (m := ⟨14, 3⟩) (meth := k14m3) (c := k14c3) (by decide +kernel) rfl rfl rfl (by decide +kernel)
set_option maxRecDepth 65536 in
theorem w_c20 : (Jvm.Cond.code ({ cls := "java/util/ArrayDeque", name := "inc", desc := "(II)I" } : Jvm.MethodName) jdk_21_method_6_code (2 : Nat) (Option.some Jvm.ClassFile.FieldType.int)).before args0 about1 = true := code_word (m := ⟨14, 1⟩) (meth := k14m1) (c := k14c1) (by decide +kernel) rfl rfl rfl (by decide +kernel)
set_option maxRecDepth 65536 in
theorem w_c21 : (Jvm.Cond.code ({ cls := "java/lang/Integer", name := "intValue", desc := "()I" } : Jvm.MethodName) jdk_33_method_27_code (1 : Nat) (Option.some Jvm.ClassFile.FieldType.int)).before args0 about1 = true := code_word (m := ⟨19, 1⟩) (meth := k19m1) (c := k19c1) (by decide +kernel) rfl rfl rfl (by decide +kernel)
set_option maxRecDepth 65536 in
theorem w_c22 : (Jvm.Cond.code ({ cls := "java/lang/Math", name := "max", desc := "(II)I" } : Jvm.MethodName) jdk_29_method_65_code (2 : Nat) (Option.some Jvm.ClassFile.FieldType.int)).before args0 about1 = true := code_word (m := ⟨4, 1⟩) (meth := k4m1) (c := k4c1) (by decide +kernel) rfl rfl rfl (by decide +kernel)
set_option maxRecDepth 65536 in
theorem w_c23 : (Jvm.Cond.code ({ cls := "com/example/mild_horn/mildhorn/translation/Centroids", name := "decompose", desc := "(I)I" } : Jvm.MethodName) prog_40_method_8_code (16 : Nat) (Option.some Jvm.ClassFile.FieldType.int)).before args0 about1 = true := code_word (m := ⟨2, 5⟩) (meth := k2m5) (c := k2c5) (by decide +kernel) rfl rfl rfl (by decide +kernel)
set_option maxRecDepth 65536 in
theorem w_c24 : (Jvm.Cond.code ({ cls := "com/example/mild_horn/mildhorn/translation/Centroids", name := "reach", desc := "(I[Z[I[I)I" } : Jvm.MethodName) prog_40_method_9_code (12 : Nat) (Option.some Jvm.ClassFile.FieldType.int)).before args0 about1 = true := code_word (m := ⟨2, 6⟩) (meth := k2m6) (c := k2c6) (by decide +kernel) rfl rfl rfl (by decide +kernel)
set_option maxRecDepth 65536 in
theorem w_c25 : (Jvm.Cond.code ({ cls := "com/example/mild_horn/mildhorn/translation/Centroids", name := "heaviest", desc := "(II[Z[I[I)I" } : Jvm.MethodName) prog_40_method_10_code (12 : Nat) (Option.some Jvm.ClassFile.FieldType.int)).before args0 about1 = true := code_word (m := ⟨2, 7⟩) (meth := k2m7) (c := k2c7) (by decide +kernel) rfl rfl rfl (by decide +kernel)
set_option maxRecDepth 65536 in
theorem w_c26 : (Jvm.Cond.code ({ cls := "com/example/mild_horn/mildhorn/translation/Centroids", name := "top", desc := "()I" } : Jvm.MethodName) prog_40_method_2_code (1 : Nat) (Option.some Jvm.ClassFile.FieldType.int)).before args0 about1 = true := code_word (m := ⟨2, 1⟩) (meth := k2m1) (c := k2c1) (by decide +kernel) rfl rfl rfl (by decide +kernel)
set_option maxRecDepth 65536 in
theorem w_c27 : (Jvm.Cond.code ({ cls := "com/example/mild_horn/mildhorn/translation/CentroidsBelowPinLaw", name := "centroidOf", desc := "(III)Z" } : Jvm.MethodName) method_3_code (4 : Nat) (Option.some Jvm.ClassFile.FieldType.boolean)).before args0 about1 = true := code_word (m := ⟨1, 2⟩) (meth := k1m2) (c := k1c2) (by decide +kernel) rfl rfl rfl (by decide +kernel)
set_option maxRecDepth 65536 in
theorem w_c28 : (Jvm.Cond.code ({ cls := "com/example/mild_horn/mildhorn/translation/Centroids", name := "below", desc := "(II)I" } : Jvm.MethodName) prog_40_method_3_code (4 : Nat) (Option.some Jvm.ClassFile.FieldType.int)).before args0 about1 = true := code_word (m := ⟨2, 2⟩) (meth := k2m2) (c := k2c2) (by decide +kernel) rfl rfl rfl (by decide +kernel)
def codes1 : List Jvm.Cond := [Jvm.Cond.code x code maxLocals ret, Jvm.Cond.code ({ cls := "com/example/mild_horn/mildhorn/translation/CentroidsBelowPinLaw", name := "parentOf", desc := "(IIZ)I" } : Jvm.MethodName) method_2_code (3 : Nat) (Option.some Jvm.ClassFile.FieldType.int), Jvm.Cond.code ({ cls := "com/example/mild_horn/mildhorn/translation/Centroids", name := "<init>", desc := "([I)V" } : Jvm.MethodName) prog_40_method_1_code (3 : Nat) (Option.none : Option Jvm.ClassFile.FieldType), Jvm.Cond.code ({ cls := "java/lang/Object", name := "<init>", desc := "()V" } : Jvm.MethodName) object_method_1_code (1 : Nat) (Option.none : Option Jvm.ClassFile.FieldType), Jvm.Cond.code ({ cls := "com/example/mild_horn/mildhorn/translation/Centroids", name := "children", desc := "([I)[[I" } : Jvm.MethodName) prog_40_method_6_code (6 : Nat) (Option.some (Jvm.ClassFile.FieldType.array (Jvm.ClassFile.FieldType.array Jvm.ClassFile.FieldType.int))), Jvm.Cond.code ({ cls := "com/example/mild_horn/mildhorn/translation/Centroids", name := "neighbours", desc := "([I[[I)[[I" } : Jvm.MethodName) prog_40_method_11_code (5 : Nat) (Option.some (Jvm.ClassFile.FieldType.array (Jvm.ClassFile.FieldType.array Jvm.ClassFile.FieldType.int))), Jvm.Cond.code ({ cls := "java/util/Arrays", name := "copyOf", desc := "([II)[I" } : Jvm.MethodName) jdk_65_method_123_code (3 : Nat) (Option.some (Jvm.ClassFile.FieldType.array Jvm.ClassFile.FieldType.int)), Jvm.Cond.code ({ cls := "java/lang/Math", name := "min", desc := "(II)I" } : Jvm.MethodName) jdk_29_method_69_code (2 : Nat) (Option.some Jvm.ClassFile.FieldType.int), Jvm.Cond.code ({ cls := "com/example/mild_horn/mildhorn/translation/Centroids", name := "number", desc := "(I)V" } : Jvm.MethodName) prog_40_method_7_code (7 : Nat) (Option.none : Option Jvm.ClassFile.FieldType), Jvm.Cond.code ({ cls := "java/util/ArrayDeque", name := "<init>", desc := "()V" } : Jvm.MethodName) jdk_21_method_3_code (1 : Nat) (Option.none : Option Jvm.ClassFile.FieldType), Jvm.Cond.code ({ cls := "java/util/AbstractCollection", name := "<init>", desc := "()V" } : Jvm.MethodName) jdk_22_method_1_code (1 : Nat) (Option.none : Option Jvm.ClassFile.FieldType), Jvm.Cond.code ({ cls := "java/lang/Integer", name := "valueOf", desc := "(I)Ljava/lang/Integer;" } : Jvm.MethodName) jdk_33_method_22_code (1 : Nat) (Option.some (Jvm.ClassFile.FieldType.object "java/lang/Integer")), Jvm.Cond.code ({ cls := "java/util/ArrayDeque", name := "push", desc := "(Ljava/lang/Object;)V" } : Jvm.MethodName) jdk_21_method_34_code (2 : Nat) (Option.none : Option Jvm.ClassFile.FieldType), Jvm.Cond.code ({ cls := "java/util/ArrayDeque", name := "addFirst", desc := "(Ljava/lang/Object;)V" } : Jvm.MethodName) jdk_21_method_12_code (3 : Nat) (Option.none : Option Jvm.ClassFile.FieldType), Jvm.Cond.code ({ cls := "java/util/ArrayDeque", name := "dec", desc := "(II)I" } : Jvm.MethodName) jdk_21_method_7_code (2 : Nat) (Option.some Jvm.ClassFile.FieldType.int), Jvm.Cond.code ({ cls := "java/util/ArrayDeque", name := "isEmpty", desc := "()Z" } : Jvm.MethodName) jdk_21_method_38_code (1 : Nat) (Option.some Jvm.ClassFile.FieldType.boolean), Jvm.Cond.code ({ cls := "java/util/ArrayDeque", name := "pop", desc := "()Ljava/lang/Object;" } : Jvm.MethodName) jdk_21_method_35_code (1 : Nat) (Option.some (Jvm.ClassFile.FieldType.object "java/lang/Object")), Jvm.Cond.code ({ cls := "java/util/ArrayDeque", name := "removeFirst", desc := "()Ljava/lang/Object;" } : Jvm.MethodName) jdk_21_method_18_code (2 : Nat) (Option.some (Jvm.ClassFile.FieldType.object "java/lang/Object")), Jvm.Cond.code ({ cls := "java/util/ArrayDeque", name := "pollFirst", desc := "()Ljava/lang/Object;" } : Jvm.MethodName) jdk_21_method_20_code (4 : Nat) (Option.some (Jvm.ClassFile.FieldType.object "java/lang/Object")), Jvm.Cond.code ({ cls := "java/util/ArrayDeque", name := "elementAt", desc := "([Ljava/lang/Object;I)Ljava/lang/Object;" } : Jvm.MethodName) jdk_21_method_10_code (2 : Nat) (Option.some (Jvm.ClassFile.FieldType.object "java/lang/Object")), Jvm.Cond.code ({ cls := "java/util/ArrayDeque", name := "inc", desc := "(II)I" } : Jvm.MethodName) jdk_21_method_6_code (2 : Nat) (Option.some Jvm.ClassFile.FieldType.int), Jvm.Cond.code ({ cls := "java/lang/Integer", name := "intValue", desc := "()I" } : Jvm.MethodName) jdk_33_method_27_code (1 : Nat) (Option.some Jvm.ClassFile.FieldType.int), Jvm.Cond.code ({ cls := "java/lang/Math", name := "max", desc := "(II)I" } : Jvm.MethodName) jdk_29_method_65_code (2 : Nat) (Option.some Jvm.ClassFile.FieldType.int), Jvm.Cond.code ({ cls := "com/example/mild_horn/mildhorn/translation/Centroids", name := "decompose", desc := "(I)I" } : Jvm.MethodName) prog_40_method_8_code (16 : Nat) (Option.some Jvm.ClassFile.FieldType.int), Jvm.Cond.code ({ cls := "com/example/mild_horn/mildhorn/translation/Centroids", name := "reach", desc := "(I[Z[I[I)I" } : Jvm.MethodName) prog_40_method_9_code (12 : Nat) (Option.some Jvm.ClassFile.FieldType.int), Jvm.Cond.code ({ cls := "com/example/mild_horn/mildhorn/translation/Centroids", name := "heaviest", desc := "(II[Z[I[I)I" } : Jvm.MethodName) prog_40_method_10_code (12 : Nat) (Option.some Jvm.ClassFile.FieldType.int), Jvm.Cond.code ({ cls := "com/example/mild_horn/mildhorn/translation/Centroids", name := "top", desc := "()I" } : Jvm.MethodName) prog_40_method_2_code (1 : Nat) (Option.some Jvm.ClassFile.FieldType.int), Jvm.Cond.code ({ cls := "com/example/mild_horn/mildhorn/translation/CentroidsBelowPinLaw", name := "centroidOf", desc := "(III)Z" } : Jvm.MethodName) method_3_code (4 : Nat) (Option.some Jvm.ClassFile.FieldType.boolean), Jvm.Cond.code ({ cls := "com/example/mild_horn/mildhorn/translation/Centroids", name := "below", desc := "(II)I" } : Jvm.MethodName) prog_40_method_3_code (4 : Nat) (Option.some Jvm.ClassFile.FieldType.int)]
set_option maxRecDepth 65536 in
theorem codes_eq : words1.filter isCode = codes1 := rfl
theorem w_codes : ∀ c ∈ words1.filter isCode, c.before args0 about1 = true := by
  rw [codes_eq]
  intro c hc
  simp only [codes1, List.mem_cons, List.not_mem_nil, or_false] at hc
  rcases hc with rfl | rfl | rfl | rfl | rfl | rfl | rfl | rfl | rfl | rfl | rfl | rfl | rfl | rfl | rfl | rfl | rfl | rfl | rfl | rfl | rfl | rfl | rfl | rfl | rfl | rfl | rfl | rfl | rfl
  · exact w_c0
  · exact w_c1
  · exact w_c2
  · exact w_c3
  · exact w_c4
  · exact w_c5
  · exact w_c6
  · exact w_c7
  · exact w_c8
  · exact w_c9
  · exact w_c10
  · exact w_c11
  · exact w_c12
  · exact w_c13
  · exact w_c14
  · exact w_c15
  · exact w_c16
  · exact w_c17
  · exact w_c18
  · exact w_c19
  · exact w_c20
  · exact w_c21
  · exact w_c22
  · exact w_c23
  · exact w_c24
  · exact w_c25
  · exact w_c26
  · exact w_c27
  · exact w_c28
set_option maxRecDepth 65536 in
theorem w_t1 : (words1.take 24).all (fun c => isCode c || c.before args0 about1) = true := by decide +kernel
set_option maxRecDepth 65536 in
theorem w_t2 : ((words1.drop 24).take 24).all (fun c => isCode c || c.before args0 about1) = true := by decide +kernel
set_option maxRecDepth 65536 in
theorem w_t3 : (((words1.drop 24).drop 24).take 24).all (fun c => isCode c || c.before args0 about1) = true := by decide +kernel
set_option maxRecDepth 65536 in
theorem w_t4 : ((((words1.drop 24).drop 24).drop 24).take 24).all (fun c => isCode c || c.before args0 about1) = true := by decide +kernel
set_option maxRecDepth 65536 in
theorem w_t5 : (((((words1.drop 24).drop 24).drop 24).drop 24).take 24).all (fun c => isCode c || c.before args0 about1) = true := by decide +kernel
set_option maxRecDepth 65536 in
theorem w_t6 : ((((((words1.drop 24).drop 24).drop 24).drop 24).drop 24).take 24).all (fun c => isCode c || c.before args0 about1) = true := by decide +kernel
set_option maxRecDepth 65536 in
theorem w_t7 : (((((((words1.drop 24).drop 24).drop 24).drop 24).drop 24).drop 24).take 24).all (fun c => isCode c || c.before args0 about1) = true := by decide +kernel
set_option maxRecDepth 65536 in
theorem w_t8 : (((((((words1.drop 24).drop 24).drop 24).drop 24).drop 24).drop 24).drop 24).all (fun c => isCode c || c.before args0 about1) = true := by decide +kernel
theorem w_tables : (allAtoms (Jvm.Cond.code x code maxLocals ret :: tables_1)).before args0 about1 = true := by
  rw [allAtoms_all]
  show words1.all (fun c => c.before args0 about1) = true
  refine all_split ?_ w_codes
  rw [← List.take_append_drop 24 words1, List.all_append, w_t1, ← List.take_append_drop 24 (words1.drop 24), List.all_append, w_t2, ← List.take_append_drop 24 ((words1.drop 24).drop 24), List.all_append, w_t3, ← List.take_append_drop 24 (((words1.drop 24).drop 24).drop 24), List.all_append, w_t4, ← List.take_append_drop 24 ((((words1.drop 24).drop 24).drop 24).drop 24), List.all_append, w_t5, ← List.take_append_drop 24 (((((words1.drop 24).drop 24).drop 24).drop 24).drop 24), List.all_append, w_t6, ← List.take_append_drop 24 ((((((words1.drop 24).drop 24).drop 24).drop 24).drop 24).drop 24), List.all_append, w_t7, w_t8]
  rfl
set_option maxRecDepth 65536 in
theorem w_rest : rest_1_c.before args0 about1 = true := by decide +kernel
set_option maxRecDepth 65536 in
theorem w_case : (Jvm.Cond.and given_1 narrow_1).before args0 about1 = true := by decide +kernel
theorem w_applies : (headSpec (Jvm.Cond.code x code maxLocals ret :: tables_1) room_1).applies x e0.platform about1 = true :=
  (Spec.applies_iff w_frames).mpr ⟨w_running, w_runnable, w_alone, w_named, w_hears, w_ripe, w_room, w_tables⟩
theorem atStart : AtStart classFile x code maxLocals ret World_1 tables_1 room_1 Calls_1 rest_1 Pre_1 launch0 p0 e0 about1 theMethod args0 below0 :=
  ⟨lists_1, trivial, launch0.admits_env _ _ _, launch0.least_env, fairChoices_fair.cas, fairChoices_fair.clock, w_frames, w_args, w_heap, w_applies, trivial, w_rest, w_case⟩
end start1
theorem witness_1 : WitnessClaimed_1 := ⟨start1.p0, start1.e0, start1.about1, start1.theMethod, start1.args0, start1.below0, start1.atStart⟩
end Jvm.Pilot.@@N@@
