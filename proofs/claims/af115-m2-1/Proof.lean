import JvmDerived
import JvmDerived.Pilot.@@N@@Statement
import JvmDerived.Pilot.@@N@@Code
set_option linter.unusedVariables false
set_option linter.unusedSimpArgs false
namespace Jvm.Pilot.@@N@@
open Jvm Jvm.ClassFile Sem Op Lib Jvm.Free Jvm.Stand Jvm.LawKit Jvm.RoadKit Bundle Jvm.Pilot.@@N@@.Jvm.D
section OwnKit
variable {p : Program} {l : Launch} {e : Env} {R : Room} {s : State} {m : MethodId} {args : Array Value} {below : List Frame} {meth : Method} {c : Code} {T : State} {locs : List Loc} {cells slots : Nat}
def own_G (tb : Tables) (e : Env) (below : List Frame) (s : State) (Q : Option Value → Heap → List Loc → Prop) (k n : Nat) (A : State) : Prop :=
  ∃ u o, Steps tb e below A u ∧ u.status = .running ∧ Ended u below o ∧ ∃ v L, o = Outcome.returned v ∧ Q v u.heap L ∧ FrameEnd s o u L k n
theorem own_go {tb : Tables} {Q : Option Value → Heap → List Loc → Prop} {k n : Nat} {A B : State} (h : ∀ t, Steps tb e below B t → Steps tb e below A t) (g : own_G tb e below s Q k n B) : own_G tb e below s Q k n A := by
  obtain ⟨u, o, h1, r⟩ := g; exact ⟨u, o, h u h1, r⟩
theorem own_ret (X : Stand p l e R s m args below meth c T locs cells slots) (hx : p.tables.exec = Jvm.exec) {pc : Nat} {Ls : Array Slot} {w : Value} {t : FieldType} {i : Instr} {rest : List Value} (hret : meth.sig.returnType = some t) (hn : narrow t w = w)
    (hi : (i = .ireturn ∧ (t = .int ∨ t = .boolean ∨ t = .byte ∨ t = .char ∨ t = .short) ∧ ∃ z, w = .int z) ∨ (i = .lreturn ∧ t = .long ∧ ∃ z, w = .long z) ∨ (i = .dreturn ∧ t = .double ∧ ∃ z, w = .double z) ∨ (i = .freturn ∧ t = .float ∧ ∃ z, w = .float z) ∨ (i = .areturn ∧ t.isReference = true ∧ w.isRef = true))
    (hd : decode c.code pc = .ok (i, 1)) (hlocks : meth.locks = false) {Q : Option Value → Heap → List Loc → Prop} {k n : Nat} (hQ : Q (some w) T.heap locs) (hk : cells ≤ k) (hs : slots ≤ n) : own_G p.tables e below s Q k n (T.setTop (mkF m pc Ls (w :: rest))) := by
  obtain ⟨fs, hr, hrun, hended, hW, hsame⟩ := X.leave (v := some w) (fun h => by rw [hret] at h; cases h) hlocks
  exact ⟨_, _, retOut X hx hret hn hi hd hr, hrun, hended, _, _, rfl, hQ, ⟨_, rfl⟩, hW, hsame.mono hk hs⟩
theorem own_retV (X : Stand p l e R s m args below meth c T locs cells slots) (hx : p.tables.exec = Jvm.exec) {pc : Nat} {Ls : Array Slot} (hret : meth.sig.returnType = none)
    (hd : decode c.code pc = .ok (.return_, 1)) (hlocks : meth.locks = false) {Q : Option Value → Heap → List Loc → Prop} {k n : Nat} (hQ : Q none T.heap locs) (hk : cells ≤ k) (hs : slots ≤ n) : own_G p.tables e below s Q k n (T.setTop (mkF m pc Ls [])) := by
  obtain ⟨fs, hr, hrun, hended, hW, hsame⟩ := X.leave (v := none) (fun _ => rfl) hlocks
  exact ⟨_, _, X.returnOut hx hret hd hr, hrun, hended, _, _, rfl, hQ, ⟨_, rfl⟩, hW, hsame.mono hk hs⟩
def own_Met (l : Launch) (Z : State) (y : MethodName) (bytes : ByteArray) (maxL : Nat) (ret : Option FieldType) (ws : List Jvm.Cond) (rm : Room) (as' : Array Value) (h0 : Heap) (Q : Option Value → Heap → List Loc → Prop) : Prop :=
  MetFree l y (head1 (Jvm.Cond.code y bytes maxL ret :: ws) rm) (fun a U => a = as' ∧ Z.Warmed39 U.vm ∧ U.heap = h0) (fun _ _ _ _ _ => True) (fun _ U o U' => ∃ v L, o = .returned v ∧ Q v U'.heap L ∧ FrameEnd U o U' L rm.cells rm.slots)
theorem own_body {l : Launch} {Z : State} {y : MethodName} {bytes : ByteArray} {maxL : Nat} {ret : Option FieldType} {ws : List Jvm.Cond} {rm : Room} {as' : Array Value} {h0 : Heap} {Q : Option Value → Heap → List Loc → Prop} (hp : plainFor y = true)
    (H : ∀ (p : Program) (e : Env) (s : State) (m : MethodId) (below : List Frame) (meth : Method) (c : Code) (s₁ : State), p.tables.exec = Jvm.exec → c.code = bytes → c.maxLocals = maxL → s.vm.findClass y.cls = some m.cls → meth.name = y.name → meth.locks = false → meth.sig.returnType = ret → Z.Warmed39 s.vm → Stand p l e rm s m as' below meth c s₁ [] 0 0 → s₁.heap = h0 →
      own_G p.tables e below s Q rm.cells rm.slots (s₁.setTop (entryFrame m as' maxL))) : own_Met l Z y bytes maxL ret ws rm as' h0 Q := by
  refine MetFree.of_bodySF hp hisR ?_
  intro p e s m args below meth c s₁ Bd hml0 hP hK
  obtain ⟨rfl, hZ, hh⟩ := hP
  exact H p e s m below meth c s₁ Bd.exec Bd.bytes hml0 (findClass_of_methodNamed Bd.named) (name_of_methodNamed Bd.named Bd.method).1 (BodyLoose.notSynchronized Bd) Bd.returns hZ (Stand.of_body Bd) (by rw [← hh, Bd.state]; rfl)
theorem own_back {Z : State} {a0 : Array Value} {h : Heap} {y : MethodName} {bytes : ByteArray} {maxL : Nat} {ret : Option FieldType} {rm : Room} {len W : Nat} {as' : Array Value} {Q : Option Value → Heap → List Loc → Prop} (hM : own_Met l Z y bytes maxL ret [] rm as' h Q)
    (hZ : Z.Warmed39 s.vm) (wc : (Jvm.Cond.code y bytes maxL ret).before a0 Z = true) (wz : (Jvm.Cond.initialized y.cls).before a0 Z = true) (hf : rm.frames + 1 ≤ R.frames) (hl : W + (maxL + 11) + rm.locals ≤ R.locals) :
    Back l R p e below s args y len W (fun A a => a = as' ∧ A.U.heap = h ∧ A.cells + rm.cells ≤ R.cells ∧ A.slots + rm.slots ≤ R.slots) (fun A _ v B => ∃ L, Q v B.U.heap L ∧ B.locs = A.locs ++ L ∧ B.cells = A.cells + rm.cells ∧ B.slots = A.slots + rm.slots) :=
  backOf (Q := Q) hM hZ wc wz hf hl
theorem own_xt {h0 h h' : Heap} (E : Ext h0 h) (F : Ext h h') : Ext h0 h' := ⟨Nat.le_trans E.1 F.1, fun a c q => F.2 a c (E.2 a c q)⟩
theorem own_xr (h : Heap) : Ext h h := ⟨Nat.le_refl _, fun _ _ q => q⟩
theorem own_xw {h0 h h' : Heap} {a : Addr} {sl : Nat} {v : Value} (E : Ext h0 h) (W : Wr h h' a sl v) (q : h0.size ≤ a) : Ext h0 h' := by
  have K := (Keep.of_wr W)
  exact ⟨Nat.le_trans E.1 K.1, fun x c r => K.2.1 x c (E.2 x c r) fun z => by
    cases List.mem_singleton.mp z
    exact absurd (Array.getElem?_eq_some_iff.mp r).1 (Nat.not_lt.mpr q)⟩
theorem own_fI {Z : State} {args : Array Value} {t : Term} {F fn fd : String} {a : Addr} {k : Int32} (ev : t.eval args Z none [] Z = some (.ref a)) (h : (Cond.eq (Term.field t F fn fd) (Term.int k)).value args Z none Z [] = some true) : Fld Z Z.heap a F fn fd (.int k) := by
  obtain ⟨x, y, h1, h2, h3, h4⟩ := cmp_v (Or.inl h)
  rw [fld_at ev] at h1
  cases (Term.int_eval k).symm.trans h2
  obtain ⟨z, rfl⟩ := h4
  have e1 : (Term.field t F fn fd).eval args Z none [] Z = some (.int z) := (fld_at ev).trans h1
  simp only [Cond.value, e1, Term.int_eval] at h
  have hz : z = k := by simpa using h
  subst hz
  exact Fld.start h1
theorem own_fJ {Z : State} {args : Array Value} {t : Term} {F fn fd : String} {a : Addr} {k : Int64} (ev : t.eval args Z none [] Z = some (.ref a)) (h : (Cond.eq (Term.field t F fn fd) (Term.long k)).value args Z none Z [] = some true) : Fld Z Z.heap a F fn fd (.long k) := by
  obtain ⟨x, y, h1, h2, h3, h4⟩ := cmp_v (Or.inl h)
  rw [fld_at ev] at h1
  cases (long_at k).symm.trans h2
  obtain ⟨z, rfl⟩ := h4
  have e1 : (Term.field t F fn fd).eval args Z none [] Z = some (.long z) := (fld_at ev).trans h1
  have hz := gotT (eq_L e1 (long_at k)) h
  subst hz
  exact Fld.start h1
theorem own_len {Z : State} {args : Array Value} {t : Term} {a : Addr} {cl : Cell} {ty : FieldType} {k : Int32} (ev : t.eval args Z none [] Z = some (.ref a)) (A : Arr Z Z.heap a cl ty) (h : (Cond.eq (Term.length t) (Term.int k)).value args Z none Z [] = some true) : cl.slots.size < 2 ^ 31 ∧ cl.slots.size.toInt32 = k := by
  have ha := Arr.fin (Vm.Alike.refl _) A
  obtain ⟨x, y, h1, h2, h3, h4⟩ := cmp_v (Or.inl h)
  by_cases hl : cl.slots.size < 2 ^ 31
  · have e1 := len_f (o := none) (idx := []) (first := Z) (args := args) ev ha hl
    simp only [Cond.value, e1, Term.int_eval] at h
    exact ⟨hl, by simpa using h⟩
  · simp [Term.eval, ev, ha, hl] at h1
theorem own_elV {Z : State} {args : Array Value} {t u : Term} {a : Addr} {cl : Cell} {k : Int32} {v : Value} {i : Nat} (ev : t.eval args Z none [] Z = some (.ref a)) (hc : Z.heap[a]? = some cl) (hu : u.eval args Z none [] Z = some v) (h : (Cond.eq (Term.elem t (Term.int k)) u).value args Z none Z [] = some true) (hk : k.toNatClampNeg = i) : cl.slots[i]? = some v := by
  obtain ⟨x, y, h1, h2, h3, h4⟩ := cmp_v (Or.inl h)
  cases hu.symm.trans h2
  have q := (elem_in h1 ev (Term.int_eval k) hc).2
  rw [hk] at q
  rw [q]
  simp only [Cond.value, h1, hu] at h
  cases x <;> cases v <;> simp_all [Kin, Value.isRef]
theorem own_ne {Z : State} {h : Heap} {a b : Addr} {C n d : String} {k j : Int32} (F : Fld Z h a C n d (.int k)) (G : Fld Z h b C n d (.int j)) (q : k ≠ j) : a ≠ b := Fld.ne F G (fun e => q (Value.int.inj e))
theorem own_rem {x n : Int32} (h0 : 0 ≤ x.toInt) (h1 : 0 < n.toInt) : 0 ≤ (x % n).toInt ∧ (x % n).toInt < n.toInt := by
  have := (c_iremV x n).1 h0 h1; exact ⟨this.1, this.2.1⟩
theorem own_msk (x : Int32) : 0 ≤ (x &&& (2147483647 : Int32)).toInt := (c_and x 2147483647 (by decide)).1
end OwnKit
def own_W (Z : State) (A : Nat → Addr) : Prop := Sta Z Z.heap "com/example/ferrybus/ferrybus/codec/PacketType" "CONNECT" "Lcom/example/ferrybus/ferrybus/codec/PacketType;" (.ref (A 0)) ∧ Exa Z Z.heap (A 0) "com/example/ferrybus/ferrybus/codec/PacketType" ∧ Sta Z Z.heap "com/example/ferrybus/ferrybus/codec/PacketType" "CONNACK" "Lcom/example/ferrybus/ferrybus/codec/PacketType;" (.ref (A 1)) ∧ Exa Z Z.heap (A 1) "com/example/ferrybus/ferrybus/codec/PacketType" ∧ Sta Z Z.heap "com/example/ferrybus/ferrybus/codec/PacketType" "AUTH" "Lcom/example/ferrybus/ferrybus/codec/PacketType;" (.ref (A 2)) ∧ Exa Z Z.heap (A 2) "com/example/ferrybus/ferrybus/codec/PacketType" ∧ Sta Z Z.heap "com/example/ferrybus/ferrybus/codec/PacketType" "PUBREL" "Lcom/example/ferrybus/ferrybus/codec/PacketType;" (.ref (A 3)) ∧ Exa Z Z.heap (A 3) "com/example/ferrybus/ferrybus/codec/PacketType" ∧ Sta Z Z.heap "com/example/ferrybus/ferrybus/codec/PacketType" "SUBACK" "Lcom/example/ferrybus/ferrybus/codec/PacketType;" (.ref (A 4)) ∧ Exa Z Z.heap (A 4) "com/example/ferrybus/ferrybus/codec/PacketType" ∧ Sta Z Z.heap "com/example/ferrybus/ferrybus/codec/PacketType" "UNSUBSCRIBE" "Lcom/example/ferrybus/ferrybus/codec/PacketType;" (.ref (A 5)) ∧ Exa Z Z.heap (A 5) "com/example/ferrybus/ferrybus/codec/PacketType" ∧ Sta Z Z.heap "com/example/ferrybus/ferrybus/codec/PacketType" "UNSUBACK" "Lcom/example/ferrybus/ferrybus/codec/PacketType;" (.ref (A 6)) ∧ Exa Z Z.heap (A 6) "com/example/ferrybus/ferrybus/codec/PacketType" ∧ Sta Z Z.heap "com/example/ferrybus/ferrybus/codec/PacketType" "PUBACK" "Lcom/example/ferrybus/ferrybus/codec/PacketType;" (.ref (A 7)) ∧ Exa Z Z.heap (A 7) "com/example/ferrybus/ferrybus/codec/PacketType" ∧ Sta Z Z.heap "com/example/ferrybus/ferrybus/codec/PacketType" "PINGREQ" "Lcom/example/ferrybus/ferrybus/codec/PacketType;" (.ref (A 8)) ∧ Exa Z Z.heap (A 8) "com/example/ferrybus/ferrybus/codec/PacketType" ∧ Sta Z Z.heap "com/example/ferrybus/ferrybus/codec/PacketType" "PUBLISH" "Lcom/example/ferrybus/ferrybus/codec/PacketType;" (.ref (A 9)) ∧ Exa Z Z.heap (A 9) "com/example/ferrybus/ferrybus/codec/PacketType" ∧ Sta Z Z.heap "com/example/ferrybus/ferrybus/codec/PacketType" "PUBREC" "Lcom/example/ferrybus/ferrybus/codec/PacketType;" (.ref (A 10)) ∧ Exa Z Z.heap (A 10) "com/example/ferrybus/ferrybus/codec/PacketType" ∧ Sta Z Z.heap "com/example/ferrybus/ferrybus/codec/PacketType" "SUBSCRIBE" "Lcom/example/ferrybus/ferrybus/codec/PacketType;" (.ref (A 11)) ∧ Exa Z Z.heap (A 11) "com/example/ferrybus/ferrybus/codec/PacketType" ∧ Sta Z Z.heap "com/example/ferrybus/ferrybus/codec/PacketType" "PUBCOMP" "Lcom/example/ferrybus/ferrybus/codec/PacketType;" (.ref (A 12)) ∧ Exa Z Z.heap (A 12) "com/example/ferrybus/ferrybus/codec/PacketType" ∧ Sta Z Z.heap "com/example/ferrybus/ferrybus/codec/PacketType" "DISCONNECT" "Lcom/example/ferrybus/ferrybus/codec/PacketType;" (.ref (A 13)) ∧ Exa Z Z.heap (A 13) "com/example/ferrybus/ferrybus/codec/PacketType" ∧ Sta Z Z.heap "com/example/ferrybus/ferrybus/codec/PacketType" "PINGRESP" "Lcom/example/ferrybus/ferrybus/codec/PacketType;" (.ref (A 14)) ∧ Exa Z Z.heap (A 14) "com/example/ferrybus/ferrybus/codec/PacketType" ∧ Fld Z Z.heap (A 0) "com/example/ferrybus/ferrybus/codec/PacketType" "flags" "I" (.int (0 : Int32)) ∧ Fld Z Z.heap (A 1) "com/example/ferrybus/ferrybus/codec/PacketType" "flags" "I" (.int (0 : Int32)) ∧ Fld Z Z.heap (A 2) "com/example/ferrybus/ferrybus/codec/PacketType" "flags" "I" (.int (0 : Int32)) ∧ Fld Z Z.heap (A 3) "com/example/ferrybus/ferrybus/codec/PacketType" "flags" "I" (.int (2 : Int32)) ∧ Fld Z Z.heap (A 4) "com/example/ferrybus/ferrybus/codec/PacketType" "flags" "I" (.int (0 : Int32)) ∧ Fld Z Z.heap (A 5) "com/example/ferrybus/ferrybus/codec/PacketType" "flags" "I" (.int (2 : Int32)) ∧ Fld Z Z.heap (A 6) "com/example/ferrybus/ferrybus/codec/PacketType" "flags" "I" (.int (0 : Int32)) ∧ Fld Z Z.heap (A 7) "com/example/ferrybus/ferrybus/codec/PacketType" "flags" "I" (.int (0 : Int32)) ∧ Fld Z Z.heap (A 8) "com/example/ferrybus/ferrybus/codec/PacketType" "flags" "I" (.int (0 : Int32)) ∧ Fld Z Z.heap (A 9) "com/example/ferrybus/ferrybus/codec/PacketType" "flags" "I" (.int (-1 : Int32)) ∧ Fld Z Z.heap (A 10) "com/example/ferrybus/ferrybus/codec/PacketType" "flags" "I" (.int (0 : Int32)) ∧ Fld Z Z.heap (A 11) "com/example/ferrybus/ferrybus/codec/PacketType" "flags" "I" (.int (2 : Int32)) ∧ Fld Z Z.heap (A 12) "com/example/ferrybus/ferrybus/codec/PacketType" "flags" "I" (.int (0 : Int32)) ∧ Fld Z Z.heap (A 13) "com/example/ferrybus/ferrybus/codec/PacketType" "flags" "I" (.int (0 : Int32)) ∧ Fld Z Z.heap (A 14) "com/example/ferrybus/ferrybus/codec/PacketType" "flags" "I" (.int (0 : Int32))
theorem own_c15 (x : Int32) : ((x &&& (2147483647 : Int32)) % (15 : Int32)) = (0 : Int32) ∨ ((x &&& (2147483647 : Int32)) % (15 : Int32)) = (1 : Int32) ∨ ((x &&& (2147483647 : Int32)) % (15 : Int32)) = (2 : Int32) ∨ ((x &&& (2147483647 : Int32)) % (15 : Int32)) = (3 : Int32) ∨ ((x &&& (2147483647 : Int32)) % (15 : Int32)) = (4 : Int32) ∨ ((x &&& (2147483647 : Int32)) % (15 : Int32)) = (5 : Int32) ∨ ((x &&& (2147483647 : Int32)) % (15 : Int32)) = (6 : Int32) ∨ ((x &&& (2147483647 : Int32)) % (15 : Int32)) = (7 : Int32) ∨ ((x &&& (2147483647 : Int32)) % (15 : Int32)) = (8 : Int32) ∨ ((x &&& (2147483647 : Int32)) % (15 : Int32)) = (9 : Int32) ∨ ((x &&& (2147483647 : Int32)) % (15 : Int32)) = (10 : Int32) ∨ ((x &&& (2147483647 : Int32)) % (15 : Int32)) = (11 : Int32) ∨ ((x &&& (2147483647 : Int32)) % (15 : Int32)) = (12 : Int32) ∨ ((x &&& (2147483647 : Int32)) % (15 : Int32)) = (13 : Int32) ∨ ((x &&& (2147483647 : Int32)) % (15 : Int32)) = (14 : Int32) := by
  have h := own_rem (n := (15 : Int32)) (own_msk x) (by decide)
  generalize ((x &&& (2147483647 : Int32)) % (15 : Int32)) = i at h ⊢
  have hn : ((15 : Int32)).toInt = 15 := by decide
  rw [hn] at h
  rcases (by omega : i.toInt = 0 ∨ i.toInt = 1 ∨ i.toInt = 2 ∨ i.toInt = 3 ∨ i.toInt = 4 ∨ i.toInt = 5 ∨ i.toInt = 6 ∨ i.toInt = 7 ∨ i.toInt = 8 ∨ i.toInt = 9 ∨ i.toInt = 10 ∨ i.toInt = 11 ∨ i.toInt = 12 ∨ i.toInt = 13 ∨ i.toInt = 14) with q | q | q | q | q | q | q | q | q | q | q | q | q | q | q
  · exact Or.inl (Int32.toInt_inj.mp (q.trans (by decide : (0 : Int) = ((0 : Int32)).toInt)))
  · exact Or.inr (Or.inl (Int32.toInt_inj.mp (q.trans (by decide : (1 : Int) = ((1 : Int32)).toInt))))
  · exact Or.inr (Or.inr (Or.inl (Int32.toInt_inj.mp (q.trans (by decide : (2 : Int) = ((2 : Int32)).toInt)))))
  · exact Or.inr (Or.inr (Or.inr (Or.inl (Int32.toInt_inj.mp (q.trans (by decide : (3 : Int) = ((3 : Int32)).toInt))))))
  · exact Or.inr (Or.inr (Or.inr (Or.inr (Or.inl (Int32.toInt_inj.mp (q.trans (by decide : (4 : Int) = ((4 : Int32)).toInt)))))))
  · exact Or.inr (Or.inr (Or.inr (Or.inr (Or.inr (Or.inl (Int32.toInt_inj.mp (q.trans (by decide : (5 : Int) = ((5 : Int32)).toInt))))))))
  · exact Or.inr (Or.inr (Or.inr (Or.inr (Or.inr (Or.inr (Or.inl (Int32.toInt_inj.mp (q.trans (by decide : (6 : Int) = ((6 : Int32)).toInt)))))))))
  · exact Or.inr (Or.inr (Or.inr (Or.inr (Or.inr (Or.inr (Or.inr (Or.inl (Int32.toInt_inj.mp (q.trans (by decide : (7 : Int) = ((7 : Int32)).toInt))))))))))
  · exact Or.inr (Or.inr (Or.inr (Or.inr (Or.inr (Or.inr (Or.inr (Or.inr (Or.inl (Int32.toInt_inj.mp (q.trans (by decide : (8 : Int) = ((8 : Int32)).toInt)))))))))))
  · exact Or.inr (Or.inr (Or.inr (Or.inr (Or.inr (Or.inr (Or.inr (Or.inr (Or.inr (Or.inl (Int32.toInt_inj.mp (q.trans (by decide : (9 : Int) = ((9 : Int32)).toInt))))))))))))
  · exact Or.inr (Or.inr (Or.inr (Or.inr (Or.inr (Or.inr (Or.inr (Or.inr (Or.inr (Or.inr (Or.inl (Int32.toInt_inj.mp (q.trans (by decide : (10 : Int) = ((10 : Int32)).toInt)))))))))))))
  · exact Or.inr (Or.inr (Or.inr (Or.inr (Or.inr (Or.inr (Or.inr (Or.inr (Or.inr (Or.inr (Or.inr (Or.inl (Int32.toInt_inj.mp (q.trans (by decide : (11 : Int) = ((11 : Int32)).toInt))))))))))))))
  · exact Or.inr (Or.inr (Or.inr (Or.inr (Or.inr (Or.inr (Or.inr (Or.inr (Or.inr (Or.inr (Or.inr (Or.inr (Or.inl (Int32.toInt_inj.mp (q.trans (by decide : (12 : Int) = ((12 : Int32)).toInt)))))))))))))))
  · exact Or.inr (Or.inr (Or.inr (Or.inr (Or.inr (Or.inr (Or.inr (Or.inr (Or.inr (Or.inr (Or.inr (Or.inr (Or.inr (Or.inl (Int32.toInt_inj.mp (q.trans (by decide : (13 : Int) = ((13 : Int32)).toInt))))))))))))))))
  · exact Or.inr (Or.inr (Or.inr (Or.inr (Or.inr (Or.inr (Or.inr (Or.inr (Or.inr (Or.inr (Or.inr (Or.inr (Or.inr (Or.inr ((Int32.toInt_inj.mp (q.trans (by decide : (14 : Int) = ((14 : Int32)).toInt)))))))))))))))))
theorem pn_0 : plainName "com/example/ferrybus/ferrybus/codec/PacketTypeAllowsPinLaw" = true := by first | (simp [plainName, overriddenIn]; done) | decide +kernel
theorem ef_0 (m : MethodId) (x0 : Int32) (x1 : Int32) (x2 : Int32) : entryFrame m #[(.int x0), (.int x1), (.int x2)] maxLocals = mkF m 0 #[.val (.int x0), .val (.int x1), .val (.int x2), .unset, .unset, .unset, .unset, .unset] [] := by first | (simp [entryFrame, mkF, argsToLocals, Value.category, maxLocals]; done) | rfl
theorem ef_1 (m : MethodId) (x0 : Int32) : entryFrame m #[(.int x0)] 1 = mkF m 0 #[.val (.int x0)] [] := by first | (simp [entryFrame, mkF, argsToLocals, Value.category]; done) | rfl
theorem d1_0 : decode method_2_code 0 = .ok (.iload_n 0, 1) := by decide +kernel
theorem d1_1 : decode method_2_code 1 = .ok (.ifCond .ne 7, 3) := by decide +kernel
theorem d1_4 : decode method_2_code 4 = .ok (.getstatic 7, 3) := by decide +kernel
theorem d1_7 : decode method_2_code 7 = .ok (.areturn, 1) := by decide +kernel
theorem pd_0 : parseMethodDescriptor "(I)Lcom/example/ferrybus/ferrybus/codec/PacketType;" = some ⟨[.int], some (.object "com/example/ferrybus/ferrybus/codec/PacketType")⟩ := by decide +kernel
theorem pn_1 : plainName "com/example/ferrybus/ferrybus/codec/PacketType" = true := by first | (simp [plainName, overriddenIn]; done) | decide +kernel
theorem ef_2 (m : MethodId) (x0 : Addr) (x1 : Int32) : entryFrame m #[(.ref x0), (.int x1)] 2 = mkF m 0 #[.val (.ref x0), .val (.int x1)] [] := by first | (simp [entryFrame, mkF, argsToLocals, Value.category]; done) | rfl
theorem d2_0 : decode prog_32_method_5_code 0 = .ok (.aload_n 0, 1) := by decide +kernel
theorem d2_1 : decode prog_32_method_5_code 1 = .ok (.getfield 72, 3) := by decide +kernel
theorem d2_4 : decode prog_32_method_5_code 4 = .ok (.iconst (-1), 1) := by decide +kernel
theorem d2_5 : decode prog_32_method_5_code 5 = .ok (.if_icmp .eq 11, 3) := by decide +kernel
theorem d2_8 : decode prog_32_method_5_code 8 = .ok (.aload_n 0, 1) := by decide +kernel
theorem d2_9 : decode prog_32_method_5_code 9 = .ok (.getfield 72, 3) := by decide +kernel
theorem d2_12 : decode prog_32_method_5_code 12 = .ok (.iload_n 1, 1) := by decide +kernel
theorem d2_13 : decode prog_32_method_5_code 13 = .ok (.if_icmp .ne 7, 3) := by decide +kernel
theorem d2_16 : decode prog_32_method_5_code 16 = .ok (.iconst 1, 1) := by decide +kernel
theorem d2_17 : decode prog_32_method_5_code 17 = .ok (.goto 4, 3) := by decide +kernel
theorem d2_21 : decode prog_32_method_5_code 21 = .ok (.ireturn, 1) := by decide +kernel
theorem pd_1 : parseMethodDescriptor "(I)Z" = some ⟨[.int], some .boolean⟩ := by decide +kernel
theorem d2_20 : decode prog_32_method_5_code 20 = .ok (.iconst 0, 1) := by decide +kernel
theorem d1_8 : decode method_2_code 8 = .ok (.iload_n 0, 1) := by decide +kernel
theorem d1_9 : decode method_2_code 9 = .ok (.iconst 1, 1) := by decide +kernel
theorem d1_10 : decode method_2_code 10 = .ok (.if_icmp .ne 7, 3) := by decide +kernel
theorem d1_13 : decode method_2_code 13 = .ok (.getstatic 13, 3) := by decide +kernel
theorem d1_16 : decode method_2_code 16 = .ok (.areturn, 1) := by decide +kernel
theorem d1_17 : decode method_2_code 17 = .ok (.iload_n 0, 1) := by decide +kernel
theorem d1_18 : decode method_2_code 18 = .ok (.iconst 2, 1) := by decide +kernel
theorem d1_19 : decode method_2_code 19 = .ok (.if_icmp .ne 7, 3) := by decide +kernel
theorem d1_22 : decode method_2_code 22 = .ok (.getstatic 16, 3) := by decide +kernel
theorem d1_25 : decode method_2_code 25 = .ok (.areturn, 1) := by decide +kernel
theorem d1_26 : decode method_2_code 26 = .ok (.iload_n 0, 1) := by decide +kernel
theorem d1_27 : decode method_2_code 27 = .ok (.iconst 3, 1) := by decide +kernel
theorem d1_28 : decode method_2_code 28 = .ok (.if_icmp .ne 7, 3) := by decide +kernel
theorem d1_31 : decode method_2_code 31 = .ok (.getstatic 19, 3) := by decide +kernel
theorem d1_34 : decode method_2_code 34 = .ok (.areturn, 1) := by decide +kernel
theorem d1_35 : decode method_2_code 35 = .ok (.iload_n 0, 1) := by decide +kernel
theorem d1_36 : decode method_2_code 36 = .ok (.iconst 4, 1) := by decide +kernel
theorem d1_37 : decode method_2_code 37 = .ok (.if_icmp .ne 7, 3) := by decide +kernel
theorem d1_40 : decode method_2_code 40 = .ok (.getstatic 22, 3) := by decide +kernel
theorem d1_43 : decode method_2_code 43 = .ok (.areturn, 1) := by decide +kernel
theorem d1_44 : decode method_2_code 44 = .ok (.iload_n 0, 1) := by decide +kernel
theorem d1_45 : decode method_2_code 45 = .ok (.iconst 5, 1) := by decide +kernel
theorem d1_46 : decode method_2_code 46 = .ok (.if_icmp .ne 7, 3) := by decide +kernel
theorem d1_49 : decode method_2_code 49 = .ok (.getstatic 25, 3) := by decide +kernel
theorem d1_52 : decode method_2_code 52 = .ok (.areturn, 1) := by decide +kernel
theorem d1_53 : decode method_2_code 53 = .ok (.iload_n 0, 1) := by decide +kernel
theorem d1_54 : decode method_2_code 54 = .ok (.bipush 6, 2) := by decide +kernel
theorem d1_56 : decode method_2_code 56 = .ok (.if_icmp .ne 7, 3) := by decide +kernel
theorem d1_59 : decode method_2_code 59 = .ok (.getstatic 28, 3) := by decide +kernel
theorem d1_62 : decode method_2_code 62 = .ok (.areturn, 1) := by decide +kernel
theorem d1_63 : decode method_2_code 63 = .ok (.iload_n 0, 1) := by decide +kernel
theorem d1_64 : decode method_2_code 64 = .ok (.bipush 7, 2) := by decide +kernel
theorem d1_66 : decode method_2_code 66 = .ok (.if_icmp .ne 7, 3) := by decide +kernel
theorem d1_69 : decode method_2_code 69 = .ok (.getstatic 31, 3) := by decide +kernel
theorem d1_72 : decode method_2_code 72 = .ok (.areturn, 1) := by decide +kernel
theorem d1_73 : decode method_2_code 73 = .ok (.iload_n 0, 1) := by decide +kernel
theorem d1_74 : decode method_2_code 74 = .ok (.bipush 8, 2) := by decide +kernel
theorem d1_76 : decode method_2_code 76 = .ok (.if_icmp .ne 7, 3) := by decide +kernel
theorem d1_79 : decode method_2_code 79 = .ok (.getstatic 34, 3) := by decide +kernel
theorem d1_82 : decode method_2_code 82 = .ok (.areturn, 1) := by decide +kernel
theorem d1_83 : decode method_2_code 83 = .ok (.iload_n 0, 1) := by decide +kernel
theorem d1_84 : decode method_2_code 84 = .ok (.bipush 9, 2) := by decide +kernel
theorem d1_86 : decode method_2_code 86 = .ok (.if_icmp .ne 7, 3) := by decide +kernel
theorem d1_89 : decode method_2_code 89 = .ok (.getstatic 37, 3) := by decide +kernel
theorem d1_92 : decode method_2_code 92 = .ok (.areturn, 1) := by decide +kernel
theorem d1_93 : decode method_2_code 93 = .ok (.iload_n 0, 1) := by decide +kernel
theorem d1_94 : decode method_2_code 94 = .ok (.bipush 10, 2) := by decide +kernel
theorem d1_96 : decode method_2_code 96 = .ok (.if_icmp .ne 7, 3) := by decide +kernel
theorem d1_99 : decode method_2_code 99 = .ok (.getstatic 40, 3) := by decide +kernel
theorem d1_102 : decode method_2_code 102 = .ok (.areturn, 1) := by decide +kernel
theorem d1_103 : decode method_2_code 103 = .ok (.iload_n 0, 1) := by decide +kernel
theorem d1_104 : decode method_2_code 104 = .ok (.bipush 11, 2) := by decide +kernel
theorem d1_106 : decode method_2_code 106 = .ok (.if_icmp .ne 7, 3) := by decide +kernel
theorem d1_109 : decode method_2_code 109 = .ok (.getstatic 43, 3) := by decide +kernel
theorem d1_112 : decode method_2_code 112 = .ok (.areturn, 1) := by decide +kernel
theorem d1_113 : decode method_2_code 113 = .ok (.iload_n 0, 1) := by decide +kernel
theorem d1_114 : decode method_2_code 114 = .ok (.bipush 12, 2) := by decide +kernel
theorem d1_116 : decode method_2_code 116 = .ok (.if_icmp .ne 7, 3) := by decide +kernel
theorem d1_119 : decode method_2_code 119 = .ok (.getstatic 46, 3) := by decide +kernel
theorem d1_122 : decode method_2_code 122 = .ok (.areturn, 1) := by decide +kernel
theorem d1_123 : decode method_2_code 123 = .ok (.iload_n 0, 1) := by decide +kernel
theorem d1_124 : decode method_2_code 124 = .ok (.bipush 13, 2) := by decide +kernel
theorem d1_126 : decode method_2_code 126 = .ok (.if_icmp .ne 7, 3) := by decide +kernel
theorem d1_129 : decode method_2_code 129 = .ok (.getstatic 49, 3) := by decide +kernel
theorem d1_132 : decode method_2_code 132 = .ok (.areturn, 1) := by decide +kernel
theorem d1_133 : decode method_2_code 133 = .ok (.getstatic 52, 3) := by decide +kernel
theorem d1_136 : decode method_2_code 136 = .ok (.areturn, 1) := by decide +kernel
set_option maxRecDepth 65536 in
set_option maxHeartbeats 40000000 in
theorem rm1_0 (l : Launch) (Z : State) (a0 : Array Value) (hw : ∀ d ∈ tables_1, d.before a0 Z = true) (ws : List Jvm.Cond)  (A : Nat → Addr) (hW : own_W Z A) (h0 : Heap) (x0 : Ext Z.heap h0)  :
    own_Met l Z (⟨"com/example/ferrybus/ferrybus/codec/PacketTypeAllowsPinLaw", "pick", "(I)Lcom/example/ferrybus/ferrybus/codec/PacketType;"⟩ : MethodName) method_2_code 1 (some (.object "com/example/ferrybus/ferrybus/codec/PacketType")) ws ({ frames := 0, cells := 0, slots := 0, locals := 0 } : Room) #[(.int (0 : Int32))] h0 (fun v_ h_ L_ => v_ = some (.ref (A 0)) ∧ Fr Z.heap.size L_ ∧ h_ = h0) := by
  refine own_body (plainFor_of_name pn_0) fun p e s m below meth c s₁ hx hby hml hown hnm hlk hrt hZ X0 e0 => ?_
  have N0 := Fr.nil Z.heap.size
  have hW' := hW
  obtain ⟨S_CONNECT, -, -, -, -, -, -, -, -, -, -, -, -, -, -, -, -, -, -, -, -, -, -, -, -, -, -, -, -, -, -, -, -, -, -, -, -, -, -, -, -, -, -, -, -⟩ := hW'
  refine own_go (B := s₁.setTop (mkF m 0 #[.val (.int (0 : Int32))] [])) (fun t k => castTop (ef_1 m (0 : Int32)) k) ?_
  refine own_go (B := s₁.setTop (mkF m 1 #[.val (.int (0 : Int32))] [(.int (0 : Int32))])) (fun _ k => XS.iloadN X0.here hx rfl (hb hby d1_0) rfl k) ?_
  refine own_go (B := s₁.setTop (mkF m 4 #[.val (.int (0 : Int32))] [])) (fun _ k => XS.ifNo X0.here hx rfl (hb hby d1_1) rfl (by decide) k) ?_
  obtain ⟨T1, X1, e1, st1⟩ := getS2 X0 hx hZ hown (host := "") (Or.inl (hw _ (List.mem_of_getElem? (i := 5) rfl))) Via.refl e0 (S_CONNECT.ext x0) (g := (mkF m 4 #[.val (.int (0 : Int32))] [])) rfl (hb hby d1_4)
  refine own_go (B := T1.setTop (mkF m 7 #[.val (.int (0 : Int32))] [(.ref (A 0))])) st1 ?_
  exact own_ret X1 hx (t := (.object "com/example/ferrybus/ferrybus/codec/PacketType")) hrt rfl (Or.inr (Or.inr (Or.inr (Or.inr ⟨rfl, rfl, rfl⟩)))) (hb hby d1_7) hlk ⟨rfl, N0, e1⟩ (by decide) (by decide)
set_option maxRecDepth 65536 in
set_option maxHeartbeats 40000000 in
theorem rm2_0 (l : Launch) (Z : State) (a0 : Array Value) (hw : ∀ d ∈ tables_1, d.before a0 Z = true) (ws : List Jvm.Cond) (fl : Int32) (A : Nat → Addr) (hW : own_W Z A) (h0 : Heap) (x0 : Ext Z.heap h0) (kq13 : (0 : Int32) = fl) :
    own_Met l Z (⟨"com/example/ferrybus/ferrybus/codec/PacketType", "allows", "(I)Z"⟩ : MethodName) prog_32_method_5_code 2 (some .boolean) ws ({ frames := 0, cells := 0, slots := 0, locals := 0 } : Room) #[(.ref (A 0)), (.int fl)] h0 (fun v_ h_ L_ => v_ = some (.int (1 : Int32)) ∧ Fr Z.heap.size L_ ∧ h_ = h0) := by
  refine own_body (plainFor_of_name pn_1) fun p e s m below meth c s₁ hx hby hml hown hnm hlk hrt hZ X0 e0 => ?_
  have N0 := Fr.nil Z.heap.size
  have hW' := hW
  obtain ⟨-, -, -, -, -, -, -, -, -, -, -, -, -, -, -, -, -, -, -, -, -, -, -, -, -, -, -, -, -, -, F_CONNECT_flags, -, -, -, -, -, -, -, -, -, -, -, -, -, -⟩ := hW'
  refine own_go (B := s₁.setTop (mkF m 0 #[.val (.ref (A 0)), .val (.int fl)] [])) (fun t k => castTop (ef_2 m (A 0) fl) k) ?_
  refine own_go (B := s₁.setTop (mkF m 1 #[.val (.ref (A 0)), .val (.int fl)] [(.ref (A 0))])) (fun _ k => XS.aloadN X0.here hx rfl (hb hby d2_0) rfl rfl k) ?_
  obtain ⟨T1, X1, e1, st1⟩ := getF X0 hx hZ hown (host := "") (Or.inl (hw _ (List.mem_of_getElem? (i := 13) rfl))) Via.refl e0 (F_CONNECT_flags.ext x0) (g := (mkF m 1 #[.val (.ref (A 0)), .val (.int fl)] [(.ref (A 0))])) rfl rfl (hb hby d2_1)
  refine own_go (B := T1.setTop (mkF m 4 #[.val (.ref (A 0)), .val (.int fl)] [(.int (0 : Int32))])) st1 ?_
  refine own_go (B := T1.setTop (mkF m 5 #[.val (.ref (A 0)), .val (.int fl)] [(.int (-1 : Int32)), (.int (0 : Int32))])) (fun _ k => XT.iconstV X1.here hx rfl (-1 : Int32) (hb hby d2_4) rfl k) ?_
  refine own_go (B := T1.setTop (mkF m 8 #[.val (.ref (A 0)), .val (.int fl)] [])) (fun _ k => XS.icmpNo X1.here hx rfl (hb hby d2_5) rfl (by decide) k) ?_
  refine own_go (B := T1.setTop (mkF m 9 #[.val (.ref (A 0)), .val (.int fl)] [(.ref (A 0))])) (fun _ k => XS.aloadN X1.here hx rfl (hb hby d2_8) rfl rfl k) ?_
  obtain ⟨T2, X2, e2, st2⟩ := getF X1 hx hZ hown (host := "") (Or.inl (hw _ (List.mem_of_getElem? (i := 13) rfl))) Via.refl e1 (F_CONNECT_flags.ext x0) (g := (mkF m 9 #[.val (.ref (A 0)), .val (.int fl)] [(.ref (A 0))])) rfl rfl (hb hby d2_9)
  refine own_go (B := T2.setTop (mkF m 12 #[.val (.ref (A 0)), .val (.int fl)] [(.int (0 : Int32))])) st2 ?_
  refine own_go (B := T2.setTop (mkF m 13 #[.val (.ref (A 0)), .val (.int fl)] [(.int fl), (.int (0 : Int32))])) (fun _ k => XS.iloadN X2.here hx rfl (hb hby d2_12) rfl k) ?_
  refine own_go (B := T2.setTop (mkF m 16 #[.val (.ref (A 0)), .val (.int fl)] [])) (fun _ k => XS.icmpNo X2.here hx rfl (hb hby d2_13) rfl (teq kq13).2 k) ?_
  refine own_go (B := T2.setTop (mkF m 17 #[.val (.ref (A 0)), .val (.int fl)] [(.int (1 : Int32))])) (fun _ k => XT.iconstV X2.here hx rfl (1 : Int32) (hb hby d2_16) rfl k) ?_
  refine own_go (B := T2.setTop (mkF m 21 #[.val (.ref (A 0)), .val (.int fl)] [(.int (1 : Int32))])) (fun _ k => XS.goto X2.here hx rfl (pc0 := 17) (pc' := 21) rfl (hb hby d2_17) (by decide) (by decide) k) ?_
  exact own_ret X2 hx (t := .boolean) hrt rfl (Or.inl ⟨rfl, by simp, _, rfl⟩) (hb hby d2_21) hlk ⟨rfl, N0, e2⟩ (by decide) (by decide)
set_option maxRecDepth 65536 in
set_option maxHeartbeats 40000000 in
theorem rm2_1 (l : Launch) (Z : State) (a0 : Array Value) (hw : ∀ d ∈ tables_1, d.before a0 Z = true) (ws : List Jvm.Cond) (fl : Int32) (A : Nat → Addr) (hW : own_W Z A) (h0 : Heap) (x0 : Ext Z.heap h0) (kq13 : ¬ (0 : Int32) = fl) :
    own_Met l Z (⟨"com/example/ferrybus/ferrybus/codec/PacketType", "allows", "(I)Z"⟩ : MethodName) prog_32_method_5_code 2 (some .boolean) ws ({ frames := 0, cells := 0, slots := 0, locals := 0 } : Room) #[(.ref (A 0)), (.int fl)] h0 (fun v_ h_ L_ => v_ = some (.int (0 : Int32)) ∧ Fr Z.heap.size L_ ∧ h_ = h0) := by
  refine own_body (plainFor_of_name pn_1) fun p e s m below meth c s₁ hx hby hml hown hnm hlk hrt hZ X0 e0 => ?_
  have N0 := Fr.nil Z.heap.size
  have hW' := hW
  obtain ⟨-, -, -, -, -, -, -, -, -, -, -, -, -, -, -, -, -, -, -, -, -, -, -, -, -, -, -, -, -, -, F_CONNECT_flags, -, -, -, -, -, -, -, -, -, -, -, -, -, -⟩ := hW'
  refine own_go (B := s₁.setTop (mkF m 0 #[.val (.ref (A 0)), .val (.int fl)] [])) (fun t k => castTop (ef_2 m (A 0) fl) k) ?_
  refine own_go (B := s₁.setTop (mkF m 1 #[.val (.ref (A 0)), .val (.int fl)] [(.ref (A 0))])) (fun _ k => XS.aloadN X0.here hx rfl (hb hby d2_0) rfl rfl k) ?_
  obtain ⟨T1, X1, e1, st1⟩ := getF X0 hx hZ hown (host := "") (Or.inl (hw _ (List.mem_of_getElem? (i := 13) rfl))) Via.refl e0 (F_CONNECT_flags.ext x0) (g := (mkF m 1 #[.val (.ref (A 0)), .val (.int fl)] [(.ref (A 0))])) rfl rfl (hb hby d2_1)
  refine own_go (B := T1.setTop (mkF m 4 #[.val (.ref (A 0)), .val (.int fl)] [(.int (0 : Int32))])) st1 ?_
  refine own_go (B := T1.setTop (mkF m 5 #[.val (.ref (A 0)), .val (.int fl)] [(.int (-1 : Int32)), (.int (0 : Int32))])) (fun _ k => XT.iconstV X1.here hx rfl (-1 : Int32) (hb hby d2_4) rfl k) ?_
  refine own_go (B := T1.setTop (mkF m 8 #[.val (.ref (A 0)), .val (.int fl)] [])) (fun _ k => XS.icmpNo X1.here hx rfl (hb hby d2_5) rfl (by decide) k) ?_
  refine own_go (B := T1.setTop (mkF m 9 #[.val (.ref (A 0)), .val (.int fl)] [(.ref (A 0))])) (fun _ k => XS.aloadN X1.here hx rfl (hb hby d2_8) rfl rfl k) ?_
  obtain ⟨T2, X2, e2, st2⟩ := getF X1 hx hZ hown (host := "") (Or.inl (hw _ (List.mem_of_getElem? (i := 13) rfl))) Via.refl e1 (F_CONNECT_flags.ext x0) (g := (mkF m 9 #[.val (.ref (A 0)), .val (.int fl)] [(.ref (A 0))])) rfl rfl (hb hby d2_9)
  refine own_go (B := T2.setTop (mkF m 12 #[.val (.ref (A 0)), .val (.int fl)] [(.int (0 : Int32))])) st2 ?_
  refine own_go (B := T2.setTop (mkF m 13 #[.val (.ref (A 0)), .val (.int fl)] [(.int fl), (.int (0 : Int32))])) (fun _ k => XS.iloadN X2.here hx rfl (hb hby d2_12) rfl k) ?_
  refine own_go (B := T2.setTop (mkF m 20 #[.val (.ref (A 0)), .val (.int fl)] [])) (fun _ k => XS.icmpYes X2.here hx rfl (pc0 := 13) (pc' := 20) rfl (hb hby d2_13) rfl (feq kq13).2 (by decide) (by decide) k) ?_
  refine own_go (B := T2.setTop (mkF m 21 #[.val (.ref (A 0)), .val (.int fl)] [(.int (0 : Int32))])) (fun _ k => XT.iconstV X2.here hx rfl (0 : Int32) (hb hby d2_20) rfl k) ?_
  exact own_ret X2 hx (t := .boolean) hrt rfl (Or.inl ⟨rfl, by simp, _, rfl⟩) (hb hby d2_21) hlk ⟨rfl, N0, e2⟩ (by decide) (by decide)
set_option maxRecDepth 65536 in
set_option maxHeartbeats 40000000 in
theorem rm1_1 (l : Launch) (Z : State) (a0 : Array Value) (hw : ∀ d ∈ tables_1, d.before a0 Z = true) (ws : List Jvm.Cond)  (A : Nat → Addr) (hW : own_W Z A) (h0 : Heap) (x0 : Ext Z.heap h0)  :
    own_Met l Z (⟨"com/example/ferrybus/ferrybus/codec/PacketTypeAllowsPinLaw", "pick", "(I)Lcom/example/ferrybus/ferrybus/codec/PacketType;"⟩ : MethodName) method_2_code 1 (some (.object "com/example/ferrybus/ferrybus/codec/PacketType")) ws ({ frames := 0, cells := 0, slots := 0, locals := 0 } : Room) #[(.int (1 : Int32))] h0 (fun v_ h_ L_ => v_ = some (.ref (A 1)) ∧ Fr Z.heap.size L_ ∧ h_ = h0) := by
  refine own_body (plainFor_of_name pn_0) fun p e s m below meth c s₁ hx hby hml hown hnm hlk hrt hZ X0 e0 => ?_
  have N0 := Fr.nil Z.heap.size
  have hW' := hW
  obtain ⟨-, -, S_CONNACK, -, -, -, -, -, -, -, -, -, -, -, -, -, -, -, -, -, -, -, -, -, -, -, -, -, -, -, -, -, -, -, -, -, -, -, -, -, -, -, -, -, -⟩ := hW'
  refine own_go (B := s₁.setTop (mkF m 0 #[.val (.int (1 : Int32))] [])) (fun t k => castTop (ef_1 m (1 : Int32)) k) ?_
  refine own_go (B := s₁.setTop (mkF m 1 #[.val (.int (1 : Int32))] [(.int (1 : Int32))])) (fun _ k => XS.iloadN X0.here hx rfl (hb hby d1_0) rfl k) ?_
  refine own_go (B := s₁.setTop (mkF m 8 #[.val (.int (1 : Int32))] [])) (fun _ k => XS.ifYes X0.here hx rfl (pc0 := 1) (pc' := 8) rfl (hb hby d1_1) rfl (by decide) (by decide) (by decide) k) ?_
  refine own_go (B := s₁.setTop (mkF m 9 #[.val (.int (1 : Int32))] [(.int (1 : Int32))])) (fun _ k => XS.iloadN X0.here hx rfl (hb hby d1_8) rfl k) ?_
  refine own_go (B := s₁.setTop (mkF m 10 #[.val (.int (1 : Int32))] [(.int (1 : Int32)), (.int (1 : Int32))])) (fun _ k => XT.iconstV X0.here hx rfl (1 : Int32) (hb hby d1_9) rfl k) ?_
  refine own_go (B := s₁.setTop (mkF m 13 #[.val (.int (1 : Int32))] [])) (fun _ k => XS.icmpNo X0.here hx rfl (hb hby d1_10) rfl (by decide) k) ?_
  obtain ⟨T1, X1, e1, st1⟩ := getS2 X0 hx hZ hown (host := "") (Or.inl (hw _ (List.mem_of_getElem? (i := 15) rfl))) Via.refl e0 (S_CONNACK.ext x0) (g := (mkF m 13 #[.val (.int (1 : Int32))] [])) rfl (hb hby d1_13)
  refine own_go (B := T1.setTop (mkF m 16 #[.val (.int (1 : Int32))] [(.ref (A 1))])) st1 ?_
  exact own_ret X1 hx (t := (.object "com/example/ferrybus/ferrybus/codec/PacketType")) hrt rfl (Or.inr (Or.inr (Or.inr (Or.inr ⟨rfl, rfl, rfl⟩)))) (hb hby d1_16) hlk ⟨rfl, N0, e1⟩ (by decide) (by decide)
set_option maxRecDepth 65536 in
set_option maxHeartbeats 40000000 in
theorem rm2_2 (l : Launch) (Z : State) (a0 : Array Value) (hw : ∀ d ∈ tables_1, d.before a0 Z = true) (ws : List Jvm.Cond) (fl : Int32) (A : Nat → Addr) (hW : own_W Z A) (h0 : Heap) (x0 : Ext Z.heap h0) (kq13 : (0 : Int32) = fl) :
    own_Met l Z (⟨"com/example/ferrybus/ferrybus/codec/PacketType", "allows", "(I)Z"⟩ : MethodName) prog_32_method_5_code 2 (some .boolean) ws ({ frames := 0, cells := 0, slots := 0, locals := 0 } : Room) #[(.ref (A 1)), (.int fl)] h0 (fun v_ h_ L_ => v_ = some (.int (1 : Int32)) ∧ Fr Z.heap.size L_ ∧ h_ = h0) := by
  refine own_body (plainFor_of_name pn_1) fun p e s m below meth c s₁ hx hby hml hown hnm hlk hrt hZ X0 e0 => ?_
  have N0 := Fr.nil Z.heap.size
  have hW' := hW
  obtain ⟨-, -, -, -, -, -, -, -, -, -, -, -, -, -, -, -, -, -, -, -, -, -, -, -, -, -, -, -, -, -, -, F_CONNACK_flags, -, -, -, -, -, -, -, -, -, -, -, -, -⟩ := hW'
  refine own_go (B := s₁.setTop (mkF m 0 #[.val (.ref (A 1)), .val (.int fl)] [])) (fun t k => castTop (ef_2 m (A 1) fl) k) ?_
  refine own_go (B := s₁.setTop (mkF m 1 #[.val (.ref (A 1)), .val (.int fl)] [(.ref (A 1))])) (fun _ k => XS.aloadN X0.here hx rfl (hb hby d2_0) rfl rfl k) ?_
  obtain ⟨T1, X1, e1, st1⟩ := getF X0 hx hZ hown (host := "") (Or.inl (hw _ (List.mem_of_getElem? (i := 13) rfl))) Via.refl e0 (F_CONNACK_flags.ext x0) (g := (mkF m 1 #[.val (.ref (A 1)), .val (.int fl)] [(.ref (A 1))])) rfl rfl (hb hby d2_1)
  refine own_go (B := T1.setTop (mkF m 4 #[.val (.ref (A 1)), .val (.int fl)] [(.int (0 : Int32))])) st1 ?_
  refine own_go (B := T1.setTop (mkF m 5 #[.val (.ref (A 1)), .val (.int fl)] [(.int (-1 : Int32)), (.int (0 : Int32))])) (fun _ k => XT.iconstV X1.here hx rfl (-1 : Int32) (hb hby d2_4) rfl k) ?_
  refine own_go (B := T1.setTop (mkF m 8 #[.val (.ref (A 1)), .val (.int fl)] [])) (fun _ k => XS.icmpNo X1.here hx rfl (hb hby d2_5) rfl (by decide) k) ?_
  refine own_go (B := T1.setTop (mkF m 9 #[.val (.ref (A 1)), .val (.int fl)] [(.ref (A 1))])) (fun _ k => XS.aloadN X1.here hx rfl (hb hby d2_8) rfl rfl k) ?_
  obtain ⟨T2, X2, e2, st2⟩ := getF X1 hx hZ hown (host := "") (Or.inl (hw _ (List.mem_of_getElem? (i := 13) rfl))) Via.refl e1 (F_CONNACK_flags.ext x0) (g := (mkF m 9 #[.val (.ref (A 1)), .val (.int fl)] [(.ref (A 1))])) rfl rfl (hb hby d2_9)
  refine own_go (B := T2.setTop (mkF m 12 #[.val (.ref (A 1)), .val (.int fl)] [(.int (0 : Int32))])) st2 ?_
  refine own_go (B := T2.setTop (mkF m 13 #[.val (.ref (A 1)), .val (.int fl)] [(.int fl), (.int (0 : Int32))])) (fun _ k => XS.iloadN X2.here hx rfl (hb hby d2_12) rfl k) ?_
  refine own_go (B := T2.setTop (mkF m 16 #[.val (.ref (A 1)), .val (.int fl)] [])) (fun _ k => XS.icmpNo X2.here hx rfl (hb hby d2_13) rfl (teq kq13).2 k) ?_
  refine own_go (B := T2.setTop (mkF m 17 #[.val (.ref (A 1)), .val (.int fl)] [(.int (1 : Int32))])) (fun _ k => XT.iconstV X2.here hx rfl (1 : Int32) (hb hby d2_16) rfl k) ?_
  refine own_go (B := T2.setTop (mkF m 21 #[.val (.ref (A 1)), .val (.int fl)] [(.int (1 : Int32))])) (fun _ k => XS.goto X2.here hx rfl (pc0 := 17) (pc' := 21) rfl (hb hby d2_17) (by decide) (by decide) k) ?_
  exact own_ret X2 hx (t := .boolean) hrt rfl (Or.inl ⟨rfl, by simp, _, rfl⟩) (hb hby d2_21) hlk ⟨rfl, N0, e2⟩ (by decide) (by decide)
set_option maxRecDepth 65536 in
set_option maxHeartbeats 40000000 in
theorem rm2_3 (l : Launch) (Z : State) (a0 : Array Value) (hw : ∀ d ∈ tables_1, d.before a0 Z = true) (ws : List Jvm.Cond) (fl : Int32) (A : Nat → Addr) (hW : own_W Z A) (h0 : Heap) (x0 : Ext Z.heap h0) (kq13 : ¬ (0 : Int32) = fl) :
    own_Met l Z (⟨"com/example/ferrybus/ferrybus/codec/PacketType", "allows", "(I)Z"⟩ : MethodName) prog_32_method_5_code 2 (some .boolean) ws ({ frames := 0, cells := 0, slots := 0, locals := 0 } : Room) #[(.ref (A 1)), (.int fl)] h0 (fun v_ h_ L_ => v_ = some (.int (0 : Int32)) ∧ Fr Z.heap.size L_ ∧ h_ = h0) := by
  refine own_body (plainFor_of_name pn_1) fun p e s m below meth c s₁ hx hby hml hown hnm hlk hrt hZ X0 e0 => ?_
  have N0 := Fr.nil Z.heap.size
  have hW' := hW
  obtain ⟨-, -, -, -, -, -, -, -, -, -, -, -, -, -, -, -, -, -, -, -, -, -, -, -, -, -, -, -, -, -, -, F_CONNACK_flags, -, -, -, -, -, -, -, -, -, -, -, -, -⟩ := hW'
  refine own_go (B := s₁.setTop (mkF m 0 #[.val (.ref (A 1)), .val (.int fl)] [])) (fun t k => castTop (ef_2 m (A 1) fl) k) ?_
  refine own_go (B := s₁.setTop (mkF m 1 #[.val (.ref (A 1)), .val (.int fl)] [(.ref (A 1))])) (fun _ k => XS.aloadN X0.here hx rfl (hb hby d2_0) rfl rfl k) ?_
  obtain ⟨T1, X1, e1, st1⟩ := getF X0 hx hZ hown (host := "") (Or.inl (hw _ (List.mem_of_getElem? (i := 13) rfl))) Via.refl e0 (F_CONNACK_flags.ext x0) (g := (mkF m 1 #[.val (.ref (A 1)), .val (.int fl)] [(.ref (A 1))])) rfl rfl (hb hby d2_1)
  refine own_go (B := T1.setTop (mkF m 4 #[.val (.ref (A 1)), .val (.int fl)] [(.int (0 : Int32))])) st1 ?_
  refine own_go (B := T1.setTop (mkF m 5 #[.val (.ref (A 1)), .val (.int fl)] [(.int (-1 : Int32)), (.int (0 : Int32))])) (fun _ k => XT.iconstV X1.here hx rfl (-1 : Int32) (hb hby d2_4) rfl k) ?_
  refine own_go (B := T1.setTop (mkF m 8 #[.val (.ref (A 1)), .val (.int fl)] [])) (fun _ k => XS.icmpNo X1.here hx rfl (hb hby d2_5) rfl (by decide) k) ?_
  refine own_go (B := T1.setTop (mkF m 9 #[.val (.ref (A 1)), .val (.int fl)] [(.ref (A 1))])) (fun _ k => XS.aloadN X1.here hx rfl (hb hby d2_8) rfl rfl k) ?_
  obtain ⟨T2, X2, e2, st2⟩ := getF X1 hx hZ hown (host := "") (Or.inl (hw _ (List.mem_of_getElem? (i := 13) rfl))) Via.refl e1 (F_CONNACK_flags.ext x0) (g := (mkF m 9 #[.val (.ref (A 1)), .val (.int fl)] [(.ref (A 1))])) rfl rfl (hb hby d2_9)
  refine own_go (B := T2.setTop (mkF m 12 #[.val (.ref (A 1)), .val (.int fl)] [(.int (0 : Int32))])) st2 ?_
  refine own_go (B := T2.setTop (mkF m 13 #[.val (.ref (A 1)), .val (.int fl)] [(.int fl), (.int (0 : Int32))])) (fun _ k => XS.iloadN X2.here hx rfl (hb hby d2_12) rfl k) ?_
  refine own_go (B := T2.setTop (mkF m 20 #[.val (.ref (A 1)), .val (.int fl)] [])) (fun _ k => XS.icmpYes X2.here hx rfl (pc0 := 13) (pc' := 20) rfl (hb hby d2_13) rfl (feq kq13).2 (by decide) (by decide) k) ?_
  refine own_go (B := T2.setTop (mkF m 21 #[.val (.ref (A 1)), .val (.int fl)] [(.int (0 : Int32))])) (fun _ k => XT.iconstV X2.here hx rfl (0 : Int32) (hb hby d2_20) rfl k) ?_
  exact own_ret X2 hx (t := .boolean) hrt rfl (Or.inl ⟨rfl, by simp, _, rfl⟩) (hb hby d2_21) hlk ⟨rfl, N0, e2⟩ (by decide) (by decide)
set_option maxRecDepth 65536 in
set_option maxHeartbeats 40000000 in
theorem rm1_2 (l : Launch) (Z : State) (a0 : Array Value) (hw : ∀ d ∈ tables_1, d.before a0 Z = true) (ws : List Jvm.Cond)  (A : Nat → Addr) (hW : own_W Z A) (h0 : Heap) (x0 : Ext Z.heap h0)  :
    own_Met l Z (⟨"com/example/ferrybus/ferrybus/codec/PacketTypeAllowsPinLaw", "pick", "(I)Lcom/example/ferrybus/ferrybus/codec/PacketType;"⟩ : MethodName) method_2_code 1 (some (.object "com/example/ferrybus/ferrybus/codec/PacketType")) ws ({ frames := 0, cells := 0, slots := 0, locals := 0 } : Room) #[(.int (2 : Int32))] h0 (fun v_ h_ L_ => v_ = some (.ref (A 9)) ∧ Fr Z.heap.size L_ ∧ h_ = h0) := by
  refine own_body (plainFor_of_name pn_0) fun p e s m below meth c s₁ hx hby hml hown hnm hlk hrt hZ X0 e0 => ?_
  have N0 := Fr.nil Z.heap.size
  have hW' := hW
  obtain ⟨-, -, -, -, -, -, -, -, -, -, -, -, -, -, -, -, -, -, S_PUBLISH, -, -, -, -, -, -, -, -, -, -, -, -, -, -, -, -, -, -, -, -, -, -, -, -, -, -⟩ := hW'
  refine own_go (B := s₁.setTop (mkF m 0 #[.val (.int (2 : Int32))] [])) (fun t k => castTop (ef_1 m (2 : Int32)) k) ?_
  refine own_go (B := s₁.setTop (mkF m 1 #[.val (.int (2 : Int32))] [(.int (2 : Int32))])) (fun _ k => XS.iloadN X0.here hx rfl (hb hby d1_0) rfl k) ?_
  refine own_go (B := s₁.setTop (mkF m 8 #[.val (.int (2 : Int32))] [])) (fun _ k => XS.ifYes X0.here hx rfl (pc0 := 1) (pc' := 8) rfl (hb hby d1_1) rfl (by decide) (by decide) (by decide) k) ?_
  refine own_go (B := s₁.setTop (mkF m 9 #[.val (.int (2 : Int32))] [(.int (2 : Int32))])) (fun _ k => XS.iloadN X0.here hx rfl (hb hby d1_8) rfl k) ?_
  refine own_go (B := s₁.setTop (mkF m 10 #[.val (.int (2 : Int32))] [(.int (1 : Int32)), (.int (2 : Int32))])) (fun _ k => XT.iconstV X0.here hx rfl (1 : Int32) (hb hby d1_9) rfl k) ?_
  refine own_go (B := s₁.setTop (mkF m 17 #[.val (.int (2 : Int32))] [])) (fun _ k => XS.icmpYes X0.here hx rfl (pc0 := 10) (pc' := 17) rfl (hb hby d1_10) rfl (by decide) (by decide) (by decide) k) ?_
  refine own_go (B := s₁.setTop (mkF m 18 #[.val (.int (2 : Int32))] [(.int (2 : Int32))])) (fun _ k => XS.iloadN X0.here hx rfl (hb hby d1_17) rfl k) ?_
  refine own_go (B := s₁.setTop (mkF m 19 #[.val (.int (2 : Int32))] [(.int (2 : Int32)), (.int (2 : Int32))])) (fun _ k => XT.iconstV X0.here hx rfl (2 : Int32) (hb hby d1_18) rfl k) ?_
  refine own_go (B := s₁.setTop (mkF m 22 #[.val (.int (2 : Int32))] [])) (fun _ k => XS.icmpNo X0.here hx rfl (hb hby d1_19) rfl (by decide) k) ?_
  obtain ⟨T1, X1, e1, st1⟩ := getS2 X0 hx hZ hown (host := "") (Or.inl (hw _ (List.mem_of_getElem? (i := 31) rfl))) Via.refl e0 (S_PUBLISH.ext x0) (g := (mkF m 22 #[.val (.int (2 : Int32))] [])) rfl (hb hby d1_22)
  refine own_go (B := T1.setTop (mkF m 25 #[.val (.int (2 : Int32))] [(.ref (A 9))])) st1 ?_
  exact own_ret X1 hx (t := (.object "com/example/ferrybus/ferrybus/codec/PacketType")) hrt rfl (Or.inr (Or.inr (Or.inr (Or.inr ⟨rfl, rfl, rfl⟩)))) (hb hby d1_25) hlk ⟨rfl, N0, e1⟩ (by decide) (by decide)
set_option maxRecDepth 65536 in
set_option maxHeartbeats 40000000 in
theorem rm2_4 (l : Launch) (Z : State) (a0 : Array Value) (hw : ∀ d ∈ tables_1, d.before a0 Z = true) (ws : List Jvm.Cond) (fl : Int32) (A : Nat → Addr) (hW : own_W Z A) (h0 : Heap) (x0 : Ext Z.heap h0)  :
    own_Met l Z (⟨"com/example/ferrybus/ferrybus/codec/PacketType", "allows", "(I)Z"⟩ : MethodName) prog_32_method_5_code 2 (some .boolean) ws ({ frames := 0, cells := 0, slots := 0, locals := 0 } : Room) #[(.ref (A 9)), (.int fl)] h0 (fun v_ h_ L_ => v_ = some (.int (1 : Int32)) ∧ Fr Z.heap.size L_ ∧ h_ = h0) := by
  refine own_body (plainFor_of_name pn_1) fun p e s m below meth c s₁ hx hby hml hown hnm hlk hrt hZ X0 e0 => ?_
  have N0 := Fr.nil Z.heap.size
  have hW' := hW
  obtain ⟨-, -, -, -, -, -, -, -, -, -, -, -, -, -, -, -, -, -, -, -, -, -, -, -, -, -, -, -, -, -, -, -, -, -, -, -, -, -, -, F_PUBLISH_flags, -, -, -, -, -⟩ := hW'
  refine own_go (B := s₁.setTop (mkF m 0 #[.val (.ref (A 9)), .val (.int fl)] [])) (fun t k => castTop (ef_2 m (A 9) fl) k) ?_
  refine own_go (B := s₁.setTop (mkF m 1 #[.val (.ref (A 9)), .val (.int fl)] [(.ref (A 9))])) (fun _ k => XS.aloadN X0.here hx rfl (hb hby d2_0) rfl rfl k) ?_
  obtain ⟨T1, X1, e1, st1⟩ := getF X0 hx hZ hown (host := "") (Or.inl (hw _ (List.mem_of_getElem? (i := 13) rfl))) Via.refl e0 (F_PUBLISH_flags.ext x0) (g := (mkF m 1 #[.val (.ref (A 9)), .val (.int fl)] [(.ref (A 9))])) rfl rfl (hb hby d2_1)
  refine own_go (B := T1.setTop (mkF m 4 #[.val (.ref (A 9)), .val (.int fl)] [(.int (-1 : Int32))])) st1 ?_
  refine own_go (B := T1.setTop (mkF m 5 #[.val (.ref (A 9)), .val (.int fl)] [(.int (-1 : Int32)), (.int (-1 : Int32))])) (fun _ k => XT.iconstV X1.here hx rfl (-1 : Int32) (hb hby d2_4) rfl k) ?_
  refine own_go (B := T1.setTop (mkF m 16 #[.val (.ref (A 9)), .val (.int fl)] [])) (fun _ k => XS.icmpYes X1.here hx rfl (pc0 := 5) (pc' := 16) rfl (hb hby d2_5) rfl (by decide) (by decide) (by decide) k) ?_
  refine own_go (B := T1.setTop (mkF m 17 #[.val (.ref (A 9)), .val (.int fl)] [(.int (1 : Int32))])) (fun _ k => XT.iconstV X1.here hx rfl (1 : Int32) (hb hby d2_16) rfl k) ?_
  refine own_go (B := T1.setTop (mkF m 21 #[.val (.ref (A 9)), .val (.int fl)] [(.int (1 : Int32))])) (fun _ k => XS.goto X1.here hx rfl (pc0 := 17) (pc' := 21) rfl (hb hby d2_17) (by decide) (by decide) k) ?_
  exact own_ret X1 hx (t := .boolean) hrt rfl (Or.inl ⟨rfl, by simp, _, rfl⟩) (hb hby d2_21) hlk ⟨rfl, N0, e1⟩ (by decide) (by decide)
set_option maxRecDepth 65536 in
set_option maxHeartbeats 40000000 in
theorem rm1_3 (l : Launch) (Z : State) (a0 : Array Value) (hw : ∀ d ∈ tables_1, d.before a0 Z = true) (ws : List Jvm.Cond)  (A : Nat → Addr) (hW : own_W Z A) (h0 : Heap) (x0 : Ext Z.heap h0)  :
    own_Met l Z (⟨"com/example/ferrybus/ferrybus/codec/PacketTypeAllowsPinLaw", "pick", "(I)Lcom/example/ferrybus/ferrybus/codec/PacketType;"⟩ : MethodName) method_2_code 1 (some (.object "com/example/ferrybus/ferrybus/codec/PacketType")) ws ({ frames := 0, cells := 0, slots := 0, locals := 0 } : Room) #[(.int (3 : Int32))] h0 (fun v_ h_ L_ => v_ = some (.ref (A 7)) ∧ Fr Z.heap.size L_ ∧ h_ = h0) := by
  refine own_body (plainFor_of_name pn_0) fun p e s m below meth c s₁ hx hby hml hown hnm hlk hrt hZ X0 e0 => ?_
  have N0 := Fr.nil Z.heap.size
  have hW' := hW
  obtain ⟨-, -, -, -, -, -, -, -, -, -, -, -, -, -, S_PUBACK, -, -, -, -, -, -, -, -, -, -, -, -, -, -, -, -, -, -, -, -, -, -, -, -, -, -, -, -, -, -⟩ := hW'
  refine own_go (B := s₁.setTop (mkF m 0 #[.val (.int (3 : Int32))] [])) (fun t k => castTop (ef_1 m (3 : Int32)) k) ?_
  refine own_go (B := s₁.setTop (mkF m 1 #[.val (.int (3 : Int32))] [(.int (3 : Int32))])) (fun _ k => XS.iloadN X0.here hx rfl (hb hby d1_0) rfl k) ?_
  refine own_go (B := s₁.setTop (mkF m 8 #[.val (.int (3 : Int32))] [])) (fun _ k => XS.ifYes X0.here hx rfl (pc0 := 1) (pc' := 8) rfl (hb hby d1_1) rfl (by decide) (by decide) (by decide) k) ?_
  refine own_go (B := s₁.setTop (mkF m 9 #[.val (.int (3 : Int32))] [(.int (3 : Int32))])) (fun _ k => XS.iloadN X0.here hx rfl (hb hby d1_8) rfl k) ?_
  refine own_go (B := s₁.setTop (mkF m 10 #[.val (.int (3 : Int32))] [(.int (1 : Int32)), (.int (3 : Int32))])) (fun _ k => XT.iconstV X0.here hx rfl (1 : Int32) (hb hby d1_9) rfl k) ?_
  refine own_go (B := s₁.setTop (mkF m 17 #[.val (.int (3 : Int32))] [])) (fun _ k => XS.icmpYes X0.here hx rfl (pc0 := 10) (pc' := 17) rfl (hb hby d1_10) rfl (by decide) (by decide) (by decide) k) ?_
  refine own_go (B := s₁.setTop (mkF m 18 #[.val (.int (3 : Int32))] [(.int (3 : Int32))])) (fun _ k => XS.iloadN X0.here hx rfl (hb hby d1_17) rfl k) ?_
  refine own_go (B := s₁.setTop (mkF m 19 #[.val (.int (3 : Int32))] [(.int (2 : Int32)), (.int (3 : Int32))])) (fun _ k => XT.iconstV X0.here hx rfl (2 : Int32) (hb hby d1_18) rfl k) ?_
  refine own_go (B := s₁.setTop (mkF m 26 #[.val (.int (3 : Int32))] [])) (fun _ k => XS.icmpYes X0.here hx rfl (pc0 := 19) (pc' := 26) rfl (hb hby d1_19) rfl (by decide) (by decide) (by decide) k) ?_
  refine own_go (B := s₁.setTop (mkF m 27 #[.val (.int (3 : Int32))] [(.int (3 : Int32))])) (fun _ k => XS.iloadN X0.here hx rfl (hb hby d1_26) rfl k) ?_
  refine own_go (B := s₁.setTop (mkF m 28 #[.val (.int (3 : Int32))] [(.int (3 : Int32)), (.int (3 : Int32))])) (fun _ k => XT.iconstV X0.here hx rfl (3 : Int32) (hb hby d1_27) rfl k) ?_
  refine own_go (B := s₁.setTop (mkF m 31 #[.val (.int (3 : Int32))] [])) (fun _ k => XS.icmpNo X0.here hx rfl (hb hby d1_28) rfl (by decide) k) ?_
  obtain ⟨T1, X1, e1, st1⟩ := getS2 X0 hx hZ hown (host := "") (Or.inl (hw _ (List.mem_of_getElem? (i := 27) rfl))) Via.refl e0 (S_PUBACK.ext x0) (g := (mkF m 31 #[.val (.int (3 : Int32))] [])) rfl (hb hby d1_31)
  refine own_go (B := T1.setTop (mkF m 34 #[.val (.int (3 : Int32))] [(.ref (A 7))])) st1 ?_
  exact own_ret X1 hx (t := (.object "com/example/ferrybus/ferrybus/codec/PacketType")) hrt rfl (Or.inr (Or.inr (Or.inr (Or.inr ⟨rfl, rfl, rfl⟩)))) (hb hby d1_34) hlk ⟨rfl, N0, e1⟩ (by decide) (by decide)
set_option maxRecDepth 65536 in
set_option maxHeartbeats 40000000 in
theorem rm2_5 (l : Launch) (Z : State) (a0 : Array Value) (hw : ∀ d ∈ tables_1, d.before a0 Z = true) (ws : List Jvm.Cond) (fl : Int32) (A : Nat → Addr) (hW : own_W Z A) (h0 : Heap) (x0 : Ext Z.heap h0) (kq13 : (0 : Int32) = fl) :
    own_Met l Z (⟨"com/example/ferrybus/ferrybus/codec/PacketType", "allows", "(I)Z"⟩ : MethodName) prog_32_method_5_code 2 (some .boolean) ws ({ frames := 0, cells := 0, slots := 0, locals := 0 } : Room) #[(.ref (A 7)), (.int fl)] h0 (fun v_ h_ L_ => v_ = some (.int (1 : Int32)) ∧ Fr Z.heap.size L_ ∧ h_ = h0) := by
  refine own_body (plainFor_of_name pn_1) fun p e s m below meth c s₁ hx hby hml hown hnm hlk hrt hZ X0 e0 => ?_
  have N0 := Fr.nil Z.heap.size
  have hW' := hW
  obtain ⟨-, -, -, -, -, -, -, -, -, -, -, -, -, -, -, -, -, -, -, -, -, -, -, -, -, -, -, -, -, -, -, -, -, -, -, -, -, F_PUBACK_flags, -, -, -, -, -, -, -⟩ := hW'
  refine own_go (B := s₁.setTop (mkF m 0 #[.val (.ref (A 7)), .val (.int fl)] [])) (fun t k => castTop (ef_2 m (A 7) fl) k) ?_
  refine own_go (B := s₁.setTop (mkF m 1 #[.val (.ref (A 7)), .val (.int fl)] [(.ref (A 7))])) (fun _ k => XS.aloadN X0.here hx rfl (hb hby d2_0) rfl rfl k) ?_
  obtain ⟨T1, X1, e1, st1⟩ := getF X0 hx hZ hown (host := "") (Or.inl (hw _ (List.mem_of_getElem? (i := 13) rfl))) Via.refl e0 (F_PUBACK_flags.ext x0) (g := (mkF m 1 #[.val (.ref (A 7)), .val (.int fl)] [(.ref (A 7))])) rfl rfl (hb hby d2_1)
  refine own_go (B := T1.setTop (mkF m 4 #[.val (.ref (A 7)), .val (.int fl)] [(.int (0 : Int32))])) st1 ?_
  refine own_go (B := T1.setTop (mkF m 5 #[.val (.ref (A 7)), .val (.int fl)] [(.int (-1 : Int32)), (.int (0 : Int32))])) (fun _ k => XT.iconstV X1.here hx rfl (-1 : Int32) (hb hby d2_4) rfl k) ?_
  refine own_go (B := T1.setTop (mkF m 8 #[.val (.ref (A 7)), .val (.int fl)] [])) (fun _ k => XS.icmpNo X1.here hx rfl (hb hby d2_5) rfl (by decide) k) ?_
  refine own_go (B := T1.setTop (mkF m 9 #[.val (.ref (A 7)), .val (.int fl)] [(.ref (A 7))])) (fun _ k => XS.aloadN X1.here hx rfl (hb hby d2_8) rfl rfl k) ?_
  obtain ⟨T2, X2, e2, st2⟩ := getF X1 hx hZ hown (host := "") (Or.inl (hw _ (List.mem_of_getElem? (i := 13) rfl))) Via.refl e1 (F_PUBACK_flags.ext x0) (g := (mkF m 9 #[.val (.ref (A 7)), .val (.int fl)] [(.ref (A 7))])) rfl rfl (hb hby d2_9)
  refine own_go (B := T2.setTop (mkF m 12 #[.val (.ref (A 7)), .val (.int fl)] [(.int (0 : Int32))])) st2 ?_
  refine own_go (B := T2.setTop (mkF m 13 #[.val (.ref (A 7)), .val (.int fl)] [(.int fl), (.int (0 : Int32))])) (fun _ k => XS.iloadN X2.here hx rfl (hb hby d2_12) rfl k) ?_
  refine own_go (B := T2.setTop (mkF m 16 #[.val (.ref (A 7)), .val (.int fl)] [])) (fun _ k => XS.icmpNo X2.here hx rfl (hb hby d2_13) rfl (teq kq13).2 k) ?_
  refine own_go (B := T2.setTop (mkF m 17 #[.val (.ref (A 7)), .val (.int fl)] [(.int (1 : Int32))])) (fun _ k => XT.iconstV X2.here hx rfl (1 : Int32) (hb hby d2_16) rfl k) ?_
  refine own_go (B := T2.setTop (mkF m 21 #[.val (.ref (A 7)), .val (.int fl)] [(.int (1 : Int32))])) (fun _ k => XS.goto X2.here hx rfl (pc0 := 17) (pc' := 21) rfl (hb hby d2_17) (by decide) (by decide) k) ?_
  exact own_ret X2 hx (t := .boolean) hrt rfl (Or.inl ⟨rfl, by simp, _, rfl⟩) (hb hby d2_21) hlk ⟨rfl, N0, e2⟩ (by decide) (by decide)
set_option maxRecDepth 65536 in
set_option maxHeartbeats 40000000 in
theorem rm2_6 (l : Launch) (Z : State) (a0 : Array Value) (hw : ∀ d ∈ tables_1, d.before a0 Z = true) (ws : List Jvm.Cond) (fl : Int32) (A : Nat → Addr) (hW : own_W Z A) (h0 : Heap) (x0 : Ext Z.heap h0) (kq13 : ¬ (0 : Int32) = fl) :
    own_Met l Z (⟨"com/example/ferrybus/ferrybus/codec/PacketType", "allows", "(I)Z"⟩ : MethodName) prog_32_method_5_code 2 (some .boolean) ws ({ frames := 0, cells := 0, slots := 0, locals := 0 } : Room) #[(.ref (A 7)), (.int fl)] h0 (fun v_ h_ L_ => v_ = some (.int (0 : Int32)) ∧ Fr Z.heap.size L_ ∧ h_ = h0) := by
  refine own_body (plainFor_of_name pn_1) fun p e s m below meth c s₁ hx hby hml hown hnm hlk hrt hZ X0 e0 => ?_
  have N0 := Fr.nil Z.heap.size
  have hW' := hW
  obtain ⟨-, -, -, -, -, -, -, -, -, -, -, -, -, -, -, -, -, -, -, -, -, -, -, -, -, -, -, -, -, -, -, -, -, -, -, -, -, F_PUBACK_flags, -, -, -, -, -, -, -⟩ := hW'
  refine own_go (B := s₁.setTop (mkF m 0 #[.val (.ref (A 7)), .val (.int fl)] [])) (fun t k => castTop (ef_2 m (A 7) fl) k) ?_
  refine own_go (B := s₁.setTop (mkF m 1 #[.val (.ref (A 7)), .val (.int fl)] [(.ref (A 7))])) (fun _ k => XS.aloadN X0.here hx rfl (hb hby d2_0) rfl rfl k) ?_
  obtain ⟨T1, X1, e1, st1⟩ := getF X0 hx hZ hown (host := "") (Or.inl (hw _ (List.mem_of_getElem? (i := 13) rfl))) Via.refl e0 (F_PUBACK_flags.ext x0) (g := (mkF m 1 #[.val (.ref (A 7)), .val (.int fl)] [(.ref (A 7))])) rfl rfl (hb hby d2_1)
  refine own_go (B := T1.setTop (mkF m 4 #[.val (.ref (A 7)), .val (.int fl)] [(.int (0 : Int32))])) st1 ?_
  refine own_go (B := T1.setTop (mkF m 5 #[.val (.ref (A 7)), .val (.int fl)] [(.int (-1 : Int32)), (.int (0 : Int32))])) (fun _ k => XT.iconstV X1.here hx rfl (-1 : Int32) (hb hby d2_4) rfl k) ?_
  refine own_go (B := T1.setTop (mkF m 8 #[.val (.ref (A 7)), .val (.int fl)] [])) (fun _ k => XS.icmpNo X1.here hx rfl (hb hby d2_5) rfl (by decide) k) ?_
  refine own_go (B := T1.setTop (mkF m 9 #[.val (.ref (A 7)), .val (.int fl)] [(.ref (A 7))])) (fun _ k => XS.aloadN X1.here hx rfl (hb hby d2_8) rfl rfl k) ?_
  obtain ⟨T2, X2, e2, st2⟩ := getF X1 hx hZ hown (host := "") (Or.inl (hw _ (List.mem_of_getElem? (i := 13) rfl))) Via.refl e1 (F_PUBACK_flags.ext x0) (g := (mkF m 9 #[.val (.ref (A 7)), .val (.int fl)] [(.ref (A 7))])) rfl rfl (hb hby d2_9)
  refine own_go (B := T2.setTop (mkF m 12 #[.val (.ref (A 7)), .val (.int fl)] [(.int (0 : Int32))])) st2 ?_
  refine own_go (B := T2.setTop (mkF m 13 #[.val (.ref (A 7)), .val (.int fl)] [(.int fl), (.int (0 : Int32))])) (fun _ k => XS.iloadN X2.here hx rfl (hb hby d2_12) rfl k) ?_
  refine own_go (B := T2.setTop (mkF m 20 #[.val (.ref (A 7)), .val (.int fl)] [])) (fun _ k => XS.icmpYes X2.here hx rfl (pc0 := 13) (pc' := 20) rfl (hb hby d2_13) rfl (feq kq13).2 (by decide) (by decide) k) ?_
  refine own_go (B := T2.setTop (mkF m 21 #[.val (.ref (A 7)), .val (.int fl)] [(.int (0 : Int32))])) (fun _ k => XT.iconstV X2.here hx rfl (0 : Int32) (hb hby d2_20) rfl k) ?_
  exact own_ret X2 hx (t := .boolean) hrt rfl (Or.inl ⟨rfl, by simp, _, rfl⟩) (hb hby d2_21) hlk ⟨rfl, N0, e2⟩ (by decide) (by decide)
set_option maxRecDepth 65536 in
set_option maxHeartbeats 40000000 in
theorem rm1_4 (l : Launch) (Z : State) (a0 : Array Value) (hw : ∀ d ∈ tables_1, d.before a0 Z = true) (ws : List Jvm.Cond)  (A : Nat → Addr) (hW : own_W Z A) (h0 : Heap) (x0 : Ext Z.heap h0)  :
    own_Met l Z (⟨"com/example/ferrybus/ferrybus/codec/PacketTypeAllowsPinLaw", "pick", "(I)Lcom/example/ferrybus/ferrybus/codec/PacketType;"⟩ : MethodName) method_2_code 1 (some (.object "com/example/ferrybus/ferrybus/codec/PacketType")) ws ({ frames := 0, cells := 0, slots := 0, locals := 0 } : Room) #[(.int (4 : Int32))] h0 (fun v_ h_ L_ => v_ = some (.ref (A 10)) ∧ Fr Z.heap.size L_ ∧ h_ = h0) := by
  refine own_body (plainFor_of_name pn_0) fun p e s m below meth c s₁ hx hby hml hown hnm hlk hrt hZ X0 e0 => ?_
  have N0 := Fr.nil Z.heap.size
  have hW' := hW
  obtain ⟨-, -, -, -, -, -, -, -, -, -, -, -, -, -, -, -, -, -, -, -, S_PUBREC, -, -, -, -, -, -, -, -, -, -, -, -, -, -, -, -, -, -, -, -, -, -, -, -⟩ := hW'
  refine own_go (B := s₁.setTop (mkF m 0 #[.val (.int (4 : Int32))] [])) (fun t k => castTop (ef_1 m (4 : Int32)) k) ?_
  refine own_go (B := s₁.setTop (mkF m 1 #[.val (.int (4 : Int32))] [(.int (4 : Int32))])) (fun _ k => XS.iloadN X0.here hx rfl (hb hby d1_0) rfl k) ?_
  refine own_go (B := s₁.setTop (mkF m 8 #[.val (.int (4 : Int32))] [])) (fun _ k => XS.ifYes X0.here hx rfl (pc0 := 1) (pc' := 8) rfl (hb hby d1_1) rfl (by decide) (by decide) (by decide) k) ?_
  refine own_go (B := s₁.setTop (mkF m 9 #[.val (.int (4 : Int32))] [(.int (4 : Int32))])) (fun _ k => XS.iloadN X0.here hx rfl (hb hby d1_8) rfl k) ?_
  refine own_go (B := s₁.setTop (mkF m 10 #[.val (.int (4 : Int32))] [(.int (1 : Int32)), (.int (4 : Int32))])) (fun _ k => XT.iconstV X0.here hx rfl (1 : Int32) (hb hby d1_9) rfl k) ?_
  refine own_go (B := s₁.setTop (mkF m 17 #[.val (.int (4 : Int32))] [])) (fun _ k => XS.icmpYes X0.here hx rfl (pc0 := 10) (pc' := 17) rfl (hb hby d1_10) rfl (by decide) (by decide) (by decide) k) ?_
  refine own_go (B := s₁.setTop (mkF m 18 #[.val (.int (4 : Int32))] [(.int (4 : Int32))])) (fun _ k => XS.iloadN X0.here hx rfl (hb hby d1_17) rfl k) ?_
  refine own_go (B := s₁.setTop (mkF m 19 #[.val (.int (4 : Int32))] [(.int (2 : Int32)), (.int (4 : Int32))])) (fun _ k => XT.iconstV X0.here hx rfl (2 : Int32) (hb hby d1_18) rfl k) ?_
  refine own_go (B := s₁.setTop (mkF m 26 #[.val (.int (4 : Int32))] [])) (fun _ k => XS.icmpYes X0.here hx rfl (pc0 := 19) (pc' := 26) rfl (hb hby d1_19) rfl (by decide) (by decide) (by decide) k) ?_
  refine own_go (B := s₁.setTop (mkF m 27 #[.val (.int (4 : Int32))] [(.int (4 : Int32))])) (fun _ k => XS.iloadN X0.here hx rfl (hb hby d1_26) rfl k) ?_
  refine own_go (B := s₁.setTop (mkF m 28 #[.val (.int (4 : Int32))] [(.int (3 : Int32)), (.int (4 : Int32))])) (fun _ k => XT.iconstV X0.here hx rfl (3 : Int32) (hb hby d1_27) rfl k) ?_
  refine own_go (B := s₁.setTop (mkF m 35 #[.val (.int (4 : Int32))] [])) (fun _ k => XS.icmpYes X0.here hx rfl (pc0 := 28) (pc' := 35) rfl (hb hby d1_28) rfl (by decide) (by decide) (by decide) k) ?_
  refine own_go (B := s₁.setTop (mkF m 36 #[.val (.int (4 : Int32))] [(.int (4 : Int32))])) (fun _ k => XS.iloadN X0.here hx rfl (hb hby d1_35) rfl k) ?_
  refine own_go (B := s₁.setTop (mkF m 37 #[.val (.int (4 : Int32))] [(.int (4 : Int32)), (.int (4 : Int32))])) (fun _ k => XT.iconstV X0.here hx rfl (4 : Int32) (hb hby d1_36) rfl k) ?_
  refine own_go (B := s₁.setTop (mkF m 40 #[.val (.int (4 : Int32))] [])) (fun _ k => XS.icmpNo X0.here hx rfl (hb hby d1_37) rfl (by decide) k) ?_
  obtain ⟨T1, X1, e1, st1⟩ := getS2 X0 hx hZ hown (host := "") (Or.inl (hw _ (List.mem_of_getElem? (i := 33) rfl))) Via.refl e0 (S_PUBREC.ext x0) (g := (mkF m 40 #[.val (.int (4 : Int32))] [])) rfl (hb hby d1_40)
  refine own_go (B := T1.setTop (mkF m 43 #[.val (.int (4 : Int32))] [(.ref (A 10))])) st1 ?_
  exact own_ret X1 hx (t := (.object "com/example/ferrybus/ferrybus/codec/PacketType")) hrt rfl (Or.inr (Or.inr (Or.inr (Or.inr ⟨rfl, rfl, rfl⟩)))) (hb hby d1_43) hlk ⟨rfl, N0, e1⟩ (by decide) (by decide)
set_option maxRecDepth 65536 in
set_option maxHeartbeats 40000000 in
theorem rm2_7 (l : Launch) (Z : State) (a0 : Array Value) (hw : ∀ d ∈ tables_1, d.before a0 Z = true) (ws : List Jvm.Cond) (fl : Int32) (A : Nat → Addr) (hW : own_W Z A) (h0 : Heap) (x0 : Ext Z.heap h0) (kq13 : (0 : Int32) = fl) :
    own_Met l Z (⟨"com/example/ferrybus/ferrybus/codec/PacketType", "allows", "(I)Z"⟩ : MethodName) prog_32_method_5_code 2 (some .boolean) ws ({ frames := 0, cells := 0, slots := 0, locals := 0 } : Room) #[(.ref (A 10)), (.int fl)] h0 (fun v_ h_ L_ => v_ = some (.int (1 : Int32)) ∧ Fr Z.heap.size L_ ∧ h_ = h0) := by
  refine own_body (plainFor_of_name pn_1) fun p e s m below meth c s₁ hx hby hml hown hnm hlk hrt hZ X0 e0 => ?_
  have N0 := Fr.nil Z.heap.size
  have hW' := hW
  obtain ⟨-, -, -, -, -, -, -, -, -, -, -, -, -, -, -, -, -, -, -, -, -, -, -, -, -, -, -, -, -, -, -, -, -, -, -, -, -, -, -, -, F_PUBREC_flags, -, -, -, -⟩ := hW'
  refine own_go (B := s₁.setTop (mkF m 0 #[.val (.ref (A 10)), .val (.int fl)] [])) (fun t k => castTop (ef_2 m (A 10) fl) k) ?_
  refine own_go (B := s₁.setTop (mkF m 1 #[.val (.ref (A 10)), .val (.int fl)] [(.ref (A 10))])) (fun _ k => XS.aloadN X0.here hx rfl (hb hby d2_0) rfl rfl k) ?_
  obtain ⟨T1, X1, e1, st1⟩ := getF X0 hx hZ hown (host := "") (Or.inl (hw _ (List.mem_of_getElem? (i := 13) rfl))) Via.refl e0 (F_PUBREC_flags.ext x0) (g := (mkF m 1 #[.val (.ref (A 10)), .val (.int fl)] [(.ref (A 10))])) rfl rfl (hb hby d2_1)
  refine own_go (B := T1.setTop (mkF m 4 #[.val (.ref (A 10)), .val (.int fl)] [(.int (0 : Int32))])) st1 ?_
  refine own_go (B := T1.setTop (mkF m 5 #[.val (.ref (A 10)), .val (.int fl)] [(.int (-1 : Int32)), (.int (0 : Int32))])) (fun _ k => XT.iconstV X1.here hx rfl (-1 : Int32) (hb hby d2_4) rfl k) ?_
  refine own_go (B := T1.setTop (mkF m 8 #[.val (.ref (A 10)), .val (.int fl)] [])) (fun _ k => XS.icmpNo X1.here hx rfl (hb hby d2_5) rfl (by decide) k) ?_
  refine own_go (B := T1.setTop (mkF m 9 #[.val (.ref (A 10)), .val (.int fl)] [(.ref (A 10))])) (fun _ k => XS.aloadN X1.here hx rfl (hb hby d2_8) rfl rfl k) ?_
  obtain ⟨T2, X2, e2, st2⟩ := getF X1 hx hZ hown (host := "") (Or.inl (hw _ (List.mem_of_getElem? (i := 13) rfl))) Via.refl e1 (F_PUBREC_flags.ext x0) (g := (mkF m 9 #[.val (.ref (A 10)), .val (.int fl)] [(.ref (A 10))])) rfl rfl (hb hby d2_9)
  refine own_go (B := T2.setTop (mkF m 12 #[.val (.ref (A 10)), .val (.int fl)] [(.int (0 : Int32))])) st2 ?_
  refine own_go (B := T2.setTop (mkF m 13 #[.val (.ref (A 10)), .val (.int fl)] [(.int fl), (.int (0 : Int32))])) (fun _ k => XS.iloadN X2.here hx rfl (hb hby d2_12) rfl k) ?_
  refine own_go (B := T2.setTop (mkF m 16 #[.val (.ref (A 10)), .val (.int fl)] [])) (fun _ k => XS.icmpNo X2.here hx rfl (hb hby d2_13) rfl (teq kq13).2 k) ?_
  refine own_go (B := T2.setTop (mkF m 17 #[.val (.ref (A 10)), .val (.int fl)] [(.int (1 : Int32))])) (fun _ k => XT.iconstV X2.here hx rfl (1 : Int32) (hb hby d2_16) rfl k) ?_
  refine own_go (B := T2.setTop (mkF m 21 #[.val (.ref (A 10)), .val (.int fl)] [(.int (1 : Int32))])) (fun _ k => XS.goto X2.here hx rfl (pc0 := 17) (pc' := 21) rfl (hb hby d2_17) (by decide) (by decide) k) ?_
  exact own_ret X2 hx (t := .boolean) hrt rfl (Or.inl ⟨rfl, by simp, _, rfl⟩) (hb hby d2_21) hlk ⟨rfl, N0, e2⟩ (by decide) (by decide)
set_option maxRecDepth 65536 in
set_option maxHeartbeats 40000000 in
theorem rm2_8 (l : Launch) (Z : State) (a0 : Array Value) (hw : ∀ d ∈ tables_1, d.before a0 Z = true) (ws : List Jvm.Cond) (fl : Int32) (A : Nat → Addr) (hW : own_W Z A) (h0 : Heap) (x0 : Ext Z.heap h0) (kq13 : ¬ (0 : Int32) = fl) :
    own_Met l Z (⟨"com/example/ferrybus/ferrybus/codec/PacketType", "allows", "(I)Z"⟩ : MethodName) prog_32_method_5_code 2 (some .boolean) ws ({ frames := 0, cells := 0, slots := 0, locals := 0 } : Room) #[(.ref (A 10)), (.int fl)] h0 (fun v_ h_ L_ => v_ = some (.int (0 : Int32)) ∧ Fr Z.heap.size L_ ∧ h_ = h0) := by
  refine own_body (plainFor_of_name pn_1) fun p e s m below meth c s₁ hx hby hml hown hnm hlk hrt hZ X0 e0 => ?_
  have N0 := Fr.nil Z.heap.size
  have hW' := hW
  obtain ⟨-, -, -, -, -, -, -, -, -, -, -, -, -, -, -, -, -, -, -, -, -, -, -, -, -, -, -, -, -, -, -, -, -, -, -, -, -, -, -, -, F_PUBREC_flags, -, -, -, -⟩ := hW'
  refine own_go (B := s₁.setTop (mkF m 0 #[.val (.ref (A 10)), .val (.int fl)] [])) (fun t k => castTop (ef_2 m (A 10) fl) k) ?_
  refine own_go (B := s₁.setTop (mkF m 1 #[.val (.ref (A 10)), .val (.int fl)] [(.ref (A 10))])) (fun _ k => XS.aloadN X0.here hx rfl (hb hby d2_0) rfl rfl k) ?_
  obtain ⟨T1, X1, e1, st1⟩ := getF X0 hx hZ hown (host := "") (Or.inl (hw _ (List.mem_of_getElem? (i := 13) rfl))) Via.refl e0 (F_PUBREC_flags.ext x0) (g := (mkF m 1 #[.val (.ref (A 10)), .val (.int fl)] [(.ref (A 10))])) rfl rfl (hb hby d2_1)
  refine own_go (B := T1.setTop (mkF m 4 #[.val (.ref (A 10)), .val (.int fl)] [(.int (0 : Int32))])) st1 ?_
  refine own_go (B := T1.setTop (mkF m 5 #[.val (.ref (A 10)), .val (.int fl)] [(.int (-1 : Int32)), (.int (0 : Int32))])) (fun _ k => XT.iconstV X1.here hx rfl (-1 : Int32) (hb hby d2_4) rfl k) ?_
  refine own_go (B := T1.setTop (mkF m 8 #[.val (.ref (A 10)), .val (.int fl)] [])) (fun _ k => XS.icmpNo X1.here hx rfl (hb hby d2_5) rfl (by decide) k) ?_
  refine own_go (B := T1.setTop (mkF m 9 #[.val (.ref (A 10)), .val (.int fl)] [(.ref (A 10))])) (fun _ k => XS.aloadN X1.here hx rfl (hb hby d2_8) rfl rfl k) ?_
  obtain ⟨T2, X2, e2, st2⟩ := getF X1 hx hZ hown (host := "") (Or.inl (hw _ (List.mem_of_getElem? (i := 13) rfl))) Via.refl e1 (F_PUBREC_flags.ext x0) (g := (mkF m 9 #[.val (.ref (A 10)), .val (.int fl)] [(.ref (A 10))])) rfl rfl (hb hby d2_9)
  refine own_go (B := T2.setTop (mkF m 12 #[.val (.ref (A 10)), .val (.int fl)] [(.int (0 : Int32))])) st2 ?_
  refine own_go (B := T2.setTop (mkF m 13 #[.val (.ref (A 10)), .val (.int fl)] [(.int fl), (.int (0 : Int32))])) (fun _ k => XS.iloadN X2.here hx rfl (hb hby d2_12) rfl k) ?_
  refine own_go (B := T2.setTop (mkF m 20 #[.val (.ref (A 10)), .val (.int fl)] [])) (fun _ k => XS.icmpYes X2.here hx rfl (pc0 := 13) (pc' := 20) rfl (hb hby d2_13) rfl (feq kq13).2 (by decide) (by decide) k) ?_
  refine own_go (B := T2.setTop (mkF m 21 #[.val (.ref (A 10)), .val (.int fl)] [(.int (0 : Int32))])) (fun _ k => XT.iconstV X2.here hx rfl (0 : Int32) (hb hby d2_20) rfl k) ?_
  exact own_ret X2 hx (t := .boolean) hrt rfl (Or.inl ⟨rfl, by simp, _, rfl⟩) (hb hby d2_21) hlk ⟨rfl, N0, e2⟩ (by decide) (by decide)
set_option maxRecDepth 65536 in
set_option maxHeartbeats 40000000 in
theorem rm1_5 (l : Launch) (Z : State) (a0 : Array Value) (hw : ∀ d ∈ tables_1, d.before a0 Z = true) (ws : List Jvm.Cond)  (A : Nat → Addr) (hW : own_W Z A) (h0 : Heap) (x0 : Ext Z.heap h0)  :
    own_Met l Z (⟨"com/example/ferrybus/ferrybus/codec/PacketTypeAllowsPinLaw", "pick", "(I)Lcom/example/ferrybus/ferrybus/codec/PacketType;"⟩ : MethodName) method_2_code 1 (some (.object "com/example/ferrybus/ferrybus/codec/PacketType")) ws ({ frames := 0, cells := 0, slots := 0, locals := 0 } : Room) #[(.int (5 : Int32))] h0 (fun v_ h_ L_ => v_ = some (.ref (A 3)) ∧ Fr Z.heap.size L_ ∧ h_ = h0) := by
  refine own_body (plainFor_of_name pn_0) fun p e s m below meth c s₁ hx hby hml hown hnm hlk hrt hZ X0 e0 => ?_
  have N0 := Fr.nil Z.heap.size
  have hW' := hW
  obtain ⟨-, -, -, -, -, -, S_PUBREL, -, -, -, -, -, -, -, -, -, -, -, -, -, -, -, -, -, -, -, -, -, -, -, -, -, -, -, -, -, -, -, -, -, -, -, -, -, -⟩ := hW'
  refine own_go (B := s₁.setTop (mkF m 0 #[.val (.int (5 : Int32))] [])) (fun t k => castTop (ef_1 m (5 : Int32)) k) ?_
  refine own_go (B := s₁.setTop (mkF m 1 #[.val (.int (5 : Int32))] [(.int (5 : Int32))])) (fun _ k => XS.iloadN X0.here hx rfl (hb hby d1_0) rfl k) ?_
  refine own_go (B := s₁.setTop (mkF m 8 #[.val (.int (5 : Int32))] [])) (fun _ k => XS.ifYes X0.here hx rfl (pc0 := 1) (pc' := 8) rfl (hb hby d1_1) rfl (by decide) (by decide) (by decide) k) ?_
  refine own_go (B := s₁.setTop (mkF m 9 #[.val (.int (5 : Int32))] [(.int (5 : Int32))])) (fun _ k => XS.iloadN X0.here hx rfl (hb hby d1_8) rfl k) ?_
  refine own_go (B := s₁.setTop (mkF m 10 #[.val (.int (5 : Int32))] [(.int (1 : Int32)), (.int (5 : Int32))])) (fun _ k => XT.iconstV X0.here hx rfl (1 : Int32) (hb hby d1_9) rfl k) ?_
  refine own_go (B := s₁.setTop (mkF m 17 #[.val (.int (5 : Int32))] [])) (fun _ k => XS.icmpYes X0.here hx rfl (pc0 := 10) (pc' := 17) rfl (hb hby d1_10) rfl (by decide) (by decide) (by decide) k) ?_
  refine own_go (B := s₁.setTop (mkF m 18 #[.val (.int (5 : Int32))] [(.int (5 : Int32))])) (fun _ k => XS.iloadN X0.here hx rfl (hb hby d1_17) rfl k) ?_
  refine own_go (B := s₁.setTop (mkF m 19 #[.val (.int (5 : Int32))] [(.int (2 : Int32)), (.int (5 : Int32))])) (fun _ k => XT.iconstV X0.here hx rfl (2 : Int32) (hb hby d1_18) rfl k) ?_
  refine own_go (B := s₁.setTop (mkF m 26 #[.val (.int (5 : Int32))] [])) (fun _ k => XS.icmpYes X0.here hx rfl (pc0 := 19) (pc' := 26) rfl (hb hby d1_19) rfl (by decide) (by decide) (by decide) k) ?_
  refine own_go (B := s₁.setTop (mkF m 27 #[.val (.int (5 : Int32))] [(.int (5 : Int32))])) (fun _ k => XS.iloadN X0.here hx rfl (hb hby d1_26) rfl k) ?_
  refine own_go (B := s₁.setTop (mkF m 28 #[.val (.int (5 : Int32))] [(.int (3 : Int32)), (.int (5 : Int32))])) (fun _ k => XT.iconstV X0.here hx rfl (3 : Int32) (hb hby d1_27) rfl k) ?_
  refine own_go (B := s₁.setTop (mkF m 35 #[.val (.int (5 : Int32))] [])) (fun _ k => XS.icmpYes X0.here hx rfl (pc0 := 28) (pc' := 35) rfl (hb hby d1_28) rfl (by decide) (by decide) (by decide) k) ?_
  refine own_go (B := s₁.setTop (mkF m 36 #[.val (.int (5 : Int32))] [(.int (5 : Int32))])) (fun _ k => XS.iloadN X0.here hx rfl (hb hby d1_35) rfl k) ?_
  refine own_go (B := s₁.setTop (mkF m 37 #[.val (.int (5 : Int32))] [(.int (4 : Int32)), (.int (5 : Int32))])) (fun _ k => XT.iconstV X0.here hx rfl (4 : Int32) (hb hby d1_36) rfl k) ?_
  refine own_go (B := s₁.setTop (mkF m 44 #[.val (.int (5 : Int32))] [])) (fun _ k => XS.icmpYes X0.here hx rfl (pc0 := 37) (pc' := 44) rfl (hb hby d1_37) rfl (by decide) (by decide) (by decide) k) ?_
  refine own_go (B := s₁.setTop (mkF m 45 #[.val (.int (5 : Int32))] [(.int (5 : Int32))])) (fun _ k => XS.iloadN X0.here hx rfl (hb hby d1_44) rfl k) ?_
  refine own_go (B := s₁.setTop (mkF m 46 #[.val (.int (5 : Int32))] [(.int (5 : Int32)), (.int (5 : Int32))])) (fun _ k => XT.iconstV X0.here hx rfl (5 : Int32) (hb hby d1_45) rfl k) ?_
  refine own_go (B := s₁.setTop (mkF m 49 #[.val (.int (5 : Int32))] [])) (fun _ k => XS.icmpNo X0.here hx rfl (hb hby d1_46) rfl (by decide) k) ?_
  obtain ⟨T1, X1, e1, st1⟩ := getS2 X0 hx hZ hown (host := "") (Or.inl (hw _ (List.mem_of_getElem? (i := 19) rfl))) Via.refl e0 (S_PUBREL.ext x0) (g := (mkF m 49 #[.val (.int (5 : Int32))] [])) rfl (hb hby d1_49)
  refine own_go (B := T1.setTop (mkF m 52 #[.val (.int (5 : Int32))] [(.ref (A 3))])) st1 ?_
  exact own_ret X1 hx (t := (.object "com/example/ferrybus/ferrybus/codec/PacketType")) hrt rfl (Or.inr (Or.inr (Or.inr (Or.inr ⟨rfl, rfl, rfl⟩)))) (hb hby d1_52) hlk ⟨rfl, N0, e1⟩ (by decide) (by decide)
set_option maxRecDepth 65536 in
set_option maxHeartbeats 40000000 in
theorem rm2_9 (l : Launch) (Z : State) (a0 : Array Value) (hw : ∀ d ∈ tables_1, d.before a0 Z = true) (ws : List Jvm.Cond) (fl : Int32) (A : Nat → Addr) (hW : own_W Z A) (h0 : Heap) (x0 : Ext Z.heap h0) (kq13 : (2 : Int32) = fl) :
    own_Met l Z (⟨"com/example/ferrybus/ferrybus/codec/PacketType", "allows", "(I)Z"⟩ : MethodName) prog_32_method_5_code 2 (some .boolean) ws ({ frames := 0, cells := 0, slots := 0, locals := 0 } : Room) #[(.ref (A 3)), (.int fl)] h0 (fun v_ h_ L_ => v_ = some (.int (1 : Int32)) ∧ Fr Z.heap.size L_ ∧ h_ = h0) := by
  refine own_body (plainFor_of_name pn_1) fun p e s m below meth c s₁ hx hby hml hown hnm hlk hrt hZ X0 e0 => ?_
  have N0 := Fr.nil Z.heap.size
  have hW' := hW
  obtain ⟨-, -, -, -, -, -, -, -, -, -, -, -, -, -, -, -, -, -, -, -, -, -, -, -, -, -, -, -, -, -, -, -, -, F_PUBREL_flags, -, -, -, -, -, -, -, -, -, -, -⟩ := hW'
  refine own_go (B := s₁.setTop (mkF m 0 #[.val (.ref (A 3)), .val (.int fl)] [])) (fun t k => castTop (ef_2 m (A 3) fl) k) ?_
  refine own_go (B := s₁.setTop (mkF m 1 #[.val (.ref (A 3)), .val (.int fl)] [(.ref (A 3))])) (fun _ k => XS.aloadN X0.here hx rfl (hb hby d2_0) rfl rfl k) ?_
  obtain ⟨T1, X1, e1, st1⟩ := getF X0 hx hZ hown (host := "") (Or.inl (hw _ (List.mem_of_getElem? (i := 13) rfl))) Via.refl e0 (F_PUBREL_flags.ext x0) (g := (mkF m 1 #[.val (.ref (A 3)), .val (.int fl)] [(.ref (A 3))])) rfl rfl (hb hby d2_1)
  refine own_go (B := T1.setTop (mkF m 4 #[.val (.ref (A 3)), .val (.int fl)] [(.int (2 : Int32))])) st1 ?_
  refine own_go (B := T1.setTop (mkF m 5 #[.val (.ref (A 3)), .val (.int fl)] [(.int (-1 : Int32)), (.int (2 : Int32))])) (fun _ k => XT.iconstV X1.here hx rfl (-1 : Int32) (hb hby d2_4) rfl k) ?_
  refine own_go (B := T1.setTop (mkF m 8 #[.val (.ref (A 3)), .val (.int fl)] [])) (fun _ k => XS.icmpNo X1.here hx rfl (hb hby d2_5) rfl (by decide) k) ?_
  refine own_go (B := T1.setTop (mkF m 9 #[.val (.ref (A 3)), .val (.int fl)] [(.ref (A 3))])) (fun _ k => XS.aloadN X1.here hx rfl (hb hby d2_8) rfl rfl k) ?_
  obtain ⟨T2, X2, e2, st2⟩ := getF X1 hx hZ hown (host := "") (Or.inl (hw _ (List.mem_of_getElem? (i := 13) rfl))) Via.refl e1 (F_PUBREL_flags.ext x0) (g := (mkF m 9 #[.val (.ref (A 3)), .val (.int fl)] [(.ref (A 3))])) rfl rfl (hb hby d2_9)
  refine own_go (B := T2.setTop (mkF m 12 #[.val (.ref (A 3)), .val (.int fl)] [(.int (2 : Int32))])) st2 ?_
  refine own_go (B := T2.setTop (mkF m 13 #[.val (.ref (A 3)), .val (.int fl)] [(.int fl), (.int (2 : Int32))])) (fun _ k => XS.iloadN X2.here hx rfl (hb hby d2_12) rfl k) ?_
  refine own_go (B := T2.setTop (mkF m 16 #[.val (.ref (A 3)), .val (.int fl)] [])) (fun _ k => XS.icmpNo X2.here hx rfl (hb hby d2_13) rfl (teq kq13).2 k) ?_
  refine own_go (B := T2.setTop (mkF m 17 #[.val (.ref (A 3)), .val (.int fl)] [(.int (1 : Int32))])) (fun _ k => XT.iconstV X2.here hx rfl (1 : Int32) (hb hby d2_16) rfl k) ?_
  refine own_go (B := T2.setTop (mkF m 21 #[.val (.ref (A 3)), .val (.int fl)] [(.int (1 : Int32))])) (fun _ k => XS.goto X2.here hx rfl (pc0 := 17) (pc' := 21) rfl (hb hby d2_17) (by decide) (by decide) k) ?_
  exact own_ret X2 hx (t := .boolean) hrt rfl (Or.inl ⟨rfl, by simp, _, rfl⟩) (hb hby d2_21) hlk ⟨rfl, N0, e2⟩ (by decide) (by decide)
set_option maxRecDepth 65536 in
set_option maxHeartbeats 40000000 in
theorem rm2_10 (l : Launch) (Z : State) (a0 : Array Value) (hw : ∀ d ∈ tables_1, d.before a0 Z = true) (ws : List Jvm.Cond) (fl : Int32) (A : Nat → Addr) (hW : own_W Z A) (h0 : Heap) (x0 : Ext Z.heap h0) (kq13 : ¬ (2 : Int32) = fl) :
    own_Met l Z (⟨"com/example/ferrybus/ferrybus/codec/PacketType", "allows", "(I)Z"⟩ : MethodName) prog_32_method_5_code 2 (some .boolean) ws ({ frames := 0, cells := 0, slots := 0, locals := 0 } : Room) #[(.ref (A 3)), (.int fl)] h0 (fun v_ h_ L_ => v_ = some (.int (0 : Int32)) ∧ Fr Z.heap.size L_ ∧ h_ = h0) := by
  refine own_body (plainFor_of_name pn_1) fun p e s m below meth c s₁ hx hby hml hown hnm hlk hrt hZ X0 e0 => ?_
  have N0 := Fr.nil Z.heap.size
  have hW' := hW
  obtain ⟨-, -, -, -, -, -, -, -, -, -, -, -, -, -, -, -, -, -, -, -, -, -, -, -, -, -, -, -, -, -, -, -, -, F_PUBREL_flags, -, -, -, -, -, -, -, -, -, -, -⟩ := hW'
  refine own_go (B := s₁.setTop (mkF m 0 #[.val (.ref (A 3)), .val (.int fl)] [])) (fun t k => castTop (ef_2 m (A 3) fl) k) ?_
  refine own_go (B := s₁.setTop (mkF m 1 #[.val (.ref (A 3)), .val (.int fl)] [(.ref (A 3))])) (fun _ k => XS.aloadN X0.here hx rfl (hb hby d2_0) rfl rfl k) ?_
  obtain ⟨T1, X1, e1, st1⟩ := getF X0 hx hZ hown (host := "") (Or.inl (hw _ (List.mem_of_getElem? (i := 13) rfl))) Via.refl e0 (F_PUBREL_flags.ext x0) (g := (mkF m 1 #[.val (.ref (A 3)), .val (.int fl)] [(.ref (A 3))])) rfl rfl (hb hby d2_1)
  refine own_go (B := T1.setTop (mkF m 4 #[.val (.ref (A 3)), .val (.int fl)] [(.int (2 : Int32))])) st1 ?_
  refine own_go (B := T1.setTop (mkF m 5 #[.val (.ref (A 3)), .val (.int fl)] [(.int (-1 : Int32)), (.int (2 : Int32))])) (fun _ k => XT.iconstV X1.here hx rfl (-1 : Int32) (hb hby d2_4) rfl k) ?_
  refine own_go (B := T1.setTop (mkF m 8 #[.val (.ref (A 3)), .val (.int fl)] [])) (fun _ k => XS.icmpNo X1.here hx rfl (hb hby d2_5) rfl (by decide) k) ?_
  refine own_go (B := T1.setTop (mkF m 9 #[.val (.ref (A 3)), .val (.int fl)] [(.ref (A 3))])) (fun _ k => XS.aloadN X1.here hx rfl (hb hby d2_8) rfl rfl k) ?_
  obtain ⟨T2, X2, e2, st2⟩ := getF X1 hx hZ hown (host := "") (Or.inl (hw _ (List.mem_of_getElem? (i := 13) rfl))) Via.refl e1 (F_PUBREL_flags.ext x0) (g := (mkF m 9 #[.val (.ref (A 3)), .val (.int fl)] [(.ref (A 3))])) rfl rfl (hb hby d2_9)
  refine own_go (B := T2.setTop (mkF m 12 #[.val (.ref (A 3)), .val (.int fl)] [(.int (2 : Int32))])) st2 ?_
  refine own_go (B := T2.setTop (mkF m 13 #[.val (.ref (A 3)), .val (.int fl)] [(.int fl), (.int (2 : Int32))])) (fun _ k => XS.iloadN X2.here hx rfl (hb hby d2_12) rfl k) ?_
  refine own_go (B := T2.setTop (mkF m 20 #[.val (.ref (A 3)), .val (.int fl)] [])) (fun _ k => XS.icmpYes X2.here hx rfl (pc0 := 13) (pc' := 20) rfl (hb hby d2_13) rfl (feq kq13).2 (by decide) (by decide) k) ?_
  refine own_go (B := T2.setTop (mkF m 21 #[.val (.ref (A 3)), .val (.int fl)] [(.int (0 : Int32))])) (fun _ k => XT.iconstV X2.here hx rfl (0 : Int32) (hb hby d2_20) rfl k) ?_
  exact own_ret X2 hx (t := .boolean) hrt rfl (Or.inl ⟨rfl, by simp, _, rfl⟩) (hb hby d2_21) hlk ⟨rfl, N0, e2⟩ (by decide) (by decide)
set_option maxRecDepth 65536 in
set_option maxHeartbeats 40000000 in
theorem rm1_6 (l : Launch) (Z : State) (a0 : Array Value) (hw : ∀ d ∈ tables_1, d.before a0 Z = true) (ws : List Jvm.Cond)  (A : Nat → Addr) (hW : own_W Z A) (h0 : Heap) (x0 : Ext Z.heap h0)  :
    own_Met l Z (⟨"com/example/ferrybus/ferrybus/codec/PacketTypeAllowsPinLaw", "pick", "(I)Lcom/example/ferrybus/ferrybus/codec/PacketType;"⟩ : MethodName) method_2_code 1 (some (.object "com/example/ferrybus/ferrybus/codec/PacketType")) ws ({ frames := 0, cells := 0, slots := 0, locals := 0 } : Room) #[(.int (6 : Int32))] h0 (fun v_ h_ L_ => v_ = some (.ref (A 12)) ∧ Fr Z.heap.size L_ ∧ h_ = h0) := by
  refine own_body (plainFor_of_name pn_0) fun p e s m below meth c s₁ hx hby hml hown hnm hlk hrt hZ X0 e0 => ?_
  have N0 := Fr.nil Z.heap.size
  have hW' := hW
  obtain ⟨-, -, -, -, -, -, -, -, -, -, -, -, -, -, -, -, -, -, -, -, -, -, -, -, S_PUBCOMP, -, -, -, -, -, -, -, -, -, -, -, -, -, -, -, -, -, -, -, -⟩ := hW'
  refine own_go (B := s₁.setTop (mkF m 0 #[.val (.int (6 : Int32))] [])) (fun t k => castTop (ef_1 m (6 : Int32)) k) ?_
  refine own_go (B := s₁.setTop (mkF m 1 #[.val (.int (6 : Int32))] [(.int (6 : Int32))])) (fun _ k => XS.iloadN X0.here hx rfl (hb hby d1_0) rfl k) ?_
  refine own_go (B := s₁.setTop (mkF m 8 #[.val (.int (6 : Int32))] [])) (fun _ k => XS.ifYes X0.here hx rfl (pc0 := 1) (pc' := 8) rfl (hb hby d1_1) rfl (by decide) (by decide) (by decide) k) ?_
  refine own_go (B := s₁.setTop (mkF m 9 #[.val (.int (6 : Int32))] [(.int (6 : Int32))])) (fun _ k => XS.iloadN X0.here hx rfl (hb hby d1_8) rfl k) ?_
  refine own_go (B := s₁.setTop (mkF m 10 #[.val (.int (6 : Int32))] [(.int (1 : Int32)), (.int (6 : Int32))])) (fun _ k => XT.iconstV X0.here hx rfl (1 : Int32) (hb hby d1_9) rfl k) ?_
  refine own_go (B := s₁.setTop (mkF m 17 #[.val (.int (6 : Int32))] [])) (fun _ k => XS.icmpYes X0.here hx rfl (pc0 := 10) (pc' := 17) rfl (hb hby d1_10) rfl (by decide) (by decide) (by decide) k) ?_
  refine own_go (B := s₁.setTop (mkF m 18 #[.val (.int (6 : Int32))] [(.int (6 : Int32))])) (fun _ k => XS.iloadN X0.here hx rfl (hb hby d1_17) rfl k) ?_
  refine own_go (B := s₁.setTop (mkF m 19 #[.val (.int (6 : Int32))] [(.int (2 : Int32)), (.int (6 : Int32))])) (fun _ k => XT.iconstV X0.here hx rfl (2 : Int32) (hb hby d1_18) rfl k) ?_
  refine own_go (B := s₁.setTop (mkF m 26 #[.val (.int (6 : Int32))] [])) (fun _ k => XS.icmpYes X0.here hx rfl (pc0 := 19) (pc' := 26) rfl (hb hby d1_19) rfl (by decide) (by decide) (by decide) k) ?_
  refine own_go (B := s₁.setTop (mkF m 27 #[.val (.int (6 : Int32))] [(.int (6 : Int32))])) (fun _ k => XS.iloadN X0.here hx rfl (hb hby d1_26) rfl k) ?_
  refine own_go (B := s₁.setTop (mkF m 28 #[.val (.int (6 : Int32))] [(.int (3 : Int32)), (.int (6 : Int32))])) (fun _ k => XT.iconstV X0.here hx rfl (3 : Int32) (hb hby d1_27) rfl k) ?_
  refine own_go (B := s₁.setTop (mkF m 35 #[.val (.int (6 : Int32))] [])) (fun _ k => XS.icmpYes X0.here hx rfl (pc0 := 28) (pc' := 35) rfl (hb hby d1_28) rfl (by decide) (by decide) (by decide) k) ?_
  refine own_go (B := s₁.setTop (mkF m 36 #[.val (.int (6 : Int32))] [(.int (6 : Int32))])) (fun _ k => XS.iloadN X0.here hx rfl (hb hby d1_35) rfl k) ?_
  refine own_go (B := s₁.setTop (mkF m 37 #[.val (.int (6 : Int32))] [(.int (4 : Int32)), (.int (6 : Int32))])) (fun _ k => XT.iconstV X0.here hx rfl (4 : Int32) (hb hby d1_36) rfl k) ?_
  refine own_go (B := s₁.setTop (mkF m 44 #[.val (.int (6 : Int32))] [])) (fun _ k => XS.icmpYes X0.here hx rfl (pc0 := 37) (pc' := 44) rfl (hb hby d1_37) rfl (by decide) (by decide) (by decide) k) ?_
  refine own_go (B := s₁.setTop (mkF m 45 #[.val (.int (6 : Int32))] [(.int (6 : Int32))])) (fun _ k => XS.iloadN X0.here hx rfl (hb hby d1_44) rfl k) ?_
  refine own_go (B := s₁.setTop (mkF m 46 #[.val (.int (6 : Int32))] [(.int (5 : Int32)), (.int (6 : Int32))])) (fun _ k => XT.iconstV X0.here hx rfl (5 : Int32) (hb hby d1_45) rfl k) ?_
  refine own_go (B := s₁.setTop (mkF m 53 #[.val (.int (6 : Int32))] [])) (fun _ k => XS.icmpYes X0.here hx rfl (pc0 := 46) (pc' := 53) rfl (hb hby d1_46) rfl (by decide) (by decide) (by decide) k) ?_
  refine own_go (B := s₁.setTop (mkF m 54 #[.val (.int (6 : Int32))] [(.int (6 : Int32))])) (fun _ k => XS.iloadN X0.here hx rfl (hb hby d1_53) rfl k) ?_
  refine own_go (B := s₁.setTop (mkF m 56 #[.val (.int (6 : Int32))] [(.int (6 : Int32)), (.int (6 : Int32))])) (fun _ k => XT.bipushV X0.here hx rfl (6 : Int32) (hb hby d1_54) (by decide) k) ?_
  refine own_go (B := s₁.setTop (mkF m 59 #[.val (.int (6 : Int32))] [])) (fun _ k => XS.icmpNo X0.here hx rfl (hb hby d1_56) rfl (by decide) k) ?_
  obtain ⟨T1, X1, e1, st1⟩ := getS2 X0 hx hZ hown (host := "") (Or.inl (hw _ (List.mem_of_getElem? (i := 37) rfl))) Via.refl e0 (S_PUBCOMP.ext x0) (g := (mkF m 59 #[.val (.int (6 : Int32))] [])) rfl (hb hby d1_59)
  refine own_go (B := T1.setTop (mkF m 62 #[.val (.int (6 : Int32))] [(.ref (A 12))])) st1 ?_
  exact own_ret X1 hx (t := (.object "com/example/ferrybus/ferrybus/codec/PacketType")) hrt rfl (Or.inr (Or.inr (Or.inr (Or.inr ⟨rfl, rfl, rfl⟩)))) (hb hby d1_62) hlk ⟨rfl, N0, e1⟩ (by decide) (by decide)
set_option maxRecDepth 65536 in
set_option maxHeartbeats 40000000 in
theorem rm2_11 (l : Launch) (Z : State) (a0 : Array Value) (hw : ∀ d ∈ tables_1, d.before a0 Z = true) (ws : List Jvm.Cond) (fl : Int32) (A : Nat → Addr) (hW : own_W Z A) (h0 : Heap) (x0 : Ext Z.heap h0) (kq13 : (0 : Int32) = fl) :
    own_Met l Z (⟨"com/example/ferrybus/ferrybus/codec/PacketType", "allows", "(I)Z"⟩ : MethodName) prog_32_method_5_code 2 (some .boolean) ws ({ frames := 0, cells := 0, slots := 0, locals := 0 } : Room) #[(.ref (A 12)), (.int fl)] h0 (fun v_ h_ L_ => v_ = some (.int (1 : Int32)) ∧ Fr Z.heap.size L_ ∧ h_ = h0) := by
  refine own_body (plainFor_of_name pn_1) fun p e s m below meth c s₁ hx hby hml hown hnm hlk hrt hZ X0 e0 => ?_
  have N0 := Fr.nil Z.heap.size
  have hW' := hW
  obtain ⟨-, -, -, -, -, -, -, -, -, -, -, -, -, -, -, -, -, -, -, -, -, -, -, -, -, -, -, -, -, -, -, -, -, -, -, -, -, -, -, -, -, -, F_PUBCOMP_flags, -, -⟩ := hW'
  refine own_go (B := s₁.setTop (mkF m 0 #[.val (.ref (A 12)), .val (.int fl)] [])) (fun t k => castTop (ef_2 m (A 12) fl) k) ?_
  refine own_go (B := s₁.setTop (mkF m 1 #[.val (.ref (A 12)), .val (.int fl)] [(.ref (A 12))])) (fun _ k => XS.aloadN X0.here hx rfl (hb hby d2_0) rfl rfl k) ?_
  obtain ⟨T1, X1, e1, st1⟩ := getF X0 hx hZ hown (host := "") (Or.inl (hw _ (List.mem_of_getElem? (i := 13) rfl))) Via.refl e0 (F_PUBCOMP_flags.ext x0) (g := (mkF m 1 #[.val (.ref (A 12)), .val (.int fl)] [(.ref (A 12))])) rfl rfl (hb hby d2_1)
  refine own_go (B := T1.setTop (mkF m 4 #[.val (.ref (A 12)), .val (.int fl)] [(.int (0 : Int32))])) st1 ?_
  refine own_go (B := T1.setTop (mkF m 5 #[.val (.ref (A 12)), .val (.int fl)] [(.int (-1 : Int32)), (.int (0 : Int32))])) (fun _ k => XT.iconstV X1.here hx rfl (-1 : Int32) (hb hby d2_4) rfl k) ?_
  refine own_go (B := T1.setTop (mkF m 8 #[.val (.ref (A 12)), .val (.int fl)] [])) (fun _ k => XS.icmpNo X1.here hx rfl (hb hby d2_5) rfl (by decide) k) ?_
  refine own_go (B := T1.setTop (mkF m 9 #[.val (.ref (A 12)), .val (.int fl)] [(.ref (A 12))])) (fun _ k => XS.aloadN X1.here hx rfl (hb hby d2_8) rfl rfl k) ?_
  obtain ⟨T2, X2, e2, st2⟩ := getF X1 hx hZ hown (host := "") (Or.inl (hw _ (List.mem_of_getElem? (i := 13) rfl))) Via.refl e1 (F_PUBCOMP_flags.ext x0) (g := (mkF m 9 #[.val (.ref (A 12)), .val (.int fl)] [(.ref (A 12))])) rfl rfl (hb hby d2_9)
  refine own_go (B := T2.setTop (mkF m 12 #[.val (.ref (A 12)), .val (.int fl)] [(.int (0 : Int32))])) st2 ?_
  refine own_go (B := T2.setTop (mkF m 13 #[.val (.ref (A 12)), .val (.int fl)] [(.int fl), (.int (0 : Int32))])) (fun _ k => XS.iloadN X2.here hx rfl (hb hby d2_12) rfl k) ?_
  refine own_go (B := T2.setTop (mkF m 16 #[.val (.ref (A 12)), .val (.int fl)] [])) (fun _ k => XS.icmpNo X2.here hx rfl (hb hby d2_13) rfl (teq kq13).2 k) ?_
  refine own_go (B := T2.setTop (mkF m 17 #[.val (.ref (A 12)), .val (.int fl)] [(.int (1 : Int32))])) (fun _ k => XT.iconstV X2.here hx rfl (1 : Int32) (hb hby d2_16) rfl k) ?_
  refine own_go (B := T2.setTop (mkF m 21 #[.val (.ref (A 12)), .val (.int fl)] [(.int (1 : Int32))])) (fun _ k => XS.goto X2.here hx rfl (pc0 := 17) (pc' := 21) rfl (hb hby d2_17) (by decide) (by decide) k) ?_
  exact own_ret X2 hx (t := .boolean) hrt rfl (Or.inl ⟨rfl, by simp, _, rfl⟩) (hb hby d2_21) hlk ⟨rfl, N0, e2⟩ (by decide) (by decide)
set_option maxRecDepth 65536 in
set_option maxHeartbeats 40000000 in
theorem rm2_12 (l : Launch) (Z : State) (a0 : Array Value) (hw : ∀ d ∈ tables_1, d.before a0 Z = true) (ws : List Jvm.Cond) (fl : Int32) (A : Nat → Addr) (hW : own_W Z A) (h0 : Heap) (x0 : Ext Z.heap h0) (kq13 : ¬ (0 : Int32) = fl) :
    own_Met l Z (⟨"com/example/ferrybus/ferrybus/codec/PacketType", "allows", "(I)Z"⟩ : MethodName) prog_32_method_5_code 2 (some .boolean) ws ({ frames := 0, cells := 0, slots := 0, locals := 0 } : Room) #[(.ref (A 12)), (.int fl)] h0 (fun v_ h_ L_ => v_ = some (.int (0 : Int32)) ∧ Fr Z.heap.size L_ ∧ h_ = h0) := by
  refine own_body (plainFor_of_name pn_1) fun p e s m below meth c s₁ hx hby hml hown hnm hlk hrt hZ X0 e0 => ?_
  have N0 := Fr.nil Z.heap.size
  have hW' := hW
  obtain ⟨-, -, -, -, -, -, -, -, -, -, -, -, -, -, -, -, -, -, -, -, -, -, -, -, -, -, -, -, -, -, -, -, -, -, -, -, -, -, -, -, -, -, F_PUBCOMP_flags, -, -⟩ := hW'
  refine own_go (B := s₁.setTop (mkF m 0 #[.val (.ref (A 12)), .val (.int fl)] [])) (fun t k => castTop (ef_2 m (A 12) fl) k) ?_
  refine own_go (B := s₁.setTop (mkF m 1 #[.val (.ref (A 12)), .val (.int fl)] [(.ref (A 12))])) (fun _ k => XS.aloadN X0.here hx rfl (hb hby d2_0) rfl rfl k) ?_
  obtain ⟨T1, X1, e1, st1⟩ := getF X0 hx hZ hown (host := "") (Or.inl (hw _ (List.mem_of_getElem? (i := 13) rfl))) Via.refl e0 (F_PUBCOMP_flags.ext x0) (g := (mkF m 1 #[.val (.ref (A 12)), .val (.int fl)] [(.ref (A 12))])) rfl rfl (hb hby d2_1)
  refine own_go (B := T1.setTop (mkF m 4 #[.val (.ref (A 12)), .val (.int fl)] [(.int (0 : Int32))])) st1 ?_
  refine own_go (B := T1.setTop (mkF m 5 #[.val (.ref (A 12)), .val (.int fl)] [(.int (-1 : Int32)), (.int (0 : Int32))])) (fun _ k => XT.iconstV X1.here hx rfl (-1 : Int32) (hb hby d2_4) rfl k) ?_
  refine own_go (B := T1.setTop (mkF m 8 #[.val (.ref (A 12)), .val (.int fl)] [])) (fun _ k => XS.icmpNo X1.here hx rfl (hb hby d2_5) rfl (by decide) k) ?_
  refine own_go (B := T1.setTop (mkF m 9 #[.val (.ref (A 12)), .val (.int fl)] [(.ref (A 12))])) (fun _ k => XS.aloadN X1.here hx rfl (hb hby d2_8) rfl rfl k) ?_
  obtain ⟨T2, X2, e2, st2⟩ := getF X1 hx hZ hown (host := "") (Or.inl (hw _ (List.mem_of_getElem? (i := 13) rfl))) Via.refl e1 (F_PUBCOMP_flags.ext x0) (g := (mkF m 9 #[.val (.ref (A 12)), .val (.int fl)] [(.ref (A 12))])) rfl rfl (hb hby d2_9)
  refine own_go (B := T2.setTop (mkF m 12 #[.val (.ref (A 12)), .val (.int fl)] [(.int (0 : Int32))])) st2 ?_
  refine own_go (B := T2.setTop (mkF m 13 #[.val (.ref (A 12)), .val (.int fl)] [(.int fl), (.int (0 : Int32))])) (fun _ k => XS.iloadN X2.here hx rfl (hb hby d2_12) rfl k) ?_
  refine own_go (B := T2.setTop (mkF m 20 #[.val (.ref (A 12)), .val (.int fl)] [])) (fun _ k => XS.icmpYes X2.here hx rfl (pc0 := 13) (pc' := 20) rfl (hb hby d2_13) rfl (feq kq13).2 (by decide) (by decide) k) ?_
  refine own_go (B := T2.setTop (mkF m 21 #[.val (.ref (A 12)), .val (.int fl)] [(.int (0 : Int32))])) (fun _ k => XT.iconstV X2.here hx rfl (0 : Int32) (hb hby d2_20) rfl k) ?_
  exact own_ret X2 hx (t := .boolean) hrt rfl (Or.inl ⟨rfl, by simp, _, rfl⟩) (hb hby d2_21) hlk ⟨rfl, N0, e2⟩ (by decide) (by decide)
set_option maxRecDepth 65536 in
set_option maxHeartbeats 40000000 in
theorem rm1_7 (l : Launch) (Z : State) (a0 : Array Value) (hw : ∀ d ∈ tables_1, d.before a0 Z = true) (ws : List Jvm.Cond)  (A : Nat → Addr) (hW : own_W Z A) (h0 : Heap) (x0 : Ext Z.heap h0)  :
    own_Met l Z (⟨"com/example/ferrybus/ferrybus/codec/PacketTypeAllowsPinLaw", "pick", "(I)Lcom/example/ferrybus/ferrybus/codec/PacketType;"⟩ : MethodName) method_2_code 1 (some (.object "com/example/ferrybus/ferrybus/codec/PacketType")) ws ({ frames := 0, cells := 0, slots := 0, locals := 0 } : Room) #[(.int (7 : Int32))] h0 (fun v_ h_ L_ => v_ = some (.ref (A 11)) ∧ Fr Z.heap.size L_ ∧ h_ = h0) := by
  refine own_body (plainFor_of_name pn_0) fun p e s m below meth c s₁ hx hby hml hown hnm hlk hrt hZ X0 e0 => ?_
  have N0 := Fr.nil Z.heap.size
  have hW' := hW
  obtain ⟨-, -, -, -, -, -, -, -, -, -, -, -, -, -, -, -, -, -, -, -, -, -, S_SUBSCRIBE, -, -, -, -, -, -, -, -, -, -, -, -, -, -, -, -, -, -, -, -, -, -⟩ := hW'
  refine own_go (B := s₁.setTop (mkF m 0 #[.val (.int (7 : Int32))] [])) (fun t k => castTop (ef_1 m (7 : Int32)) k) ?_
  refine own_go (B := s₁.setTop (mkF m 1 #[.val (.int (7 : Int32))] [(.int (7 : Int32))])) (fun _ k => XS.iloadN X0.here hx rfl (hb hby d1_0) rfl k) ?_
  refine own_go (B := s₁.setTop (mkF m 8 #[.val (.int (7 : Int32))] [])) (fun _ k => XS.ifYes X0.here hx rfl (pc0 := 1) (pc' := 8) rfl (hb hby d1_1) rfl (by decide) (by decide) (by decide) k) ?_
  refine own_go (B := s₁.setTop (mkF m 9 #[.val (.int (7 : Int32))] [(.int (7 : Int32))])) (fun _ k => XS.iloadN X0.here hx rfl (hb hby d1_8) rfl k) ?_
  refine own_go (B := s₁.setTop (mkF m 10 #[.val (.int (7 : Int32))] [(.int (1 : Int32)), (.int (7 : Int32))])) (fun _ k => XT.iconstV X0.here hx rfl (1 : Int32) (hb hby d1_9) rfl k) ?_
  refine own_go (B := s₁.setTop (mkF m 17 #[.val (.int (7 : Int32))] [])) (fun _ k => XS.icmpYes X0.here hx rfl (pc0 := 10) (pc' := 17) rfl (hb hby d1_10) rfl (by decide) (by decide) (by decide) k) ?_
  refine own_go (B := s₁.setTop (mkF m 18 #[.val (.int (7 : Int32))] [(.int (7 : Int32))])) (fun _ k => XS.iloadN X0.here hx rfl (hb hby d1_17) rfl k) ?_
  refine own_go (B := s₁.setTop (mkF m 19 #[.val (.int (7 : Int32))] [(.int (2 : Int32)), (.int (7 : Int32))])) (fun _ k => XT.iconstV X0.here hx rfl (2 : Int32) (hb hby d1_18) rfl k) ?_
  refine own_go (B := s₁.setTop (mkF m 26 #[.val (.int (7 : Int32))] [])) (fun _ k => XS.icmpYes X0.here hx rfl (pc0 := 19) (pc' := 26) rfl (hb hby d1_19) rfl (by decide) (by decide) (by decide) k) ?_
  refine own_go (B := s₁.setTop (mkF m 27 #[.val (.int (7 : Int32))] [(.int (7 : Int32))])) (fun _ k => XS.iloadN X0.here hx rfl (hb hby d1_26) rfl k) ?_
  refine own_go (B := s₁.setTop (mkF m 28 #[.val (.int (7 : Int32))] [(.int (3 : Int32)), (.int (7 : Int32))])) (fun _ k => XT.iconstV X0.here hx rfl (3 : Int32) (hb hby d1_27) rfl k) ?_
  refine own_go (B := s₁.setTop (mkF m 35 #[.val (.int (7 : Int32))] [])) (fun _ k => XS.icmpYes X0.here hx rfl (pc0 := 28) (pc' := 35) rfl (hb hby d1_28) rfl (by decide) (by decide) (by decide) k) ?_
  refine own_go (B := s₁.setTop (mkF m 36 #[.val (.int (7 : Int32))] [(.int (7 : Int32))])) (fun _ k => XS.iloadN X0.here hx rfl (hb hby d1_35) rfl k) ?_
  refine own_go (B := s₁.setTop (mkF m 37 #[.val (.int (7 : Int32))] [(.int (4 : Int32)), (.int (7 : Int32))])) (fun _ k => XT.iconstV X0.here hx rfl (4 : Int32) (hb hby d1_36) rfl k) ?_
  refine own_go (B := s₁.setTop (mkF m 44 #[.val (.int (7 : Int32))] [])) (fun _ k => XS.icmpYes X0.here hx rfl (pc0 := 37) (pc' := 44) rfl (hb hby d1_37) rfl (by decide) (by decide) (by decide) k) ?_
  refine own_go (B := s₁.setTop (mkF m 45 #[.val (.int (7 : Int32))] [(.int (7 : Int32))])) (fun _ k => XS.iloadN X0.here hx rfl (hb hby d1_44) rfl k) ?_
  refine own_go (B := s₁.setTop (mkF m 46 #[.val (.int (7 : Int32))] [(.int (5 : Int32)), (.int (7 : Int32))])) (fun _ k => XT.iconstV X0.here hx rfl (5 : Int32) (hb hby d1_45) rfl k) ?_
  refine own_go (B := s₁.setTop (mkF m 53 #[.val (.int (7 : Int32))] [])) (fun _ k => XS.icmpYes X0.here hx rfl (pc0 := 46) (pc' := 53) rfl (hb hby d1_46) rfl (by decide) (by decide) (by decide) k) ?_
  refine own_go (B := s₁.setTop (mkF m 54 #[.val (.int (7 : Int32))] [(.int (7 : Int32))])) (fun _ k => XS.iloadN X0.here hx rfl (hb hby d1_53) rfl k) ?_
  refine own_go (B := s₁.setTop (mkF m 56 #[.val (.int (7 : Int32))] [(.int (6 : Int32)), (.int (7 : Int32))])) (fun _ k => XT.bipushV X0.here hx rfl (6 : Int32) (hb hby d1_54) (by decide) k) ?_
  refine own_go (B := s₁.setTop (mkF m 63 #[.val (.int (7 : Int32))] [])) (fun _ k => XS.icmpYes X0.here hx rfl (pc0 := 56) (pc' := 63) rfl (hb hby d1_56) rfl (by decide) (by decide) (by decide) k) ?_
  refine own_go (B := s₁.setTop (mkF m 64 #[.val (.int (7 : Int32))] [(.int (7 : Int32))])) (fun _ k => XS.iloadN X0.here hx rfl (hb hby d1_63) rfl k) ?_
  refine own_go (B := s₁.setTop (mkF m 66 #[.val (.int (7 : Int32))] [(.int (7 : Int32)), (.int (7 : Int32))])) (fun _ k => XT.bipushV X0.here hx rfl (7 : Int32) (hb hby d1_64) (by decide) k) ?_
  refine own_go (B := s₁.setTop (mkF m 69 #[.val (.int (7 : Int32))] [])) (fun _ k => XS.icmpNo X0.here hx rfl (hb hby d1_66) rfl (by decide) k) ?_
  obtain ⟨T1, X1, e1, st1⟩ := getS2 X0 hx hZ hown (host := "") (Or.inl (hw _ (List.mem_of_getElem? (i := 35) rfl))) Via.refl e0 (S_SUBSCRIBE.ext x0) (g := (mkF m 69 #[.val (.int (7 : Int32))] [])) rfl (hb hby d1_69)
  refine own_go (B := T1.setTop (mkF m 72 #[.val (.int (7 : Int32))] [(.ref (A 11))])) st1 ?_
  exact own_ret X1 hx (t := (.object "com/example/ferrybus/ferrybus/codec/PacketType")) hrt rfl (Or.inr (Or.inr (Or.inr (Or.inr ⟨rfl, rfl, rfl⟩)))) (hb hby d1_72) hlk ⟨rfl, N0, e1⟩ (by decide) (by decide)
set_option maxRecDepth 65536 in
set_option maxHeartbeats 40000000 in
theorem rm2_13 (l : Launch) (Z : State) (a0 : Array Value) (hw : ∀ d ∈ tables_1, d.before a0 Z = true) (ws : List Jvm.Cond) (fl : Int32) (A : Nat → Addr) (hW : own_W Z A) (h0 : Heap) (x0 : Ext Z.heap h0) (kq13 : (2 : Int32) = fl) :
    own_Met l Z (⟨"com/example/ferrybus/ferrybus/codec/PacketType", "allows", "(I)Z"⟩ : MethodName) prog_32_method_5_code 2 (some .boolean) ws ({ frames := 0, cells := 0, slots := 0, locals := 0 } : Room) #[(.ref (A 11)), (.int fl)] h0 (fun v_ h_ L_ => v_ = some (.int (1 : Int32)) ∧ Fr Z.heap.size L_ ∧ h_ = h0) := by
  refine own_body (plainFor_of_name pn_1) fun p e s m below meth c s₁ hx hby hml hown hnm hlk hrt hZ X0 e0 => ?_
  have N0 := Fr.nil Z.heap.size
  have hW' := hW
  obtain ⟨-, -, -, -, -, -, -, -, -, -, -, -, -, -, -, -, -, -, -, -, -, -, -, -, -, -, -, -, -, -, -, -, -, -, -, -, -, -, -, -, -, F_SUBSCRIBE_flags, -, -, -⟩ := hW'
  refine own_go (B := s₁.setTop (mkF m 0 #[.val (.ref (A 11)), .val (.int fl)] [])) (fun t k => castTop (ef_2 m (A 11) fl) k) ?_
  refine own_go (B := s₁.setTop (mkF m 1 #[.val (.ref (A 11)), .val (.int fl)] [(.ref (A 11))])) (fun _ k => XS.aloadN X0.here hx rfl (hb hby d2_0) rfl rfl k) ?_
  obtain ⟨T1, X1, e1, st1⟩ := getF X0 hx hZ hown (host := "") (Or.inl (hw _ (List.mem_of_getElem? (i := 13) rfl))) Via.refl e0 (F_SUBSCRIBE_flags.ext x0) (g := (mkF m 1 #[.val (.ref (A 11)), .val (.int fl)] [(.ref (A 11))])) rfl rfl (hb hby d2_1)
  refine own_go (B := T1.setTop (mkF m 4 #[.val (.ref (A 11)), .val (.int fl)] [(.int (2 : Int32))])) st1 ?_
  refine own_go (B := T1.setTop (mkF m 5 #[.val (.ref (A 11)), .val (.int fl)] [(.int (-1 : Int32)), (.int (2 : Int32))])) (fun _ k => XT.iconstV X1.here hx rfl (-1 : Int32) (hb hby d2_4) rfl k) ?_
  refine own_go (B := T1.setTop (mkF m 8 #[.val (.ref (A 11)), .val (.int fl)] [])) (fun _ k => XS.icmpNo X1.here hx rfl (hb hby d2_5) rfl (by decide) k) ?_
  refine own_go (B := T1.setTop (mkF m 9 #[.val (.ref (A 11)), .val (.int fl)] [(.ref (A 11))])) (fun _ k => XS.aloadN X1.here hx rfl (hb hby d2_8) rfl rfl k) ?_
  obtain ⟨T2, X2, e2, st2⟩ := getF X1 hx hZ hown (host := "") (Or.inl (hw _ (List.mem_of_getElem? (i := 13) rfl))) Via.refl e1 (F_SUBSCRIBE_flags.ext x0) (g := (mkF m 9 #[.val (.ref (A 11)), .val (.int fl)] [(.ref (A 11))])) rfl rfl (hb hby d2_9)
  refine own_go (B := T2.setTop (mkF m 12 #[.val (.ref (A 11)), .val (.int fl)] [(.int (2 : Int32))])) st2 ?_
  refine own_go (B := T2.setTop (mkF m 13 #[.val (.ref (A 11)), .val (.int fl)] [(.int fl), (.int (2 : Int32))])) (fun _ k => XS.iloadN X2.here hx rfl (hb hby d2_12) rfl k) ?_
  refine own_go (B := T2.setTop (mkF m 16 #[.val (.ref (A 11)), .val (.int fl)] [])) (fun _ k => XS.icmpNo X2.here hx rfl (hb hby d2_13) rfl (teq kq13).2 k) ?_
  refine own_go (B := T2.setTop (mkF m 17 #[.val (.ref (A 11)), .val (.int fl)] [(.int (1 : Int32))])) (fun _ k => XT.iconstV X2.here hx rfl (1 : Int32) (hb hby d2_16) rfl k) ?_
  refine own_go (B := T2.setTop (mkF m 21 #[.val (.ref (A 11)), .val (.int fl)] [(.int (1 : Int32))])) (fun _ k => XS.goto X2.here hx rfl (pc0 := 17) (pc' := 21) rfl (hb hby d2_17) (by decide) (by decide) k) ?_
  exact own_ret X2 hx (t := .boolean) hrt rfl (Or.inl ⟨rfl, by simp, _, rfl⟩) (hb hby d2_21) hlk ⟨rfl, N0, e2⟩ (by decide) (by decide)
set_option maxRecDepth 65536 in
set_option maxHeartbeats 40000000 in
theorem rm2_14 (l : Launch) (Z : State) (a0 : Array Value) (hw : ∀ d ∈ tables_1, d.before a0 Z = true) (ws : List Jvm.Cond) (fl : Int32) (A : Nat → Addr) (hW : own_W Z A) (h0 : Heap) (x0 : Ext Z.heap h0) (kq13 : ¬ (2 : Int32) = fl) :
    own_Met l Z (⟨"com/example/ferrybus/ferrybus/codec/PacketType", "allows", "(I)Z"⟩ : MethodName) prog_32_method_5_code 2 (some .boolean) ws ({ frames := 0, cells := 0, slots := 0, locals := 0 } : Room) #[(.ref (A 11)), (.int fl)] h0 (fun v_ h_ L_ => v_ = some (.int (0 : Int32)) ∧ Fr Z.heap.size L_ ∧ h_ = h0) := by
  refine own_body (plainFor_of_name pn_1) fun p e s m below meth c s₁ hx hby hml hown hnm hlk hrt hZ X0 e0 => ?_
  have N0 := Fr.nil Z.heap.size
  have hW' := hW
  obtain ⟨-, -, -, -, -, -, -, -, -, -, -, -, -, -, -, -, -, -, -, -, -, -, -, -, -, -, -, -, -, -, -, -, -, -, -, -, -, -, -, -, -, F_SUBSCRIBE_flags, -, -, -⟩ := hW'
  refine own_go (B := s₁.setTop (mkF m 0 #[.val (.ref (A 11)), .val (.int fl)] [])) (fun t k => castTop (ef_2 m (A 11) fl) k) ?_
  refine own_go (B := s₁.setTop (mkF m 1 #[.val (.ref (A 11)), .val (.int fl)] [(.ref (A 11))])) (fun _ k => XS.aloadN X0.here hx rfl (hb hby d2_0) rfl rfl k) ?_
  obtain ⟨T1, X1, e1, st1⟩ := getF X0 hx hZ hown (host := "") (Or.inl (hw _ (List.mem_of_getElem? (i := 13) rfl))) Via.refl e0 (F_SUBSCRIBE_flags.ext x0) (g := (mkF m 1 #[.val (.ref (A 11)), .val (.int fl)] [(.ref (A 11))])) rfl rfl (hb hby d2_1)
  refine own_go (B := T1.setTop (mkF m 4 #[.val (.ref (A 11)), .val (.int fl)] [(.int (2 : Int32))])) st1 ?_
  refine own_go (B := T1.setTop (mkF m 5 #[.val (.ref (A 11)), .val (.int fl)] [(.int (-1 : Int32)), (.int (2 : Int32))])) (fun _ k => XT.iconstV X1.here hx rfl (-1 : Int32) (hb hby d2_4) rfl k) ?_
  refine own_go (B := T1.setTop (mkF m 8 #[.val (.ref (A 11)), .val (.int fl)] [])) (fun _ k => XS.icmpNo X1.here hx rfl (hb hby d2_5) rfl (by decide) k) ?_
  refine own_go (B := T1.setTop (mkF m 9 #[.val (.ref (A 11)), .val (.int fl)] [(.ref (A 11))])) (fun _ k => XS.aloadN X1.here hx rfl (hb hby d2_8) rfl rfl k) ?_
  obtain ⟨T2, X2, e2, st2⟩ := getF X1 hx hZ hown (host := "") (Or.inl (hw _ (List.mem_of_getElem? (i := 13) rfl))) Via.refl e1 (F_SUBSCRIBE_flags.ext x0) (g := (mkF m 9 #[.val (.ref (A 11)), .val (.int fl)] [(.ref (A 11))])) rfl rfl (hb hby d2_9)
  refine own_go (B := T2.setTop (mkF m 12 #[.val (.ref (A 11)), .val (.int fl)] [(.int (2 : Int32))])) st2 ?_
  refine own_go (B := T2.setTop (mkF m 13 #[.val (.ref (A 11)), .val (.int fl)] [(.int fl), (.int (2 : Int32))])) (fun _ k => XS.iloadN X2.here hx rfl (hb hby d2_12) rfl k) ?_
  refine own_go (B := T2.setTop (mkF m 20 #[.val (.ref (A 11)), .val (.int fl)] [])) (fun _ k => XS.icmpYes X2.here hx rfl (pc0 := 13) (pc' := 20) rfl (hb hby d2_13) rfl (feq kq13).2 (by decide) (by decide) k) ?_
  refine own_go (B := T2.setTop (mkF m 21 #[.val (.ref (A 11)), .val (.int fl)] [(.int (0 : Int32))])) (fun _ k => XT.iconstV X2.here hx rfl (0 : Int32) (hb hby d2_20) rfl k) ?_
  exact own_ret X2 hx (t := .boolean) hrt rfl (Or.inl ⟨rfl, by simp, _, rfl⟩) (hb hby d2_21) hlk ⟨rfl, N0, e2⟩ (by decide) (by decide)
set_option maxRecDepth 65536 in
set_option maxHeartbeats 40000000 in
theorem rm1_8 (l : Launch) (Z : State) (a0 : Array Value) (hw : ∀ d ∈ tables_1, d.before a0 Z = true) (ws : List Jvm.Cond)  (A : Nat → Addr) (hW : own_W Z A) (h0 : Heap) (x0 : Ext Z.heap h0)  :
    own_Met l Z (⟨"com/example/ferrybus/ferrybus/codec/PacketTypeAllowsPinLaw", "pick", "(I)Lcom/example/ferrybus/ferrybus/codec/PacketType;"⟩ : MethodName) method_2_code 1 (some (.object "com/example/ferrybus/ferrybus/codec/PacketType")) ws ({ frames := 0, cells := 0, slots := 0, locals := 0 } : Room) #[(.int (8 : Int32))] h0 (fun v_ h_ L_ => v_ = some (.ref (A 4)) ∧ Fr Z.heap.size L_ ∧ h_ = h0) := by
  refine own_body (plainFor_of_name pn_0) fun p e s m below meth c s₁ hx hby hml hown hnm hlk hrt hZ X0 e0 => ?_
  have N0 := Fr.nil Z.heap.size
  have hW' := hW
  obtain ⟨-, -, -, -, -, -, -, -, S_SUBACK, -, -, -, -, -, -, -, -, -, -, -, -, -, -, -, -, -, -, -, -, -, -, -, -, -, -, -, -, -, -, -, -, -, -, -, -⟩ := hW'
  refine own_go (B := s₁.setTop (mkF m 0 #[.val (.int (8 : Int32))] [])) (fun t k => castTop (ef_1 m (8 : Int32)) k) ?_
  refine own_go (B := s₁.setTop (mkF m 1 #[.val (.int (8 : Int32))] [(.int (8 : Int32))])) (fun _ k => XS.iloadN X0.here hx rfl (hb hby d1_0) rfl k) ?_
  refine own_go (B := s₁.setTop (mkF m 8 #[.val (.int (8 : Int32))] [])) (fun _ k => XS.ifYes X0.here hx rfl (pc0 := 1) (pc' := 8) rfl (hb hby d1_1) rfl (by decide) (by decide) (by decide) k) ?_
  refine own_go (B := s₁.setTop (mkF m 9 #[.val (.int (8 : Int32))] [(.int (8 : Int32))])) (fun _ k => XS.iloadN X0.here hx rfl (hb hby d1_8) rfl k) ?_
  refine own_go (B := s₁.setTop (mkF m 10 #[.val (.int (8 : Int32))] [(.int (1 : Int32)), (.int (8 : Int32))])) (fun _ k => XT.iconstV X0.here hx rfl (1 : Int32) (hb hby d1_9) rfl k) ?_
  refine own_go (B := s₁.setTop (mkF m 17 #[.val (.int (8 : Int32))] [])) (fun _ k => XS.icmpYes X0.here hx rfl (pc0 := 10) (pc' := 17) rfl (hb hby d1_10) rfl (by decide) (by decide) (by decide) k) ?_
  refine own_go (B := s₁.setTop (mkF m 18 #[.val (.int (8 : Int32))] [(.int (8 : Int32))])) (fun _ k => XS.iloadN X0.here hx rfl (hb hby d1_17) rfl k) ?_
  refine own_go (B := s₁.setTop (mkF m 19 #[.val (.int (8 : Int32))] [(.int (2 : Int32)), (.int (8 : Int32))])) (fun _ k => XT.iconstV X0.here hx rfl (2 : Int32) (hb hby d1_18) rfl k) ?_
  refine own_go (B := s₁.setTop (mkF m 26 #[.val (.int (8 : Int32))] [])) (fun _ k => XS.icmpYes X0.here hx rfl (pc0 := 19) (pc' := 26) rfl (hb hby d1_19) rfl (by decide) (by decide) (by decide) k) ?_
  refine own_go (B := s₁.setTop (mkF m 27 #[.val (.int (8 : Int32))] [(.int (8 : Int32))])) (fun _ k => XS.iloadN X0.here hx rfl (hb hby d1_26) rfl k) ?_
  refine own_go (B := s₁.setTop (mkF m 28 #[.val (.int (8 : Int32))] [(.int (3 : Int32)), (.int (8 : Int32))])) (fun _ k => XT.iconstV X0.here hx rfl (3 : Int32) (hb hby d1_27) rfl k) ?_
  refine own_go (B := s₁.setTop (mkF m 35 #[.val (.int (8 : Int32))] [])) (fun _ k => XS.icmpYes X0.here hx rfl (pc0 := 28) (pc' := 35) rfl (hb hby d1_28) rfl (by decide) (by decide) (by decide) k) ?_
  refine own_go (B := s₁.setTop (mkF m 36 #[.val (.int (8 : Int32))] [(.int (8 : Int32))])) (fun _ k => XS.iloadN X0.here hx rfl (hb hby d1_35) rfl k) ?_
  refine own_go (B := s₁.setTop (mkF m 37 #[.val (.int (8 : Int32))] [(.int (4 : Int32)), (.int (8 : Int32))])) (fun _ k => XT.iconstV X0.here hx rfl (4 : Int32) (hb hby d1_36) rfl k) ?_
  refine own_go (B := s₁.setTop (mkF m 44 #[.val (.int (8 : Int32))] [])) (fun _ k => XS.icmpYes X0.here hx rfl (pc0 := 37) (pc' := 44) rfl (hb hby d1_37) rfl (by decide) (by decide) (by decide) k) ?_
  refine own_go (B := s₁.setTop (mkF m 45 #[.val (.int (8 : Int32))] [(.int (8 : Int32))])) (fun _ k => XS.iloadN X0.here hx rfl (hb hby d1_44) rfl k) ?_
  refine own_go (B := s₁.setTop (mkF m 46 #[.val (.int (8 : Int32))] [(.int (5 : Int32)), (.int (8 : Int32))])) (fun _ k => XT.iconstV X0.here hx rfl (5 : Int32) (hb hby d1_45) rfl k) ?_
  refine own_go (B := s₁.setTop (mkF m 53 #[.val (.int (8 : Int32))] [])) (fun _ k => XS.icmpYes X0.here hx rfl (pc0 := 46) (pc' := 53) rfl (hb hby d1_46) rfl (by decide) (by decide) (by decide) k) ?_
  refine own_go (B := s₁.setTop (mkF m 54 #[.val (.int (8 : Int32))] [(.int (8 : Int32))])) (fun _ k => XS.iloadN X0.here hx rfl (hb hby d1_53) rfl k) ?_
  refine own_go (B := s₁.setTop (mkF m 56 #[.val (.int (8 : Int32))] [(.int (6 : Int32)), (.int (8 : Int32))])) (fun _ k => XT.bipushV X0.here hx rfl (6 : Int32) (hb hby d1_54) (by decide) k) ?_
  refine own_go (B := s₁.setTop (mkF m 63 #[.val (.int (8 : Int32))] [])) (fun _ k => XS.icmpYes X0.here hx rfl (pc0 := 56) (pc' := 63) rfl (hb hby d1_56) rfl (by decide) (by decide) (by decide) k) ?_
  refine own_go (B := s₁.setTop (mkF m 64 #[.val (.int (8 : Int32))] [(.int (8 : Int32))])) (fun _ k => XS.iloadN X0.here hx rfl (hb hby d1_63) rfl k) ?_
  refine own_go (B := s₁.setTop (mkF m 66 #[.val (.int (8 : Int32))] [(.int (7 : Int32)), (.int (8 : Int32))])) (fun _ k => XT.bipushV X0.here hx rfl (7 : Int32) (hb hby d1_64) (by decide) k) ?_
  refine own_go (B := s₁.setTop (mkF m 73 #[.val (.int (8 : Int32))] [])) (fun _ k => XS.icmpYes X0.here hx rfl (pc0 := 66) (pc' := 73) rfl (hb hby d1_66) rfl (by decide) (by decide) (by decide) k) ?_
  refine own_go (B := s₁.setTop (mkF m 74 #[.val (.int (8 : Int32))] [(.int (8 : Int32))])) (fun _ k => XS.iloadN X0.here hx rfl (hb hby d1_73) rfl k) ?_
  refine own_go (B := s₁.setTop (mkF m 76 #[.val (.int (8 : Int32))] [(.int (8 : Int32)), (.int (8 : Int32))])) (fun _ k => XT.bipushV X0.here hx rfl (8 : Int32) (hb hby d1_74) (by decide) k) ?_
  refine own_go (B := s₁.setTop (mkF m 79 #[.val (.int (8 : Int32))] [])) (fun _ k => XS.icmpNo X0.here hx rfl (hb hby d1_76) rfl (by decide) k) ?_
  obtain ⟨T1, X1, e1, st1⟩ := getS2 X0 hx hZ hown (host := "") (Or.inl (hw _ (List.mem_of_getElem? (i := 21) rfl))) Via.refl e0 (S_SUBACK.ext x0) (g := (mkF m 79 #[.val (.int (8 : Int32))] [])) rfl (hb hby d1_79)
  refine own_go (B := T1.setTop (mkF m 82 #[.val (.int (8 : Int32))] [(.ref (A 4))])) st1 ?_
  exact own_ret X1 hx (t := (.object "com/example/ferrybus/ferrybus/codec/PacketType")) hrt rfl (Or.inr (Or.inr (Or.inr (Or.inr ⟨rfl, rfl, rfl⟩)))) (hb hby d1_82) hlk ⟨rfl, N0, e1⟩ (by decide) (by decide)
set_option maxRecDepth 65536 in
set_option maxHeartbeats 40000000 in
theorem rm2_15 (l : Launch) (Z : State) (a0 : Array Value) (hw : ∀ d ∈ tables_1, d.before a0 Z = true) (ws : List Jvm.Cond) (fl : Int32) (A : Nat → Addr) (hW : own_W Z A) (h0 : Heap) (x0 : Ext Z.heap h0) (kq13 : (0 : Int32) = fl) :
    own_Met l Z (⟨"com/example/ferrybus/ferrybus/codec/PacketType", "allows", "(I)Z"⟩ : MethodName) prog_32_method_5_code 2 (some .boolean) ws ({ frames := 0, cells := 0, slots := 0, locals := 0 } : Room) #[(.ref (A 4)), (.int fl)] h0 (fun v_ h_ L_ => v_ = some (.int (1 : Int32)) ∧ Fr Z.heap.size L_ ∧ h_ = h0) := by
  refine own_body (plainFor_of_name pn_1) fun p e s m below meth c s₁ hx hby hml hown hnm hlk hrt hZ X0 e0 => ?_
  have N0 := Fr.nil Z.heap.size
  have hW' := hW
  obtain ⟨-, -, -, -, -, -, -, -, -, -, -, -, -, -, -, -, -, -, -, -, -, -, -, -, -, -, -, -, -, -, -, -, -, -, F_SUBACK_flags, -, -, -, -, -, -, -, -, -, -⟩ := hW'
  refine own_go (B := s₁.setTop (mkF m 0 #[.val (.ref (A 4)), .val (.int fl)] [])) (fun t k => castTop (ef_2 m (A 4) fl) k) ?_
  refine own_go (B := s₁.setTop (mkF m 1 #[.val (.ref (A 4)), .val (.int fl)] [(.ref (A 4))])) (fun _ k => XS.aloadN X0.here hx rfl (hb hby d2_0) rfl rfl k) ?_
  obtain ⟨T1, X1, e1, st1⟩ := getF X0 hx hZ hown (host := "") (Or.inl (hw _ (List.mem_of_getElem? (i := 13) rfl))) Via.refl e0 (F_SUBACK_flags.ext x0) (g := (mkF m 1 #[.val (.ref (A 4)), .val (.int fl)] [(.ref (A 4))])) rfl rfl (hb hby d2_1)
  refine own_go (B := T1.setTop (mkF m 4 #[.val (.ref (A 4)), .val (.int fl)] [(.int (0 : Int32))])) st1 ?_
  refine own_go (B := T1.setTop (mkF m 5 #[.val (.ref (A 4)), .val (.int fl)] [(.int (-1 : Int32)), (.int (0 : Int32))])) (fun _ k => XT.iconstV X1.here hx rfl (-1 : Int32) (hb hby d2_4) rfl k) ?_
  refine own_go (B := T1.setTop (mkF m 8 #[.val (.ref (A 4)), .val (.int fl)] [])) (fun _ k => XS.icmpNo X1.here hx rfl (hb hby d2_5) rfl (by decide) k) ?_
  refine own_go (B := T1.setTop (mkF m 9 #[.val (.ref (A 4)), .val (.int fl)] [(.ref (A 4))])) (fun _ k => XS.aloadN X1.here hx rfl (hb hby d2_8) rfl rfl k) ?_
  obtain ⟨T2, X2, e2, st2⟩ := getF X1 hx hZ hown (host := "") (Or.inl (hw _ (List.mem_of_getElem? (i := 13) rfl))) Via.refl e1 (F_SUBACK_flags.ext x0) (g := (mkF m 9 #[.val (.ref (A 4)), .val (.int fl)] [(.ref (A 4))])) rfl rfl (hb hby d2_9)
  refine own_go (B := T2.setTop (mkF m 12 #[.val (.ref (A 4)), .val (.int fl)] [(.int (0 : Int32))])) st2 ?_
  refine own_go (B := T2.setTop (mkF m 13 #[.val (.ref (A 4)), .val (.int fl)] [(.int fl), (.int (0 : Int32))])) (fun _ k => XS.iloadN X2.here hx rfl (hb hby d2_12) rfl k) ?_
  refine own_go (B := T2.setTop (mkF m 16 #[.val (.ref (A 4)), .val (.int fl)] [])) (fun _ k => XS.icmpNo X2.here hx rfl (hb hby d2_13) rfl (teq kq13).2 k) ?_
  refine own_go (B := T2.setTop (mkF m 17 #[.val (.ref (A 4)), .val (.int fl)] [(.int (1 : Int32))])) (fun _ k => XT.iconstV X2.here hx rfl (1 : Int32) (hb hby d2_16) rfl k) ?_
  refine own_go (B := T2.setTop (mkF m 21 #[.val (.ref (A 4)), .val (.int fl)] [(.int (1 : Int32))])) (fun _ k => XS.goto X2.here hx rfl (pc0 := 17) (pc' := 21) rfl (hb hby d2_17) (by decide) (by decide) k) ?_
  exact own_ret X2 hx (t := .boolean) hrt rfl (Or.inl ⟨rfl, by simp, _, rfl⟩) (hb hby d2_21) hlk ⟨rfl, N0, e2⟩ (by decide) (by decide)
set_option maxRecDepth 65536 in
set_option maxHeartbeats 40000000 in
theorem rm2_16 (l : Launch) (Z : State) (a0 : Array Value) (hw : ∀ d ∈ tables_1, d.before a0 Z = true) (ws : List Jvm.Cond) (fl : Int32) (A : Nat → Addr) (hW : own_W Z A) (h0 : Heap) (x0 : Ext Z.heap h0) (kq13 : ¬ (0 : Int32) = fl) :
    own_Met l Z (⟨"com/example/ferrybus/ferrybus/codec/PacketType", "allows", "(I)Z"⟩ : MethodName) prog_32_method_5_code 2 (some .boolean) ws ({ frames := 0, cells := 0, slots := 0, locals := 0 } : Room) #[(.ref (A 4)), (.int fl)] h0 (fun v_ h_ L_ => v_ = some (.int (0 : Int32)) ∧ Fr Z.heap.size L_ ∧ h_ = h0) := by
  refine own_body (plainFor_of_name pn_1) fun p e s m below meth c s₁ hx hby hml hown hnm hlk hrt hZ X0 e0 => ?_
  have N0 := Fr.nil Z.heap.size
  have hW' := hW
  obtain ⟨-, -, -, -, -, -, -, -, -, -, -, -, -, -, -, -, -, -, -, -, -, -, -, -, -, -, -, -, -, -, -, -, -, -, F_SUBACK_flags, -, -, -, -, -, -, -, -, -, -⟩ := hW'
  refine own_go (B := s₁.setTop (mkF m 0 #[.val (.ref (A 4)), .val (.int fl)] [])) (fun t k => castTop (ef_2 m (A 4) fl) k) ?_
  refine own_go (B := s₁.setTop (mkF m 1 #[.val (.ref (A 4)), .val (.int fl)] [(.ref (A 4))])) (fun _ k => XS.aloadN X0.here hx rfl (hb hby d2_0) rfl rfl k) ?_
  obtain ⟨T1, X1, e1, st1⟩ := getF X0 hx hZ hown (host := "") (Or.inl (hw _ (List.mem_of_getElem? (i := 13) rfl))) Via.refl e0 (F_SUBACK_flags.ext x0) (g := (mkF m 1 #[.val (.ref (A 4)), .val (.int fl)] [(.ref (A 4))])) rfl rfl (hb hby d2_1)
  refine own_go (B := T1.setTop (mkF m 4 #[.val (.ref (A 4)), .val (.int fl)] [(.int (0 : Int32))])) st1 ?_
  refine own_go (B := T1.setTop (mkF m 5 #[.val (.ref (A 4)), .val (.int fl)] [(.int (-1 : Int32)), (.int (0 : Int32))])) (fun _ k => XT.iconstV X1.here hx rfl (-1 : Int32) (hb hby d2_4) rfl k) ?_
  refine own_go (B := T1.setTop (mkF m 8 #[.val (.ref (A 4)), .val (.int fl)] [])) (fun _ k => XS.icmpNo X1.here hx rfl (hb hby d2_5) rfl (by decide) k) ?_
  refine own_go (B := T1.setTop (mkF m 9 #[.val (.ref (A 4)), .val (.int fl)] [(.ref (A 4))])) (fun _ k => XS.aloadN X1.here hx rfl (hb hby d2_8) rfl rfl k) ?_
  obtain ⟨T2, X2, e2, st2⟩ := getF X1 hx hZ hown (host := "") (Or.inl (hw _ (List.mem_of_getElem? (i := 13) rfl))) Via.refl e1 (F_SUBACK_flags.ext x0) (g := (mkF m 9 #[.val (.ref (A 4)), .val (.int fl)] [(.ref (A 4))])) rfl rfl (hb hby d2_9)
  refine own_go (B := T2.setTop (mkF m 12 #[.val (.ref (A 4)), .val (.int fl)] [(.int (0 : Int32))])) st2 ?_
  refine own_go (B := T2.setTop (mkF m 13 #[.val (.ref (A 4)), .val (.int fl)] [(.int fl), (.int (0 : Int32))])) (fun _ k => XS.iloadN X2.here hx rfl (hb hby d2_12) rfl k) ?_
  refine own_go (B := T2.setTop (mkF m 20 #[.val (.ref (A 4)), .val (.int fl)] [])) (fun _ k => XS.icmpYes X2.here hx rfl (pc0 := 13) (pc' := 20) rfl (hb hby d2_13) rfl (feq kq13).2 (by decide) (by decide) k) ?_
  refine own_go (B := T2.setTop (mkF m 21 #[.val (.ref (A 4)), .val (.int fl)] [(.int (0 : Int32))])) (fun _ k => XT.iconstV X2.here hx rfl (0 : Int32) (hb hby d2_20) rfl k) ?_
  exact own_ret X2 hx (t := .boolean) hrt rfl (Or.inl ⟨rfl, by simp, _, rfl⟩) (hb hby d2_21) hlk ⟨rfl, N0, e2⟩ (by decide) (by decide)
set_option maxRecDepth 65536 in
set_option maxHeartbeats 40000000 in
theorem rm1_9 (l : Launch) (Z : State) (a0 : Array Value) (hw : ∀ d ∈ tables_1, d.before a0 Z = true) (ws : List Jvm.Cond)  (A : Nat → Addr) (hW : own_W Z A) (h0 : Heap) (x0 : Ext Z.heap h0)  :
    own_Met l Z (⟨"com/example/ferrybus/ferrybus/codec/PacketTypeAllowsPinLaw", "pick", "(I)Lcom/example/ferrybus/ferrybus/codec/PacketType;"⟩ : MethodName) method_2_code 1 (some (.object "com/example/ferrybus/ferrybus/codec/PacketType")) ws ({ frames := 0, cells := 0, slots := 0, locals := 0 } : Room) #[(.int (9 : Int32))] h0 (fun v_ h_ L_ => v_ = some (.ref (A 5)) ∧ Fr Z.heap.size L_ ∧ h_ = h0) := by
  refine own_body (plainFor_of_name pn_0) fun p e s m below meth c s₁ hx hby hml hown hnm hlk hrt hZ X0 e0 => ?_
  have N0 := Fr.nil Z.heap.size
  have hW' := hW
  obtain ⟨-, -, -, -, -, -, -, -, -, -, S_UNSUBSCRIBE, -, -, -, -, -, -, -, -, -, -, -, -, -, -, -, -, -, -, -, -, -, -, -, -, -, -, -, -, -, -, -, -, -, -⟩ := hW'
  refine own_go (B := s₁.setTop (mkF m 0 #[.val (.int (9 : Int32))] [])) (fun t k => castTop (ef_1 m (9 : Int32)) k) ?_
  refine own_go (B := s₁.setTop (mkF m 1 #[.val (.int (9 : Int32))] [(.int (9 : Int32))])) (fun _ k => XS.iloadN X0.here hx rfl (hb hby d1_0) rfl k) ?_
  refine own_go (B := s₁.setTop (mkF m 8 #[.val (.int (9 : Int32))] [])) (fun _ k => XS.ifYes X0.here hx rfl (pc0 := 1) (pc' := 8) rfl (hb hby d1_1) rfl (by decide) (by decide) (by decide) k) ?_
  refine own_go (B := s₁.setTop (mkF m 9 #[.val (.int (9 : Int32))] [(.int (9 : Int32))])) (fun _ k => XS.iloadN X0.here hx rfl (hb hby d1_8) rfl k) ?_
  refine own_go (B := s₁.setTop (mkF m 10 #[.val (.int (9 : Int32))] [(.int (1 : Int32)), (.int (9 : Int32))])) (fun _ k => XT.iconstV X0.here hx rfl (1 : Int32) (hb hby d1_9) rfl k) ?_
  refine own_go (B := s₁.setTop (mkF m 17 #[.val (.int (9 : Int32))] [])) (fun _ k => XS.icmpYes X0.here hx rfl (pc0 := 10) (pc' := 17) rfl (hb hby d1_10) rfl (by decide) (by decide) (by decide) k) ?_
  refine own_go (B := s₁.setTop (mkF m 18 #[.val (.int (9 : Int32))] [(.int (9 : Int32))])) (fun _ k => XS.iloadN X0.here hx rfl (hb hby d1_17) rfl k) ?_
  refine own_go (B := s₁.setTop (mkF m 19 #[.val (.int (9 : Int32))] [(.int (2 : Int32)), (.int (9 : Int32))])) (fun _ k => XT.iconstV X0.here hx rfl (2 : Int32) (hb hby d1_18) rfl k) ?_
  refine own_go (B := s₁.setTop (mkF m 26 #[.val (.int (9 : Int32))] [])) (fun _ k => XS.icmpYes X0.here hx rfl (pc0 := 19) (pc' := 26) rfl (hb hby d1_19) rfl (by decide) (by decide) (by decide) k) ?_
  refine own_go (B := s₁.setTop (mkF m 27 #[.val (.int (9 : Int32))] [(.int (9 : Int32))])) (fun _ k => XS.iloadN X0.here hx rfl (hb hby d1_26) rfl k) ?_
  refine own_go (B := s₁.setTop (mkF m 28 #[.val (.int (9 : Int32))] [(.int (3 : Int32)), (.int (9 : Int32))])) (fun _ k => XT.iconstV X0.here hx rfl (3 : Int32) (hb hby d1_27) rfl k) ?_
  refine own_go (B := s₁.setTop (mkF m 35 #[.val (.int (9 : Int32))] [])) (fun _ k => XS.icmpYes X0.here hx rfl (pc0 := 28) (pc' := 35) rfl (hb hby d1_28) rfl (by decide) (by decide) (by decide) k) ?_
  refine own_go (B := s₁.setTop (mkF m 36 #[.val (.int (9 : Int32))] [(.int (9 : Int32))])) (fun _ k => XS.iloadN X0.here hx rfl (hb hby d1_35) rfl k) ?_
  refine own_go (B := s₁.setTop (mkF m 37 #[.val (.int (9 : Int32))] [(.int (4 : Int32)), (.int (9 : Int32))])) (fun _ k => XT.iconstV X0.here hx rfl (4 : Int32) (hb hby d1_36) rfl k) ?_
  refine own_go (B := s₁.setTop (mkF m 44 #[.val (.int (9 : Int32))] [])) (fun _ k => XS.icmpYes X0.here hx rfl (pc0 := 37) (pc' := 44) rfl (hb hby d1_37) rfl (by decide) (by decide) (by decide) k) ?_
  refine own_go (B := s₁.setTop (mkF m 45 #[.val (.int (9 : Int32))] [(.int (9 : Int32))])) (fun _ k => XS.iloadN X0.here hx rfl (hb hby d1_44) rfl k) ?_
  refine own_go (B := s₁.setTop (mkF m 46 #[.val (.int (9 : Int32))] [(.int (5 : Int32)), (.int (9 : Int32))])) (fun _ k => XT.iconstV X0.here hx rfl (5 : Int32) (hb hby d1_45) rfl k) ?_
  refine own_go (B := s₁.setTop (mkF m 53 #[.val (.int (9 : Int32))] [])) (fun _ k => XS.icmpYes X0.here hx rfl (pc0 := 46) (pc' := 53) rfl (hb hby d1_46) rfl (by decide) (by decide) (by decide) k) ?_
  refine own_go (B := s₁.setTop (mkF m 54 #[.val (.int (9 : Int32))] [(.int (9 : Int32))])) (fun _ k => XS.iloadN X0.here hx rfl (hb hby d1_53) rfl k) ?_
  refine own_go (B := s₁.setTop (mkF m 56 #[.val (.int (9 : Int32))] [(.int (6 : Int32)), (.int (9 : Int32))])) (fun _ k => XT.bipushV X0.here hx rfl (6 : Int32) (hb hby d1_54) (by decide) k) ?_
  refine own_go (B := s₁.setTop (mkF m 63 #[.val (.int (9 : Int32))] [])) (fun _ k => XS.icmpYes X0.here hx rfl (pc0 := 56) (pc' := 63) rfl (hb hby d1_56) rfl (by decide) (by decide) (by decide) k) ?_
  refine own_go (B := s₁.setTop (mkF m 64 #[.val (.int (9 : Int32))] [(.int (9 : Int32))])) (fun _ k => XS.iloadN X0.here hx rfl (hb hby d1_63) rfl k) ?_
  refine own_go (B := s₁.setTop (mkF m 66 #[.val (.int (9 : Int32))] [(.int (7 : Int32)), (.int (9 : Int32))])) (fun _ k => XT.bipushV X0.here hx rfl (7 : Int32) (hb hby d1_64) (by decide) k) ?_
  refine own_go (B := s₁.setTop (mkF m 73 #[.val (.int (9 : Int32))] [])) (fun _ k => XS.icmpYes X0.here hx rfl (pc0 := 66) (pc' := 73) rfl (hb hby d1_66) rfl (by decide) (by decide) (by decide) k) ?_
  refine own_go (B := s₁.setTop (mkF m 74 #[.val (.int (9 : Int32))] [(.int (9 : Int32))])) (fun _ k => XS.iloadN X0.here hx rfl (hb hby d1_73) rfl k) ?_
  refine own_go (B := s₁.setTop (mkF m 76 #[.val (.int (9 : Int32))] [(.int (8 : Int32)), (.int (9 : Int32))])) (fun _ k => XT.bipushV X0.here hx rfl (8 : Int32) (hb hby d1_74) (by decide) k) ?_
  refine own_go (B := s₁.setTop (mkF m 83 #[.val (.int (9 : Int32))] [])) (fun _ k => XS.icmpYes X0.here hx rfl (pc0 := 76) (pc' := 83) rfl (hb hby d1_76) rfl (by decide) (by decide) (by decide) k) ?_
  refine own_go (B := s₁.setTop (mkF m 84 #[.val (.int (9 : Int32))] [(.int (9 : Int32))])) (fun _ k => XS.iloadN X0.here hx rfl (hb hby d1_83) rfl k) ?_
  refine own_go (B := s₁.setTop (mkF m 86 #[.val (.int (9 : Int32))] [(.int (9 : Int32)), (.int (9 : Int32))])) (fun _ k => XT.bipushV X0.here hx rfl (9 : Int32) (hb hby d1_84) (by decide) k) ?_
  refine own_go (B := s₁.setTop (mkF m 89 #[.val (.int (9 : Int32))] [])) (fun _ k => XS.icmpNo X0.here hx rfl (hb hby d1_86) rfl (by decide) k) ?_
  obtain ⟨T1, X1, e1, st1⟩ := getS2 X0 hx hZ hown (host := "") (Or.inl (hw _ (List.mem_of_getElem? (i := 23) rfl))) Via.refl e0 (S_UNSUBSCRIBE.ext x0) (g := (mkF m 89 #[.val (.int (9 : Int32))] [])) rfl (hb hby d1_89)
  refine own_go (B := T1.setTop (mkF m 92 #[.val (.int (9 : Int32))] [(.ref (A 5))])) st1 ?_
  exact own_ret X1 hx (t := (.object "com/example/ferrybus/ferrybus/codec/PacketType")) hrt rfl (Or.inr (Or.inr (Or.inr (Or.inr ⟨rfl, rfl, rfl⟩)))) (hb hby d1_92) hlk ⟨rfl, N0, e1⟩ (by decide) (by decide)
set_option maxRecDepth 65536 in
set_option maxHeartbeats 40000000 in
theorem rm2_17 (l : Launch) (Z : State) (a0 : Array Value) (hw : ∀ d ∈ tables_1, d.before a0 Z = true) (ws : List Jvm.Cond) (fl : Int32) (A : Nat → Addr) (hW : own_W Z A) (h0 : Heap) (x0 : Ext Z.heap h0) (kq13 : (2 : Int32) = fl) :
    own_Met l Z (⟨"com/example/ferrybus/ferrybus/codec/PacketType", "allows", "(I)Z"⟩ : MethodName) prog_32_method_5_code 2 (some .boolean) ws ({ frames := 0, cells := 0, slots := 0, locals := 0 } : Room) #[(.ref (A 5)), (.int fl)] h0 (fun v_ h_ L_ => v_ = some (.int (1 : Int32)) ∧ Fr Z.heap.size L_ ∧ h_ = h0) := by
  refine own_body (plainFor_of_name pn_1) fun p e s m below meth c s₁ hx hby hml hown hnm hlk hrt hZ X0 e0 => ?_
  have N0 := Fr.nil Z.heap.size
  have hW' := hW
  obtain ⟨-, -, -, -, -, -, -, -, -, -, -, -, -, -, -, -, -, -, -, -, -, -, -, -, -, -, -, -, -, -, -, -, -, -, -, F_UNSUBSCRIBE_flags, -, -, -, -, -, -, -, -, -⟩ := hW'
  refine own_go (B := s₁.setTop (mkF m 0 #[.val (.ref (A 5)), .val (.int fl)] [])) (fun t k => castTop (ef_2 m (A 5) fl) k) ?_
  refine own_go (B := s₁.setTop (mkF m 1 #[.val (.ref (A 5)), .val (.int fl)] [(.ref (A 5))])) (fun _ k => XS.aloadN X0.here hx rfl (hb hby d2_0) rfl rfl k) ?_
  obtain ⟨T1, X1, e1, st1⟩ := getF X0 hx hZ hown (host := "") (Or.inl (hw _ (List.mem_of_getElem? (i := 13) rfl))) Via.refl e0 (F_UNSUBSCRIBE_flags.ext x0) (g := (mkF m 1 #[.val (.ref (A 5)), .val (.int fl)] [(.ref (A 5))])) rfl rfl (hb hby d2_1)
  refine own_go (B := T1.setTop (mkF m 4 #[.val (.ref (A 5)), .val (.int fl)] [(.int (2 : Int32))])) st1 ?_
  refine own_go (B := T1.setTop (mkF m 5 #[.val (.ref (A 5)), .val (.int fl)] [(.int (-1 : Int32)), (.int (2 : Int32))])) (fun _ k => XT.iconstV X1.here hx rfl (-1 : Int32) (hb hby d2_4) rfl k) ?_
  refine own_go (B := T1.setTop (mkF m 8 #[.val (.ref (A 5)), .val (.int fl)] [])) (fun _ k => XS.icmpNo X1.here hx rfl (hb hby d2_5) rfl (by decide) k) ?_
  refine own_go (B := T1.setTop (mkF m 9 #[.val (.ref (A 5)), .val (.int fl)] [(.ref (A 5))])) (fun _ k => XS.aloadN X1.here hx rfl (hb hby d2_8) rfl rfl k) ?_
  obtain ⟨T2, X2, e2, st2⟩ := getF X1 hx hZ hown (host := "") (Or.inl (hw _ (List.mem_of_getElem? (i := 13) rfl))) Via.refl e1 (F_UNSUBSCRIBE_flags.ext x0) (g := (mkF m 9 #[.val (.ref (A 5)), .val (.int fl)] [(.ref (A 5))])) rfl rfl (hb hby d2_9)
  refine own_go (B := T2.setTop (mkF m 12 #[.val (.ref (A 5)), .val (.int fl)] [(.int (2 : Int32))])) st2 ?_
  refine own_go (B := T2.setTop (mkF m 13 #[.val (.ref (A 5)), .val (.int fl)] [(.int fl), (.int (2 : Int32))])) (fun _ k => XS.iloadN X2.here hx rfl (hb hby d2_12) rfl k) ?_
  refine own_go (B := T2.setTop (mkF m 16 #[.val (.ref (A 5)), .val (.int fl)] [])) (fun _ k => XS.icmpNo X2.here hx rfl (hb hby d2_13) rfl (teq kq13).2 k) ?_
  refine own_go (B := T2.setTop (mkF m 17 #[.val (.ref (A 5)), .val (.int fl)] [(.int (1 : Int32))])) (fun _ k => XT.iconstV X2.here hx rfl (1 : Int32) (hb hby d2_16) rfl k) ?_
  refine own_go (B := T2.setTop (mkF m 21 #[.val (.ref (A 5)), .val (.int fl)] [(.int (1 : Int32))])) (fun _ k => XS.goto X2.here hx rfl (pc0 := 17) (pc' := 21) rfl (hb hby d2_17) (by decide) (by decide) k) ?_
  exact own_ret X2 hx (t := .boolean) hrt rfl (Or.inl ⟨rfl, by simp, _, rfl⟩) (hb hby d2_21) hlk ⟨rfl, N0, e2⟩ (by decide) (by decide)
set_option maxRecDepth 65536 in
set_option maxHeartbeats 40000000 in
theorem rm2_18 (l : Launch) (Z : State) (a0 : Array Value) (hw : ∀ d ∈ tables_1, d.before a0 Z = true) (ws : List Jvm.Cond) (fl : Int32) (A : Nat → Addr) (hW : own_W Z A) (h0 : Heap) (x0 : Ext Z.heap h0) (kq13 : ¬ (2 : Int32) = fl) :
    own_Met l Z (⟨"com/example/ferrybus/ferrybus/codec/PacketType", "allows", "(I)Z"⟩ : MethodName) prog_32_method_5_code 2 (some .boolean) ws ({ frames := 0, cells := 0, slots := 0, locals := 0 } : Room) #[(.ref (A 5)), (.int fl)] h0 (fun v_ h_ L_ => v_ = some (.int (0 : Int32)) ∧ Fr Z.heap.size L_ ∧ h_ = h0) := by
  refine own_body (plainFor_of_name pn_1) fun p e s m below meth c s₁ hx hby hml hown hnm hlk hrt hZ X0 e0 => ?_
  have N0 := Fr.nil Z.heap.size
  have hW' := hW
  obtain ⟨-, -, -, -, -, -, -, -, -, -, -, -, -, -, -, -, -, -, -, -, -, -, -, -, -, -, -, -, -, -, -, -, -, -, -, F_UNSUBSCRIBE_flags, -, -, -, -, -, -, -, -, -⟩ := hW'
  refine own_go (B := s₁.setTop (mkF m 0 #[.val (.ref (A 5)), .val (.int fl)] [])) (fun t k => castTop (ef_2 m (A 5) fl) k) ?_
  refine own_go (B := s₁.setTop (mkF m 1 #[.val (.ref (A 5)), .val (.int fl)] [(.ref (A 5))])) (fun _ k => XS.aloadN X0.here hx rfl (hb hby d2_0) rfl rfl k) ?_
  obtain ⟨T1, X1, e1, st1⟩ := getF X0 hx hZ hown (host := "") (Or.inl (hw _ (List.mem_of_getElem? (i := 13) rfl))) Via.refl e0 (F_UNSUBSCRIBE_flags.ext x0) (g := (mkF m 1 #[.val (.ref (A 5)), .val (.int fl)] [(.ref (A 5))])) rfl rfl (hb hby d2_1)
  refine own_go (B := T1.setTop (mkF m 4 #[.val (.ref (A 5)), .val (.int fl)] [(.int (2 : Int32))])) st1 ?_
  refine own_go (B := T1.setTop (mkF m 5 #[.val (.ref (A 5)), .val (.int fl)] [(.int (-1 : Int32)), (.int (2 : Int32))])) (fun _ k => XT.iconstV X1.here hx rfl (-1 : Int32) (hb hby d2_4) rfl k) ?_
  refine own_go (B := T1.setTop (mkF m 8 #[.val (.ref (A 5)), .val (.int fl)] [])) (fun _ k => XS.icmpNo X1.here hx rfl (hb hby d2_5) rfl (by decide) k) ?_
  refine own_go (B := T1.setTop (mkF m 9 #[.val (.ref (A 5)), .val (.int fl)] [(.ref (A 5))])) (fun _ k => XS.aloadN X1.here hx rfl (hb hby d2_8) rfl rfl k) ?_
  obtain ⟨T2, X2, e2, st2⟩ := getF X1 hx hZ hown (host := "") (Or.inl (hw _ (List.mem_of_getElem? (i := 13) rfl))) Via.refl e1 (F_UNSUBSCRIBE_flags.ext x0) (g := (mkF m 9 #[.val (.ref (A 5)), .val (.int fl)] [(.ref (A 5))])) rfl rfl (hb hby d2_9)
  refine own_go (B := T2.setTop (mkF m 12 #[.val (.ref (A 5)), .val (.int fl)] [(.int (2 : Int32))])) st2 ?_
  refine own_go (B := T2.setTop (mkF m 13 #[.val (.ref (A 5)), .val (.int fl)] [(.int fl), (.int (2 : Int32))])) (fun _ k => XS.iloadN X2.here hx rfl (hb hby d2_12) rfl k) ?_
  refine own_go (B := T2.setTop (mkF m 20 #[.val (.ref (A 5)), .val (.int fl)] [])) (fun _ k => XS.icmpYes X2.here hx rfl (pc0 := 13) (pc' := 20) rfl (hb hby d2_13) rfl (feq kq13).2 (by decide) (by decide) k) ?_
  refine own_go (B := T2.setTop (mkF m 21 #[.val (.ref (A 5)), .val (.int fl)] [(.int (0 : Int32))])) (fun _ k => XT.iconstV X2.here hx rfl (0 : Int32) (hb hby d2_20) rfl k) ?_
  exact own_ret X2 hx (t := .boolean) hrt rfl (Or.inl ⟨rfl, by simp, _, rfl⟩) (hb hby d2_21) hlk ⟨rfl, N0, e2⟩ (by decide) (by decide)
set_option maxRecDepth 65536 in
set_option maxHeartbeats 40000000 in
theorem rm1_10 (l : Launch) (Z : State) (a0 : Array Value) (hw : ∀ d ∈ tables_1, d.before a0 Z = true) (ws : List Jvm.Cond)  (A : Nat → Addr) (hW : own_W Z A) (h0 : Heap) (x0 : Ext Z.heap h0)  :
    own_Met l Z (⟨"com/example/ferrybus/ferrybus/codec/PacketTypeAllowsPinLaw", "pick", "(I)Lcom/example/ferrybus/ferrybus/codec/PacketType;"⟩ : MethodName) method_2_code 1 (some (.object "com/example/ferrybus/ferrybus/codec/PacketType")) ws ({ frames := 0, cells := 0, slots := 0, locals := 0 } : Room) #[(.int (10 : Int32))] h0 (fun v_ h_ L_ => v_ = some (.ref (A 6)) ∧ Fr Z.heap.size L_ ∧ h_ = h0) := by
  refine own_body (plainFor_of_name pn_0) fun p e s m below meth c s₁ hx hby hml hown hnm hlk hrt hZ X0 e0 => ?_
  have N0 := Fr.nil Z.heap.size
  have hW' := hW
  obtain ⟨-, -, -, -, -, -, -, -, -, -, -, -, S_UNSUBACK, -, -, -, -, -, -, -, -, -, -, -, -, -, -, -, -, -, -, -, -, -, -, -, -, -, -, -, -, -, -, -, -⟩ := hW'
  refine own_go (B := s₁.setTop (mkF m 0 #[.val (.int (10 : Int32))] [])) (fun t k => castTop (ef_1 m (10 : Int32)) k) ?_
  refine own_go (B := s₁.setTop (mkF m 1 #[.val (.int (10 : Int32))] [(.int (10 : Int32))])) (fun _ k => XS.iloadN X0.here hx rfl (hb hby d1_0) rfl k) ?_
  refine own_go (B := s₁.setTop (mkF m 8 #[.val (.int (10 : Int32))] [])) (fun _ k => XS.ifYes X0.here hx rfl (pc0 := 1) (pc' := 8) rfl (hb hby d1_1) rfl (by decide) (by decide) (by decide) k) ?_
  refine own_go (B := s₁.setTop (mkF m 9 #[.val (.int (10 : Int32))] [(.int (10 : Int32))])) (fun _ k => XS.iloadN X0.here hx rfl (hb hby d1_8) rfl k) ?_
  refine own_go (B := s₁.setTop (mkF m 10 #[.val (.int (10 : Int32))] [(.int (1 : Int32)), (.int (10 : Int32))])) (fun _ k => XT.iconstV X0.here hx rfl (1 : Int32) (hb hby d1_9) rfl k) ?_
  refine own_go (B := s₁.setTop (mkF m 17 #[.val (.int (10 : Int32))] [])) (fun _ k => XS.icmpYes X0.here hx rfl (pc0 := 10) (pc' := 17) rfl (hb hby d1_10) rfl (by decide) (by decide) (by decide) k) ?_
  refine own_go (B := s₁.setTop (mkF m 18 #[.val (.int (10 : Int32))] [(.int (10 : Int32))])) (fun _ k => XS.iloadN X0.here hx rfl (hb hby d1_17) rfl k) ?_
  refine own_go (B := s₁.setTop (mkF m 19 #[.val (.int (10 : Int32))] [(.int (2 : Int32)), (.int (10 : Int32))])) (fun _ k => XT.iconstV X0.here hx rfl (2 : Int32) (hb hby d1_18) rfl k) ?_
  refine own_go (B := s₁.setTop (mkF m 26 #[.val (.int (10 : Int32))] [])) (fun _ k => XS.icmpYes X0.here hx rfl (pc0 := 19) (pc' := 26) rfl (hb hby d1_19) rfl (by decide) (by decide) (by decide) k) ?_
  refine own_go (B := s₁.setTop (mkF m 27 #[.val (.int (10 : Int32))] [(.int (10 : Int32))])) (fun _ k => XS.iloadN X0.here hx rfl (hb hby d1_26) rfl k) ?_
  refine own_go (B := s₁.setTop (mkF m 28 #[.val (.int (10 : Int32))] [(.int (3 : Int32)), (.int (10 : Int32))])) (fun _ k => XT.iconstV X0.here hx rfl (3 : Int32) (hb hby d1_27) rfl k) ?_
  refine own_go (B := s₁.setTop (mkF m 35 #[.val (.int (10 : Int32))] [])) (fun _ k => XS.icmpYes X0.here hx rfl (pc0 := 28) (pc' := 35) rfl (hb hby d1_28) rfl (by decide) (by decide) (by decide) k) ?_
  refine own_go (B := s₁.setTop (mkF m 36 #[.val (.int (10 : Int32))] [(.int (10 : Int32))])) (fun _ k => XS.iloadN X0.here hx rfl (hb hby d1_35) rfl k) ?_
  refine own_go (B := s₁.setTop (mkF m 37 #[.val (.int (10 : Int32))] [(.int (4 : Int32)), (.int (10 : Int32))])) (fun _ k => XT.iconstV X0.here hx rfl (4 : Int32) (hb hby d1_36) rfl k) ?_
  refine own_go (B := s₁.setTop (mkF m 44 #[.val (.int (10 : Int32))] [])) (fun _ k => XS.icmpYes X0.here hx rfl (pc0 := 37) (pc' := 44) rfl (hb hby d1_37) rfl (by decide) (by decide) (by decide) k) ?_
  refine own_go (B := s₁.setTop (mkF m 45 #[.val (.int (10 : Int32))] [(.int (10 : Int32))])) (fun _ k => XS.iloadN X0.here hx rfl (hb hby d1_44) rfl k) ?_
  refine own_go (B := s₁.setTop (mkF m 46 #[.val (.int (10 : Int32))] [(.int (5 : Int32)), (.int (10 : Int32))])) (fun _ k => XT.iconstV X0.here hx rfl (5 : Int32) (hb hby d1_45) rfl k) ?_
  refine own_go (B := s₁.setTop (mkF m 53 #[.val (.int (10 : Int32))] [])) (fun _ k => XS.icmpYes X0.here hx rfl (pc0 := 46) (pc' := 53) rfl (hb hby d1_46) rfl (by decide) (by decide) (by decide) k) ?_
  refine own_go (B := s₁.setTop (mkF m 54 #[.val (.int (10 : Int32))] [(.int (10 : Int32))])) (fun _ k => XS.iloadN X0.here hx rfl (hb hby d1_53) rfl k) ?_
  refine own_go (B := s₁.setTop (mkF m 56 #[.val (.int (10 : Int32))] [(.int (6 : Int32)), (.int (10 : Int32))])) (fun _ k => XT.bipushV X0.here hx rfl (6 : Int32) (hb hby d1_54) (by decide) k) ?_
  refine own_go (B := s₁.setTop (mkF m 63 #[.val (.int (10 : Int32))] [])) (fun _ k => XS.icmpYes X0.here hx rfl (pc0 := 56) (pc' := 63) rfl (hb hby d1_56) rfl (by decide) (by decide) (by decide) k) ?_
  refine own_go (B := s₁.setTop (mkF m 64 #[.val (.int (10 : Int32))] [(.int (10 : Int32))])) (fun _ k => XS.iloadN X0.here hx rfl (hb hby d1_63) rfl k) ?_
  refine own_go (B := s₁.setTop (mkF m 66 #[.val (.int (10 : Int32))] [(.int (7 : Int32)), (.int (10 : Int32))])) (fun _ k => XT.bipushV X0.here hx rfl (7 : Int32) (hb hby d1_64) (by decide) k) ?_
  refine own_go (B := s₁.setTop (mkF m 73 #[.val (.int (10 : Int32))] [])) (fun _ k => XS.icmpYes X0.here hx rfl (pc0 := 66) (pc' := 73) rfl (hb hby d1_66) rfl (by decide) (by decide) (by decide) k) ?_
  refine own_go (B := s₁.setTop (mkF m 74 #[.val (.int (10 : Int32))] [(.int (10 : Int32))])) (fun _ k => XS.iloadN X0.here hx rfl (hb hby d1_73) rfl k) ?_
  refine own_go (B := s₁.setTop (mkF m 76 #[.val (.int (10 : Int32))] [(.int (8 : Int32)), (.int (10 : Int32))])) (fun _ k => XT.bipushV X0.here hx rfl (8 : Int32) (hb hby d1_74) (by decide) k) ?_
  refine own_go (B := s₁.setTop (mkF m 83 #[.val (.int (10 : Int32))] [])) (fun _ k => XS.icmpYes X0.here hx rfl (pc0 := 76) (pc' := 83) rfl (hb hby d1_76) rfl (by decide) (by decide) (by decide) k) ?_
  refine own_go (B := s₁.setTop (mkF m 84 #[.val (.int (10 : Int32))] [(.int (10 : Int32))])) (fun _ k => XS.iloadN X0.here hx rfl (hb hby d1_83) rfl k) ?_
  refine own_go (B := s₁.setTop (mkF m 86 #[.val (.int (10 : Int32))] [(.int (9 : Int32)), (.int (10 : Int32))])) (fun _ k => XT.bipushV X0.here hx rfl (9 : Int32) (hb hby d1_84) (by decide) k) ?_
  refine own_go (B := s₁.setTop (mkF m 93 #[.val (.int (10 : Int32))] [])) (fun _ k => XS.icmpYes X0.here hx rfl (pc0 := 86) (pc' := 93) rfl (hb hby d1_86) rfl (by decide) (by decide) (by decide) k) ?_
  refine own_go (B := s₁.setTop (mkF m 94 #[.val (.int (10 : Int32))] [(.int (10 : Int32))])) (fun _ k => XS.iloadN X0.here hx rfl (hb hby d1_93) rfl k) ?_
  refine own_go (B := s₁.setTop (mkF m 96 #[.val (.int (10 : Int32))] [(.int (10 : Int32)), (.int (10 : Int32))])) (fun _ k => XT.bipushV X0.here hx rfl (10 : Int32) (hb hby d1_94) (by decide) k) ?_
  refine own_go (B := s₁.setTop (mkF m 99 #[.val (.int (10 : Int32))] [])) (fun _ k => XS.icmpNo X0.here hx rfl (hb hby d1_96) rfl (by decide) k) ?_
  obtain ⟨T1, X1, e1, st1⟩ := getS2 X0 hx hZ hown (host := "") (Or.inl (hw _ (List.mem_of_getElem? (i := 25) rfl))) Via.refl e0 (S_UNSUBACK.ext x0) (g := (mkF m 99 #[.val (.int (10 : Int32))] [])) rfl (hb hby d1_99)
  refine own_go (B := T1.setTop (mkF m 102 #[.val (.int (10 : Int32))] [(.ref (A 6))])) st1 ?_
  exact own_ret X1 hx (t := (.object "com/example/ferrybus/ferrybus/codec/PacketType")) hrt rfl (Or.inr (Or.inr (Or.inr (Or.inr ⟨rfl, rfl, rfl⟩)))) (hb hby d1_102) hlk ⟨rfl, N0, e1⟩ (by decide) (by decide)
set_option maxRecDepth 65536 in
set_option maxHeartbeats 40000000 in
theorem rm2_19 (l : Launch) (Z : State) (a0 : Array Value) (hw : ∀ d ∈ tables_1, d.before a0 Z = true) (ws : List Jvm.Cond) (fl : Int32) (A : Nat → Addr) (hW : own_W Z A) (h0 : Heap) (x0 : Ext Z.heap h0) (kq13 : (0 : Int32) = fl) :
    own_Met l Z (⟨"com/example/ferrybus/ferrybus/codec/PacketType", "allows", "(I)Z"⟩ : MethodName) prog_32_method_5_code 2 (some .boolean) ws ({ frames := 0, cells := 0, slots := 0, locals := 0 } : Room) #[(.ref (A 6)), (.int fl)] h0 (fun v_ h_ L_ => v_ = some (.int (1 : Int32)) ∧ Fr Z.heap.size L_ ∧ h_ = h0) := by
  refine own_body (plainFor_of_name pn_1) fun p e s m below meth c s₁ hx hby hml hown hnm hlk hrt hZ X0 e0 => ?_
  have N0 := Fr.nil Z.heap.size
  have hW' := hW
  obtain ⟨-, -, -, -, -, -, -, -, -, -, -, -, -, -, -, -, -, -, -, -, -, -, -, -, -, -, -, -, -, -, -, -, -, -, -, -, F_UNSUBACK_flags, -, -, -, -, -, -, -, -⟩ := hW'
  refine own_go (B := s₁.setTop (mkF m 0 #[.val (.ref (A 6)), .val (.int fl)] [])) (fun t k => castTop (ef_2 m (A 6) fl) k) ?_
  refine own_go (B := s₁.setTop (mkF m 1 #[.val (.ref (A 6)), .val (.int fl)] [(.ref (A 6))])) (fun _ k => XS.aloadN X0.here hx rfl (hb hby d2_0) rfl rfl k) ?_
  obtain ⟨T1, X1, e1, st1⟩ := getF X0 hx hZ hown (host := "") (Or.inl (hw _ (List.mem_of_getElem? (i := 13) rfl))) Via.refl e0 (F_UNSUBACK_flags.ext x0) (g := (mkF m 1 #[.val (.ref (A 6)), .val (.int fl)] [(.ref (A 6))])) rfl rfl (hb hby d2_1)
  refine own_go (B := T1.setTop (mkF m 4 #[.val (.ref (A 6)), .val (.int fl)] [(.int (0 : Int32))])) st1 ?_
  refine own_go (B := T1.setTop (mkF m 5 #[.val (.ref (A 6)), .val (.int fl)] [(.int (-1 : Int32)), (.int (0 : Int32))])) (fun _ k => XT.iconstV X1.here hx rfl (-1 : Int32) (hb hby d2_4) rfl k) ?_
  refine own_go (B := T1.setTop (mkF m 8 #[.val (.ref (A 6)), .val (.int fl)] [])) (fun _ k => XS.icmpNo X1.here hx rfl (hb hby d2_5) rfl (by decide) k) ?_
  refine own_go (B := T1.setTop (mkF m 9 #[.val (.ref (A 6)), .val (.int fl)] [(.ref (A 6))])) (fun _ k => XS.aloadN X1.here hx rfl (hb hby d2_8) rfl rfl k) ?_
  obtain ⟨T2, X2, e2, st2⟩ := getF X1 hx hZ hown (host := "") (Or.inl (hw _ (List.mem_of_getElem? (i := 13) rfl))) Via.refl e1 (F_UNSUBACK_flags.ext x0) (g := (mkF m 9 #[.val (.ref (A 6)), .val (.int fl)] [(.ref (A 6))])) rfl rfl (hb hby d2_9)
  refine own_go (B := T2.setTop (mkF m 12 #[.val (.ref (A 6)), .val (.int fl)] [(.int (0 : Int32))])) st2 ?_
  refine own_go (B := T2.setTop (mkF m 13 #[.val (.ref (A 6)), .val (.int fl)] [(.int fl), (.int (0 : Int32))])) (fun _ k => XS.iloadN X2.here hx rfl (hb hby d2_12) rfl k) ?_
  refine own_go (B := T2.setTop (mkF m 16 #[.val (.ref (A 6)), .val (.int fl)] [])) (fun _ k => XS.icmpNo X2.here hx rfl (hb hby d2_13) rfl (teq kq13).2 k) ?_
  refine own_go (B := T2.setTop (mkF m 17 #[.val (.ref (A 6)), .val (.int fl)] [(.int (1 : Int32))])) (fun _ k => XT.iconstV X2.here hx rfl (1 : Int32) (hb hby d2_16) rfl k) ?_
  refine own_go (B := T2.setTop (mkF m 21 #[.val (.ref (A 6)), .val (.int fl)] [(.int (1 : Int32))])) (fun _ k => XS.goto X2.here hx rfl (pc0 := 17) (pc' := 21) rfl (hb hby d2_17) (by decide) (by decide) k) ?_
  exact own_ret X2 hx (t := .boolean) hrt rfl (Or.inl ⟨rfl, by simp, _, rfl⟩) (hb hby d2_21) hlk ⟨rfl, N0, e2⟩ (by decide) (by decide)
set_option maxRecDepth 65536 in
set_option maxHeartbeats 40000000 in
theorem rm2_20 (l : Launch) (Z : State) (a0 : Array Value) (hw : ∀ d ∈ tables_1, d.before a0 Z = true) (ws : List Jvm.Cond) (fl : Int32) (A : Nat → Addr) (hW : own_W Z A) (h0 : Heap) (x0 : Ext Z.heap h0) (kq13 : ¬ (0 : Int32) = fl) :
    own_Met l Z (⟨"com/example/ferrybus/ferrybus/codec/PacketType", "allows", "(I)Z"⟩ : MethodName) prog_32_method_5_code 2 (some .boolean) ws ({ frames := 0, cells := 0, slots := 0, locals := 0 } : Room) #[(.ref (A 6)), (.int fl)] h0 (fun v_ h_ L_ => v_ = some (.int (0 : Int32)) ∧ Fr Z.heap.size L_ ∧ h_ = h0) := by
  refine own_body (plainFor_of_name pn_1) fun p e s m below meth c s₁ hx hby hml hown hnm hlk hrt hZ X0 e0 => ?_
  have N0 := Fr.nil Z.heap.size
  have hW' := hW
  obtain ⟨-, -, -, -, -, -, -, -, -, -, -, -, -, -, -, -, -, -, -, -, -, -, -, -, -, -, -, -, -, -, -, -, -, -, -, -, F_UNSUBACK_flags, -, -, -, -, -, -, -, -⟩ := hW'
  refine own_go (B := s₁.setTop (mkF m 0 #[.val (.ref (A 6)), .val (.int fl)] [])) (fun t k => castTop (ef_2 m (A 6) fl) k) ?_
  refine own_go (B := s₁.setTop (mkF m 1 #[.val (.ref (A 6)), .val (.int fl)] [(.ref (A 6))])) (fun _ k => XS.aloadN X0.here hx rfl (hb hby d2_0) rfl rfl k) ?_
  obtain ⟨T1, X1, e1, st1⟩ := getF X0 hx hZ hown (host := "") (Or.inl (hw _ (List.mem_of_getElem? (i := 13) rfl))) Via.refl e0 (F_UNSUBACK_flags.ext x0) (g := (mkF m 1 #[.val (.ref (A 6)), .val (.int fl)] [(.ref (A 6))])) rfl rfl (hb hby d2_1)
  refine own_go (B := T1.setTop (mkF m 4 #[.val (.ref (A 6)), .val (.int fl)] [(.int (0 : Int32))])) st1 ?_
  refine own_go (B := T1.setTop (mkF m 5 #[.val (.ref (A 6)), .val (.int fl)] [(.int (-1 : Int32)), (.int (0 : Int32))])) (fun _ k => XT.iconstV X1.here hx rfl (-1 : Int32) (hb hby d2_4) rfl k) ?_
  refine own_go (B := T1.setTop (mkF m 8 #[.val (.ref (A 6)), .val (.int fl)] [])) (fun _ k => XS.icmpNo X1.here hx rfl (hb hby d2_5) rfl (by decide) k) ?_
  refine own_go (B := T1.setTop (mkF m 9 #[.val (.ref (A 6)), .val (.int fl)] [(.ref (A 6))])) (fun _ k => XS.aloadN X1.here hx rfl (hb hby d2_8) rfl rfl k) ?_
  obtain ⟨T2, X2, e2, st2⟩ := getF X1 hx hZ hown (host := "") (Or.inl (hw _ (List.mem_of_getElem? (i := 13) rfl))) Via.refl e1 (F_UNSUBACK_flags.ext x0) (g := (mkF m 9 #[.val (.ref (A 6)), .val (.int fl)] [(.ref (A 6))])) rfl rfl (hb hby d2_9)
  refine own_go (B := T2.setTop (mkF m 12 #[.val (.ref (A 6)), .val (.int fl)] [(.int (0 : Int32))])) st2 ?_
  refine own_go (B := T2.setTop (mkF m 13 #[.val (.ref (A 6)), .val (.int fl)] [(.int fl), (.int (0 : Int32))])) (fun _ k => XS.iloadN X2.here hx rfl (hb hby d2_12) rfl k) ?_
  refine own_go (B := T2.setTop (mkF m 20 #[.val (.ref (A 6)), .val (.int fl)] [])) (fun _ k => XS.icmpYes X2.here hx rfl (pc0 := 13) (pc' := 20) rfl (hb hby d2_13) rfl (feq kq13).2 (by decide) (by decide) k) ?_
  refine own_go (B := T2.setTop (mkF m 21 #[.val (.ref (A 6)), .val (.int fl)] [(.int (0 : Int32))])) (fun _ k => XT.iconstV X2.here hx rfl (0 : Int32) (hb hby d2_20) rfl k) ?_
  exact own_ret X2 hx (t := .boolean) hrt rfl (Or.inl ⟨rfl, by simp, _, rfl⟩) (hb hby d2_21) hlk ⟨rfl, N0, e2⟩ (by decide) (by decide)
set_option maxRecDepth 65536 in
set_option maxHeartbeats 40000000 in
theorem rm1_11 (l : Launch) (Z : State) (a0 : Array Value) (hw : ∀ d ∈ tables_1, d.before a0 Z = true) (ws : List Jvm.Cond)  (A : Nat → Addr) (hW : own_W Z A) (h0 : Heap) (x0 : Ext Z.heap h0)  :
    own_Met l Z (⟨"com/example/ferrybus/ferrybus/codec/PacketTypeAllowsPinLaw", "pick", "(I)Lcom/example/ferrybus/ferrybus/codec/PacketType;"⟩ : MethodName) method_2_code 1 (some (.object "com/example/ferrybus/ferrybus/codec/PacketType")) ws ({ frames := 0, cells := 0, slots := 0, locals := 0 } : Room) #[(.int (11 : Int32))] h0 (fun v_ h_ L_ => v_ = some (.ref (A 8)) ∧ Fr Z.heap.size L_ ∧ h_ = h0) := by
  refine own_body (plainFor_of_name pn_0) fun p e s m below meth c s₁ hx hby hml hown hnm hlk hrt hZ X0 e0 => ?_
  have N0 := Fr.nil Z.heap.size
  have hW' := hW
  obtain ⟨-, -, -, -, -, -, -, -, -, -, -, -, -, -, -, -, S_PINGREQ, -, -, -, -, -, -, -, -, -, -, -, -, -, -, -, -, -, -, -, -, -, -, -, -, -, -, -, -⟩ := hW'
  refine own_go (B := s₁.setTop (mkF m 0 #[.val (.int (11 : Int32))] [])) (fun t k => castTop (ef_1 m (11 : Int32)) k) ?_
  refine own_go (B := s₁.setTop (mkF m 1 #[.val (.int (11 : Int32))] [(.int (11 : Int32))])) (fun _ k => XS.iloadN X0.here hx rfl (hb hby d1_0) rfl k) ?_
  refine own_go (B := s₁.setTop (mkF m 8 #[.val (.int (11 : Int32))] [])) (fun _ k => XS.ifYes X0.here hx rfl (pc0 := 1) (pc' := 8) rfl (hb hby d1_1) rfl (by decide) (by decide) (by decide) k) ?_
  refine own_go (B := s₁.setTop (mkF m 9 #[.val (.int (11 : Int32))] [(.int (11 : Int32))])) (fun _ k => XS.iloadN X0.here hx rfl (hb hby d1_8) rfl k) ?_
  refine own_go (B := s₁.setTop (mkF m 10 #[.val (.int (11 : Int32))] [(.int (1 : Int32)), (.int (11 : Int32))])) (fun _ k => XT.iconstV X0.here hx rfl (1 : Int32) (hb hby d1_9) rfl k) ?_
  refine own_go (B := s₁.setTop (mkF m 17 #[.val (.int (11 : Int32))] [])) (fun _ k => XS.icmpYes X0.here hx rfl (pc0 := 10) (pc' := 17) rfl (hb hby d1_10) rfl (by decide) (by decide) (by decide) k) ?_
  refine own_go (B := s₁.setTop (mkF m 18 #[.val (.int (11 : Int32))] [(.int (11 : Int32))])) (fun _ k => XS.iloadN X0.here hx rfl (hb hby d1_17) rfl k) ?_
  refine own_go (B := s₁.setTop (mkF m 19 #[.val (.int (11 : Int32))] [(.int (2 : Int32)), (.int (11 : Int32))])) (fun _ k => XT.iconstV X0.here hx rfl (2 : Int32) (hb hby d1_18) rfl k) ?_
  refine own_go (B := s₁.setTop (mkF m 26 #[.val (.int (11 : Int32))] [])) (fun _ k => XS.icmpYes X0.here hx rfl (pc0 := 19) (pc' := 26) rfl (hb hby d1_19) rfl (by decide) (by decide) (by decide) k) ?_
  refine own_go (B := s₁.setTop (mkF m 27 #[.val (.int (11 : Int32))] [(.int (11 : Int32))])) (fun _ k => XS.iloadN X0.here hx rfl (hb hby d1_26) rfl k) ?_
  refine own_go (B := s₁.setTop (mkF m 28 #[.val (.int (11 : Int32))] [(.int (3 : Int32)), (.int (11 : Int32))])) (fun _ k => XT.iconstV X0.here hx rfl (3 : Int32) (hb hby d1_27) rfl k) ?_
  refine own_go (B := s₁.setTop (mkF m 35 #[.val (.int (11 : Int32))] [])) (fun _ k => XS.icmpYes X0.here hx rfl (pc0 := 28) (pc' := 35) rfl (hb hby d1_28) rfl (by decide) (by decide) (by decide) k) ?_
  refine own_go (B := s₁.setTop (mkF m 36 #[.val (.int (11 : Int32))] [(.int (11 : Int32))])) (fun _ k => XS.iloadN X0.here hx rfl (hb hby d1_35) rfl k) ?_
  refine own_go (B := s₁.setTop (mkF m 37 #[.val (.int (11 : Int32))] [(.int (4 : Int32)), (.int (11 : Int32))])) (fun _ k => XT.iconstV X0.here hx rfl (4 : Int32) (hb hby d1_36) rfl k) ?_
  refine own_go (B := s₁.setTop (mkF m 44 #[.val (.int (11 : Int32))] [])) (fun _ k => XS.icmpYes X0.here hx rfl (pc0 := 37) (pc' := 44) rfl (hb hby d1_37) rfl (by decide) (by decide) (by decide) k) ?_
  refine own_go (B := s₁.setTop (mkF m 45 #[.val (.int (11 : Int32))] [(.int (11 : Int32))])) (fun _ k => XS.iloadN X0.here hx rfl (hb hby d1_44) rfl k) ?_
  refine own_go (B := s₁.setTop (mkF m 46 #[.val (.int (11 : Int32))] [(.int (5 : Int32)), (.int (11 : Int32))])) (fun _ k => XT.iconstV X0.here hx rfl (5 : Int32) (hb hby d1_45) rfl k) ?_
  refine own_go (B := s₁.setTop (mkF m 53 #[.val (.int (11 : Int32))] [])) (fun _ k => XS.icmpYes X0.here hx rfl (pc0 := 46) (pc' := 53) rfl (hb hby d1_46) rfl (by decide) (by decide) (by decide) k) ?_
  refine own_go (B := s₁.setTop (mkF m 54 #[.val (.int (11 : Int32))] [(.int (11 : Int32))])) (fun _ k => XS.iloadN X0.here hx rfl (hb hby d1_53) rfl k) ?_
  refine own_go (B := s₁.setTop (mkF m 56 #[.val (.int (11 : Int32))] [(.int (6 : Int32)), (.int (11 : Int32))])) (fun _ k => XT.bipushV X0.here hx rfl (6 : Int32) (hb hby d1_54) (by decide) k) ?_
  refine own_go (B := s₁.setTop (mkF m 63 #[.val (.int (11 : Int32))] [])) (fun _ k => XS.icmpYes X0.here hx rfl (pc0 := 56) (pc' := 63) rfl (hb hby d1_56) rfl (by decide) (by decide) (by decide) k) ?_
  refine own_go (B := s₁.setTop (mkF m 64 #[.val (.int (11 : Int32))] [(.int (11 : Int32))])) (fun _ k => XS.iloadN X0.here hx rfl (hb hby d1_63) rfl k) ?_
  refine own_go (B := s₁.setTop (mkF m 66 #[.val (.int (11 : Int32))] [(.int (7 : Int32)), (.int (11 : Int32))])) (fun _ k => XT.bipushV X0.here hx rfl (7 : Int32) (hb hby d1_64) (by decide) k) ?_
  refine own_go (B := s₁.setTop (mkF m 73 #[.val (.int (11 : Int32))] [])) (fun _ k => XS.icmpYes X0.here hx rfl (pc0 := 66) (pc' := 73) rfl (hb hby d1_66) rfl (by decide) (by decide) (by decide) k) ?_
  refine own_go (B := s₁.setTop (mkF m 74 #[.val (.int (11 : Int32))] [(.int (11 : Int32))])) (fun _ k => XS.iloadN X0.here hx rfl (hb hby d1_73) rfl k) ?_
  refine own_go (B := s₁.setTop (mkF m 76 #[.val (.int (11 : Int32))] [(.int (8 : Int32)), (.int (11 : Int32))])) (fun _ k => XT.bipushV X0.here hx rfl (8 : Int32) (hb hby d1_74) (by decide) k) ?_
  refine own_go (B := s₁.setTop (mkF m 83 #[.val (.int (11 : Int32))] [])) (fun _ k => XS.icmpYes X0.here hx rfl (pc0 := 76) (pc' := 83) rfl (hb hby d1_76) rfl (by decide) (by decide) (by decide) k) ?_
  refine own_go (B := s₁.setTop (mkF m 84 #[.val (.int (11 : Int32))] [(.int (11 : Int32))])) (fun _ k => XS.iloadN X0.here hx rfl (hb hby d1_83) rfl k) ?_
  refine own_go (B := s₁.setTop (mkF m 86 #[.val (.int (11 : Int32))] [(.int (9 : Int32)), (.int (11 : Int32))])) (fun _ k => XT.bipushV X0.here hx rfl (9 : Int32) (hb hby d1_84) (by decide) k) ?_
  refine own_go (B := s₁.setTop (mkF m 93 #[.val (.int (11 : Int32))] [])) (fun _ k => XS.icmpYes X0.here hx rfl (pc0 := 86) (pc' := 93) rfl (hb hby d1_86) rfl (by decide) (by decide) (by decide) k) ?_
  refine own_go (B := s₁.setTop (mkF m 94 #[.val (.int (11 : Int32))] [(.int (11 : Int32))])) (fun _ k => XS.iloadN X0.here hx rfl (hb hby d1_93) rfl k) ?_
  refine own_go (B := s₁.setTop (mkF m 96 #[.val (.int (11 : Int32))] [(.int (10 : Int32)), (.int (11 : Int32))])) (fun _ k => XT.bipushV X0.here hx rfl (10 : Int32) (hb hby d1_94) (by decide) k) ?_
  refine own_go (B := s₁.setTop (mkF m 103 #[.val (.int (11 : Int32))] [])) (fun _ k => XS.icmpYes X0.here hx rfl (pc0 := 96) (pc' := 103) rfl (hb hby d1_96) rfl (by decide) (by decide) (by decide) k) ?_
  refine own_go (B := s₁.setTop (mkF m 104 #[.val (.int (11 : Int32))] [(.int (11 : Int32))])) (fun _ k => XS.iloadN X0.here hx rfl (hb hby d1_103) rfl k) ?_
  refine own_go (B := s₁.setTop (mkF m 106 #[.val (.int (11 : Int32))] [(.int (11 : Int32)), (.int (11 : Int32))])) (fun _ k => XT.bipushV X0.here hx rfl (11 : Int32) (hb hby d1_104) (by decide) k) ?_
  refine own_go (B := s₁.setTop (mkF m 109 #[.val (.int (11 : Int32))] [])) (fun _ k => XS.icmpNo X0.here hx rfl (hb hby d1_106) rfl (by decide) k) ?_
  obtain ⟨T1, X1, e1, st1⟩ := getS2 X0 hx hZ hown (host := "") (Or.inl (hw _ (List.mem_of_getElem? (i := 29) rfl))) Via.refl e0 (S_PINGREQ.ext x0) (g := (mkF m 109 #[.val (.int (11 : Int32))] [])) rfl (hb hby d1_109)
  refine own_go (B := T1.setTop (mkF m 112 #[.val (.int (11 : Int32))] [(.ref (A 8))])) st1 ?_
  exact own_ret X1 hx (t := (.object "com/example/ferrybus/ferrybus/codec/PacketType")) hrt rfl (Or.inr (Or.inr (Or.inr (Or.inr ⟨rfl, rfl, rfl⟩)))) (hb hby d1_112) hlk ⟨rfl, N0, e1⟩ (by decide) (by decide)
set_option maxRecDepth 65536 in
set_option maxHeartbeats 40000000 in
theorem rm2_21 (l : Launch) (Z : State) (a0 : Array Value) (hw : ∀ d ∈ tables_1, d.before a0 Z = true) (ws : List Jvm.Cond) (fl : Int32) (A : Nat → Addr) (hW : own_W Z A) (h0 : Heap) (x0 : Ext Z.heap h0) (kq13 : (0 : Int32) = fl) :
    own_Met l Z (⟨"com/example/ferrybus/ferrybus/codec/PacketType", "allows", "(I)Z"⟩ : MethodName) prog_32_method_5_code 2 (some .boolean) ws ({ frames := 0, cells := 0, slots := 0, locals := 0 } : Room) #[(.ref (A 8)), (.int fl)] h0 (fun v_ h_ L_ => v_ = some (.int (1 : Int32)) ∧ Fr Z.heap.size L_ ∧ h_ = h0) := by
  refine own_body (plainFor_of_name pn_1) fun p e s m below meth c s₁ hx hby hml hown hnm hlk hrt hZ X0 e0 => ?_
  have N0 := Fr.nil Z.heap.size
  have hW' := hW
  obtain ⟨-, -, -, -, -, -, -, -, -, -, -, -, -, -, -, -, -, -, -, -, -, -, -, -, -, -, -, -, -, -, -, -, -, -, -, -, -, -, F_PINGREQ_flags, -, -, -, -, -, -⟩ := hW'
  refine own_go (B := s₁.setTop (mkF m 0 #[.val (.ref (A 8)), .val (.int fl)] [])) (fun t k => castTop (ef_2 m (A 8) fl) k) ?_
  refine own_go (B := s₁.setTop (mkF m 1 #[.val (.ref (A 8)), .val (.int fl)] [(.ref (A 8))])) (fun _ k => XS.aloadN X0.here hx rfl (hb hby d2_0) rfl rfl k) ?_
  obtain ⟨T1, X1, e1, st1⟩ := getF X0 hx hZ hown (host := "") (Or.inl (hw _ (List.mem_of_getElem? (i := 13) rfl))) Via.refl e0 (F_PINGREQ_flags.ext x0) (g := (mkF m 1 #[.val (.ref (A 8)), .val (.int fl)] [(.ref (A 8))])) rfl rfl (hb hby d2_1)
  refine own_go (B := T1.setTop (mkF m 4 #[.val (.ref (A 8)), .val (.int fl)] [(.int (0 : Int32))])) st1 ?_
  refine own_go (B := T1.setTop (mkF m 5 #[.val (.ref (A 8)), .val (.int fl)] [(.int (-1 : Int32)), (.int (0 : Int32))])) (fun _ k => XT.iconstV X1.here hx rfl (-1 : Int32) (hb hby d2_4) rfl k) ?_
  refine own_go (B := T1.setTop (mkF m 8 #[.val (.ref (A 8)), .val (.int fl)] [])) (fun _ k => XS.icmpNo X1.here hx rfl (hb hby d2_5) rfl (by decide) k) ?_
  refine own_go (B := T1.setTop (mkF m 9 #[.val (.ref (A 8)), .val (.int fl)] [(.ref (A 8))])) (fun _ k => XS.aloadN X1.here hx rfl (hb hby d2_8) rfl rfl k) ?_
  obtain ⟨T2, X2, e2, st2⟩ := getF X1 hx hZ hown (host := "") (Or.inl (hw _ (List.mem_of_getElem? (i := 13) rfl))) Via.refl e1 (F_PINGREQ_flags.ext x0) (g := (mkF m 9 #[.val (.ref (A 8)), .val (.int fl)] [(.ref (A 8))])) rfl rfl (hb hby d2_9)
  refine own_go (B := T2.setTop (mkF m 12 #[.val (.ref (A 8)), .val (.int fl)] [(.int (0 : Int32))])) st2 ?_
  refine own_go (B := T2.setTop (mkF m 13 #[.val (.ref (A 8)), .val (.int fl)] [(.int fl), (.int (0 : Int32))])) (fun _ k => XS.iloadN X2.here hx rfl (hb hby d2_12) rfl k) ?_
  refine own_go (B := T2.setTop (mkF m 16 #[.val (.ref (A 8)), .val (.int fl)] [])) (fun _ k => XS.icmpNo X2.here hx rfl (hb hby d2_13) rfl (teq kq13).2 k) ?_
  refine own_go (B := T2.setTop (mkF m 17 #[.val (.ref (A 8)), .val (.int fl)] [(.int (1 : Int32))])) (fun _ k => XT.iconstV X2.here hx rfl (1 : Int32) (hb hby d2_16) rfl k) ?_
  refine own_go (B := T2.setTop (mkF m 21 #[.val (.ref (A 8)), .val (.int fl)] [(.int (1 : Int32))])) (fun _ k => XS.goto X2.here hx rfl (pc0 := 17) (pc' := 21) rfl (hb hby d2_17) (by decide) (by decide) k) ?_
  exact own_ret X2 hx (t := .boolean) hrt rfl (Or.inl ⟨rfl, by simp, _, rfl⟩) (hb hby d2_21) hlk ⟨rfl, N0, e2⟩ (by decide) (by decide)
set_option maxRecDepth 65536 in
set_option maxHeartbeats 40000000 in
theorem rm2_22 (l : Launch) (Z : State) (a0 : Array Value) (hw : ∀ d ∈ tables_1, d.before a0 Z = true) (ws : List Jvm.Cond) (fl : Int32) (A : Nat → Addr) (hW : own_W Z A) (h0 : Heap) (x0 : Ext Z.heap h0) (kq13 : ¬ (0 : Int32) = fl) :
    own_Met l Z (⟨"com/example/ferrybus/ferrybus/codec/PacketType", "allows", "(I)Z"⟩ : MethodName) prog_32_method_5_code 2 (some .boolean) ws ({ frames := 0, cells := 0, slots := 0, locals := 0 } : Room) #[(.ref (A 8)), (.int fl)] h0 (fun v_ h_ L_ => v_ = some (.int (0 : Int32)) ∧ Fr Z.heap.size L_ ∧ h_ = h0) := by
  refine own_body (plainFor_of_name pn_1) fun p e s m below meth c s₁ hx hby hml hown hnm hlk hrt hZ X0 e0 => ?_
  have N0 := Fr.nil Z.heap.size
  have hW' := hW
  obtain ⟨-, -, -, -, -, -, -, -, -, -, -, -, -, -, -, -, -, -, -, -, -, -, -, -, -, -, -, -, -, -, -, -, -, -, -, -, -, -, F_PINGREQ_flags, -, -, -, -, -, -⟩ := hW'
  refine own_go (B := s₁.setTop (mkF m 0 #[.val (.ref (A 8)), .val (.int fl)] [])) (fun t k => castTop (ef_2 m (A 8) fl) k) ?_
  refine own_go (B := s₁.setTop (mkF m 1 #[.val (.ref (A 8)), .val (.int fl)] [(.ref (A 8))])) (fun _ k => XS.aloadN X0.here hx rfl (hb hby d2_0) rfl rfl k) ?_
  obtain ⟨T1, X1, e1, st1⟩ := getF X0 hx hZ hown (host := "") (Or.inl (hw _ (List.mem_of_getElem? (i := 13) rfl))) Via.refl e0 (F_PINGREQ_flags.ext x0) (g := (mkF m 1 #[.val (.ref (A 8)), .val (.int fl)] [(.ref (A 8))])) rfl rfl (hb hby d2_1)
  refine own_go (B := T1.setTop (mkF m 4 #[.val (.ref (A 8)), .val (.int fl)] [(.int (0 : Int32))])) st1 ?_
  refine own_go (B := T1.setTop (mkF m 5 #[.val (.ref (A 8)), .val (.int fl)] [(.int (-1 : Int32)), (.int (0 : Int32))])) (fun _ k => XT.iconstV X1.here hx rfl (-1 : Int32) (hb hby d2_4) rfl k) ?_
  refine own_go (B := T1.setTop (mkF m 8 #[.val (.ref (A 8)), .val (.int fl)] [])) (fun _ k => XS.icmpNo X1.here hx rfl (hb hby d2_5) rfl (by decide) k) ?_
  refine own_go (B := T1.setTop (mkF m 9 #[.val (.ref (A 8)), .val (.int fl)] [(.ref (A 8))])) (fun _ k => XS.aloadN X1.here hx rfl (hb hby d2_8) rfl rfl k) ?_
  obtain ⟨T2, X2, e2, st2⟩ := getF X1 hx hZ hown (host := "") (Or.inl (hw _ (List.mem_of_getElem? (i := 13) rfl))) Via.refl e1 (F_PINGREQ_flags.ext x0) (g := (mkF m 9 #[.val (.ref (A 8)), .val (.int fl)] [(.ref (A 8))])) rfl rfl (hb hby d2_9)
  refine own_go (B := T2.setTop (mkF m 12 #[.val (.ref (A 8)), .val (.int fl)] [(.int (0 : Int32))])) st2 ?_
  refine own_go (B := T2.setTop (mkF m 13 #[.val (.ref (A 8)), .val (.int fl)] [(.int fl), (.int (0 : Int32))])) (fun _ k => XS.iloadN X2.here hx rfl (hb hby d2_12) rfl k) ?_
  refine own_go (B := T2.setTop (mkF m 20 #[.val (.ref (A 8)), .val (.int fl)] [])) (fun _ k => XS.icmpYes X2.here hx rfl (pc0 := 13) (pc' := 20) rfl (hb hby d2_13) rfl (feq kq13).2 (by decide) (by decide) k) ?_
  refine own_go (B := T2.setTop (mkF m 21 #[.val (.ref (A 8)), .val (.int fl)] [(.int (0 : Int32))])) (fun _ k => XT.iconstV X2.here hx rfl (0 : Int32) (hb hby d2_20) rfl k) ?_
  exact own_ret X2 hx (t := .boolean) hrt rfl (Or.inl ⟨rfl, by simp, _, rfl⟩) (hb hby d2_21) hlk ⟨rfl, N0, e2⟩ (by decide) (by decide)
set_option maxRecDepth 65536 in
set_option maxHeartbeats 40000000 in
theorem rm1_12 (l : Launch) (Z : State) (a0 : Array Value) (hw : ∀ d ∈ tables_1, d.before a0 Z = true) (ws : List Jvm.Cond)  (A : Nat → Addr) (hW : own_W Z A) (h0 : Heap) (x0 : Ext Z.heap h0)  :
    own_Met l Z (⟨"com/example/ferrybus/ferrybus/codec/PacketTypeAllowsPinLaw", "pick", "(I)Lcom/example/ferrybus/ferrybus/codec/PacketType;"⟩ : MethodName) method_2_code 1 (some (.object "com/example/ferrybus/ferrybus/codec/PacketType")) ws ({ frames := 0, cells := 0, slots := 0, locals := 0 } : Room) #[(.int (12 : Int32))] h0 (fun v_ h_ L_ => v_ = some (.ref (A 14)) ∧ Fr Z.heap.size L_ ∧ h_ = h0) := by
  refine own_body (plainFor_of_name pn_0) fun p e s m below meth c s₁ hx hby hml hown hnm hlk hrt hZ X0 e0 => ?_
  have N0 := Fr.nil Z.heap.size
  have hW' := hW
  obtain ⟨-, -, -, -, -, -, -, -, -, -, -, -, -, -, -, -, -, -, -, -, -, -, -, -, -, -, -, -, S_PINGRESP, -, -, -, -, -, -, -, -, -, -, -, -, -, -, -, -⟩ := hW'
  refine own_go (B := s₁.setTop (mkF m 0 #[.val (.int (12 : Int32))] [])) (fun t k => castTop (ef_1 m (12 : Int32)) k) ?_
  refine own_go (B := s₁.setTop (mkF m 1 #[.val (.int (12 : Int32))] [(.int (12 : Int32))])) (fun _ k => XS.iloadN X0.here hx rfl (hb hby d1_0) rfl k) ?_
  refine own_go (B := s₁.setTop (mkF m 8 #[.val (.int (12 : Int32))] [])) (fun _ k => XS.ifYes X0.here hx rfl (pc0 := 1) (pc' := 8) rfl (hb hby d1_1) rfl (by decide) (by decide) (by decide) k) ?_
  refine own_go (B := s₁.setTop (mkF m 9 #[.val (.int (12 : Int32))] [(.int (12 : Int32))])) (fun _ k => XS.iloadN X0.here hx rfl (hb hby d1_8) rfl k) ?_
  refine own_go (B := s₁.setTop (mkF m 10 #[.val (.int (12 : Int32))] [(.int (1 : Int32)), (.int (12 : Int32))])) (fun _ k => XT.iconstV X0.here hx rfl (1 : Int32) (hb hby d1_9) rfl k) ?_
  refine own_go (B := s₁.setTop (mkF m 17 #[.val (.int (12 : Int32))] [])) (fun _ k => XS.icmpYes X0.here hx rfl (pc0 := 10) (pc' := 17) rfl (hb hby d1_10) rfl (by decide) (by decide) (by decide) k) ?_
  refine own_go (B := s₁.setTop (mkF m 18 #[.val (.int (12 : Int32))] [(.int (12 : Int32))])) (fun _ k => XS.iloadN X0.here hx rfl (hb hby d1_17) rfl k) ?_
  refine own_go (B := s₁.setTop (mkF m 19 #[.val (.int (12 : Int32))] [(.int (2 : Int32)), (.int (12 : Int32))])) (fun _ k => XT.iconstV X0.here hx rfl (2 : Int32) (hb hby d1_18) rfl k) ?_
  refine own_go (B := s₁.setTop (mkF m 26 #[.val (.int (12 : Int32))] [])) (fun _ k => XS.icmpYes X0.here hx rfl (pc0 := 19) (pc' := 26) rfl (hb hby d1_19) rfl (by decide) (by decide) (by decide) k) ?_
  refine own_go (B := s₁.setTop (mkF m 27 #[.val (.int (12 : Int32))] [(.int (12 : Int32))])) (fun _ k => XS.iloadN X0.here hx rfl (hb hby d1_26) rfl k) ?_
  refine own_go (B := s₁.setTop (mkF m 28 #[.val (.int (12 : Int32))] [(.int (3 : Int32)), (.int (12 : Int32))])) (fun _ k => XT.iconstV X0.here hx rfl (3 : Int32) (hb hby d1_27) rfl k) ?_
  refine own_go (B := s₁.setTop (mkF m 35 #[.val (.int (12 : Int32))] [])) (fun _ k => XS.icmpYes X0.here hx rfl (pc0 := 28) (pc' := 35) rfl (hb hby d1_28) rfl (by decide) (by decide) (by decide) k) ?_
  refine own_go (B := s₁.setTop (mkF m 36 #[.val (.int (12 : Int32))] [(.int (12 : Int32))])) (fun _ k => XS.iloadN X0.here hx rfl (hb hby d1_35) rfl k) ?_
  refine own_go (B := s₁.setTop (mkF m 37 #[.val (.int (12 : Int32))] [(.int (4 : Int32)), (.int (12 : Int32))])) (fun _ k => XT.iconstV X0.here hx rfl (4 : Int32) (hb hby d1_36) rfl k) ?_
  refine own_go (B := s₁.setTop (mkF m 44 #[.val (.int (12 : Int32))] [])) (fun _ k => XS.icmpYes X0.here hx rfl (pc0 := 37) (pc' := 44) rfl (hb hby d1_37) rfl (by decide) (by decide) (by decide) k) ?_
  refine own_go (B := s₁.setTop (mkF m 45 #[.val (.int (12 : Int32))] [(.int (12 : Int32))])) (fun _ k => XS.iloadN X0.here hx rfl (hb hby d1_44) rfl k) ?_
  refine own_go (B := s₁.setTop (mkF m 46 #[.val (.int (12 : Int32))] [(.int (5 : Int32)), (.int (12 : Int32))])) (fun _ k => XT.iconstV X0.here hx rfl (5 : Int32) (hb hby d1_45) rfl k) ?_
  refine own_go (B := s₁.setTop (mkF m 53 #[.val (.int (12 : Int32))] [])) (fun _ k => XS.icmpYes X0.here hx rfl (pc0 := 46) (pc' := 53) rfl (hb hby d1_46) rfl (by decide) (by decide) (by decide) k) ?_
  refine own_go (B := s₁.setTop (mkF m 54 #[.val (.int (12 : Int32))] [(.int (12 : Int32))])) (fun _ k => XS.iloadN X0.here hx rfl (hb hby d1_53) rfl k) ?_
  refine own_go (B := s₁.setTop (mkF m 56 #[.val (.int (12 : Int32))] [(.int (6 : Int32)), (.int (12 : Int32))])) (fun _ k => XT.bipushV X0.here hx rfl (6 : Int32) (hb hby d1_54) (by decide) k) ?_
  refine own_go (B := s₁.setTop (mkF m 63 #[.val (.int (12 : Int32))] [])) (fun _ k => XS.icmpYes X0.here hx rfl (pc0 := 56) (pc' := 63) rfl (hb hby d1_56) rfl (by decide) (by decide) (by decide) k) ?_
  refine own_go (B := s₁.setTop (mkF m 64 #[.val (.int (12 : Int32))] [(.int (12 : Int32))])) (fun _ k => XS.iloadN X0.here hx rfl (hb hby d1_63) rfl k) ?_
  refine own_go (B := s₁.setTop (mkF m 66 #[.val (.int (12 : Int32))] [(.int (7 : Int32)), (.int (12 : Int32))])) (fun _ k => XT.bipushV X0.here hx rfl (7 : Int32) (hb hby d1_64) (by decide) k) ?_
  refine own_go (B := s₁.setTop (mkF m 73 #[.val (.int (12 : Int32))] [])) (fun _ k => XS.icmpYes X0.here hx rfl (pc0 := 66) (pc' := 73) rfl (hb hby d1_66) rfl (by decide) (by decide) (by decide) k) ?_
  refine own_go (B := s₁.setTop (mkF m 74 #[.val (.int (12 : Int32))] [(.int (12 : Int32))])) (fun _ k => XS.iloadN X0.here hx rfl (hb hby d1_73) rfl k) ?_
  refine own_go (B := s₁.setTop (mkF m 76 #[.val (.int (12 : Int32))] [(.int (8 : Int32)), (.int (12 : Int32))])) (fun _ k => XT.bipushV X0.here hx rfl (8 : Int32) (hb hby d1_74) (by decide) k) ?_
  refine own_go (B := s₁.setTop (mkF m 83 #[.val (.int (12 : Int32))] [])) (fun _ k => XS.icmpYes X0.here hx rfl (pc0 := 76) (pc' := 83) rfl (hb hby d1_76) rfl (by decide) (by decide) (by decide) k) ?_
  refine own_go (B := s₁.setTop (mkF m 84 #[.val (.int (12 : Int32))] [(.int (12 : Int32))])) (fun _ k => XS.iloadN X0.here hx rfl (hb hby d1_83) rfl k) ?_
  refine own_go (B := s₁.setTop (mkF m 86 #[.val (.int (12 : Int32))] [(.int (9 : Int32)), (.int (12 : Int32))])) (fun _ k => XT.bipushV X0.here hx rfl (9 : Int32) (hb hby d1_84) (by decide) k) ?_
  refine own_go (B := s₁.setTop (mkF m 93 #[.val (.int (12 : Int32))] [])) (fun _ k => XS.icmpYes X0.here hx rfl (pc0 := 86) (pc' := 93) rfl (hb hby d1_86) rfl (by decide) (by decide) (by decide) k) ?_
  refine own_go (B := s₁.setTop (mkF m 94 #[.val (.int (12 : Int32))] [(.int (12 : Int32))])) (fun _ k => XS.iloadN X0.here hx rfl (hb hby d1_93) rfl k) ?_
  refine own_go (B := s₁.setTop (mkF m 96 #[.val (.int (12 : Int32))] [(.int (10 : Int32)), (.int (12 : Int32))])) (fun _ k => XT.bipushV X0.here hx rfl (10 : Int32) (hb hby d1_94) (by decide) k) ?_
  refine own_go (B := s₁.setTop (mkF m 103 #[.val (.int (12 : Int32))] [])) (fun _ k => XS.icmpYes X0.here hx rfl (pc0 := 96) (pc' := 103) rfl (hb hby d1_96) rfl (by decide) (by decide) (by decide) k) ?_
  refine own_go (B := s₁.setTop (mkF m 104 #[.val (.int (12 : Int32))] [(.int (12 : Int32))])) (fun _ k => XS.iloadN X0.here hx rfl (hb hby d1_103) rfl k) ?_
  refine own_go (B := s₁.setTop (mkF m 106 #[.val (.int (12 : Int32))] [(.int (11 : Int32)), (.int (12 : Int32))])) (fun _ k => XT.bipushV X0.here hx rfl (11 : Int32) (hb hby d1_104) (by decide) k) ?_
  refine own_go (B := s₁.setTop (mkF m 113 #[.val (.int (12 : Int32))] [])) (fun _ k => XS.icmpYes X0.here hx rfl (pc0 := 106) (pc' := 113) rfl (hb hby d1_106) rfl (by decide) (by decide) (by decide) k) ?_
  refine own_go (B := s₁.setTop (mkF m 114 #[.val (.int (12 : Int32))] [(.int (12 : Int32))])) (fun _ k => XS.iloadN X0.here hx rfl (hb hby d1_113) rfl k) ?_
  refine own_go (B := s₁.setTop (mkF m 116 #[.val (.int (12 : Int32))] [(.int (12 : Int32)), (.int (12 : Int32))])) (fun _ k => XT.bipushV X0.here hx rfl (12 : Int32) (hb hby d1_114) (by decide) k) ?_
  refine own_go (B := s₁.setTop (mkF m 119 #[.val (.int (12 : Int32))] [])) (fun _ k => XS.icmpNo X0.here hx rfl (hb hby d1_116) rfl (by decide) k) ?_
  obtain ⟨T1, X1, e1, st1⟩ := getS2 X0 hx hZ hown (host := "") (Or.inl (hw _ (List.mem_of_getElem? (i := 41) rfl))) Via.refl e0 (S_PINGRESP.ext x0) (g := (mkF m 119 #[.val (.int (12 : Int32))] [])) rfl (hb hby d1_119)
  refine own_go (B := T1.setTop (mkF m 122 #[.val (.int (12 : Int32))] [(.ref (A 14))])) st1 ?_
  exact own_ret X1 hx (t := (.object "com/example/ferrybus/ferrybus/codec/PacketType")) hrt rfl (Or.inr (Or.inr (Or.inr (Or.inr ⟨rfl, rfl, rfl⟩)))) (hb hby d1_122) hlk ⟨rfl, N0, e1⟩ (by decide) (by decide)
set_option maxRecDepth 65536 in
set_option maxHeartbeats 40000000 in
theorem rm2_23 (l : Launch) (Z : State) (a0 : Array Value) (hw : ∀ d ∈ tables_1, d.before a0 Z = true) (ws : List Jvm.Cond) (fl : Int32) (A : Nat → Addr) (hW : own_W Z A) (h0 : Heap) (x0 : Ext Z.heap h0) (kq13 : (0 : Int32) = fl) :
    own_Met l Z (⟨"com/example/ferrybus/ferrybus/codec/PacketType", "allows", "(I)Z"⟩ : MethodName) prog_32_method_5_code 2 (some .boolean) ws ({ frames := 0, cells := 0, slots := 0, locals := 0 } : Room) #[(.ref (A 14)), (.int fl)] h0 (fun v_ h_ L_ => v_ = some (.int (1 : Int32)) ∧ Fr Z.heap.size L_ ∧ h_ = h0) := by
  refine own_body (plainFor_of_name pn_1) fun p e s m below meth c s₁ hx hby hml hown hnm hlk hrt hZ X0 e0 => ?_
  have N0 := Fr.nil Z.heap.size
  have hW' := hW
  obtain ⟨-, -, -, -, -, -, -, -, -, -, -, -, -, -, -, -, -, -, -, -, -, -, -, -, -, -, -, -, -, -, -, -, -, -, -, -, -, -, -, -, -, -, -, -, F_PINGRESP_flags⟩ := hW'
  refine own_go (B := s₁.setTop (mkF m 0 #[.val (.ref (A 14)), .val (.int fl)] [])) (fun t k => castTop (ef_2 m (A 14) fl) k) ?_
  refine own_go (B := s₁.setTop (mkF m 1 #[.val (.ref (A 14)), .val (.int fl)] [(.ref (A 14))])) (fun _ k => XS.aloadN X0.here hx rfl (hb hby d2_0) rfl rfl k) ?_
  obtain ⟨T1, X1, e1, st1⟩ := getF X0 hx hZ hown (host := "") (Or.inl (hw _ (List.mem_of_getElem? (i := 13) rfl))) Via.refl e0 (F_PINGRESP_flags.ext x0) (g := (mkF m 1 #[.val (.ref (A 14)), .val (.int fl)] [(.ref (A 14))])) rfl rfl (hb hby d2_1)
  refine own_go (B := T1.setTop (mkF m 4 #[.val (.ref (A 14)), .val (.int fl)] [(.int (0 : Int32))])) st1 ?_
  refine own_go (B := T1.setTop (mkF m 5 #[.val (.ref (A 14)), .val (.int fl)] [(.int (-1 : Int32)), (.int (0 : Int32))])) (fun _ k => XT.iconstV X1.here hx rfl (-1 : Int32) (hb hby d2_4) rfl k) ?_
  refine own_go (B := T1.setTop (mkF m 8 #[.val (.ref (A 14)), .val (.int fl)] [])) (fun _ k => XS.icmpNo X1.here hx rfl (hb hby d2_5) rfl (by decide) k) ?_
  refine own_go (B := T1.setTop (mkF m 9 #[.val (.ref (A 14)), .val (.int fl)] [(.ref (A 14))])) (fun _ k => XS.aloadN X1.here hx rfl (hb hby d2_8) rfl rfl k) ?_
  obtain ⟨T2, X2, e2, st2⟩ := getF X1 hx hZ hown (host := "") (Or.inl (hw _ (List.mem_of_getElem? (i := 13) rfl))) Via.refl e1 (F_PINGRESP_flags.ext x0) (g := (mkF m 9 #[.val (.ref (A 14)), .val (.int fl)] [(.ref (A 14))])) rfl rfl (hb hby d2_9)
  refine own_go (B := T2.setTop (mkF m 12 #[.val (.ref (A 14)), .val (.int fl)] [(.int (0 : Int32))])) st2 ?_
  refine own_go (B := T2.setTop (mkF m 13 #[.val (.ref (A 14)), .val (.int fl)] [(.int fl), (.int (0 : Int32))])) (fun _ k => XS.iloadN X2.here hx rfl (hb hby d2_12) rfl k) ?_
  refine own_go (B := T2.setTop (mkF m 16 #[.val (.ref (A 14)), .val (.int fl)] [])) (fun _ k => XS.icmpNo X2.here hx rfl (hb hby d2_13) rfl (teq kq13).2 k) ?_
  refine own_go (B := T2.setTop (mkF m 17 #[.val (.ref (A 14)), .val (.int fl)] [(.int (1 : Int32))])) (fun _ k => XT.iconstV X2.here hx rfl (1 : Int32) (hb hby d2_16) rfl k) ?_
  refine own_go (B := T2.setTop (mkF m 21 #[.val (.ref (A 14)), .val (.int fl)] [(.int (1 : Int32))])) (fun _ k => XS.goto X2.here hx rfl (pc0 := 17) (pc' := 21) rfl (hb hby d2_17) (by decide) (by decide) k) ?_
  exact own_ret X2 hx (t := .boolean) hrt rfl (Or.inl ⟨rfl, by simp, _, rfl⟩) (hb hby d2_21) hlk ⟨rfl, N0, e2⟩ (by decide) (by decide)
set_option maxRecDepth 65536 in
set_option maxHeartbeats 40000000 in
theorem rm2_24 (l : Launch) (Z : State) (a0 : Array Value) (hw : ∀ d ∈ tables_1, d.before a0 Z = true) (ws : List Jvm.Cond) (fl : Int32) (A : Nat → Addr) (hW : own_W Z A) (h0 : Heap) (x0 : Ext Z.heap h0) (kq13 : ¬ (0 : Int32) = fl) :
    own_Met l Z (⟨"com/example/ferrybus/ferrybus/codec/PacketType", "allows", "(I)Z"⟩ : MethodName) prog_32_method_5_code 2 (some .boolean) ws ({ frames := 0, cells := 0, slots := 0, locals := 0 } : Room) #[(.ref (A 14)), (.int fl)] h0 (fun v_ h_ L_ => v_ = some (.int (0 : Int32)) ∧ Fr Z.heap.size L_ ∧ h_ = h0) := by
  refine own_body (plainFor_of_name pn_1) fun p e s m below meth c s₁ hx hby hml hown hnm hlk hrt hZ X0 e0 => ?_
  have N0 := Fr.nil Z.heap.size
  have hW' := hW
  obtain ⟨-, -, -, -, -, -, -, -, -, -, -, -, -, -, -, -, -, -, -, -, -, -, -, -, -, -, -, -, -, -, -, -, -, -, -, -, -, -, -, -, -, -, -, -, F_PINGRESP_flags⟩ := hW'
  refine own_go (B := s₁.setTop (mkF m 0 #[.val (.ref (A 14)), .val (.int fl)] [])) (fun t k => castTop (ef_2 m (A 14) fl) k) ?_
  refine own_go (B := s₁.setTop (mkF m 1 #[.val (.ref (A 14)), .val (.int fl)] [(.ref (A 14))])) (fun _ k => XS.aloadN X0.here hx rfl (hb hby d2_0) rfl rfl k) ?_
  obtain ⟨T1, X1, e1, st1⟩ := getF X0 hx hZ hown (host := "") (Or.inl (hw _ (List.mem_of_getElem? (i := 13) rfl))) Via.refl e0 (F_PINGRESP_flags.ext x0) (g := (mkF m 1 #[.val (.ref (A 14)), .val (.int fl)] [(.ref (A 14))])) rfl rfl (hb hby d2_1)
  refine own_go (B := T1.setTop (mkF m 4 #[.val (.ref (A 14)), .val (.int fl)] [(.int (0 : Int32))])) st1 ?_
  refine own_go (B := T1.setTop (mkF m 5 #[.val (.ref (A 14)), .val (.int fl)] [(.int (-1 : Int32)), (.int (0 : Int32))])) (fun _ k => XT.iconstV X1.here hx rfl (-1 : Int32) (hb hby d2_4) rfl k) ?_
  refine own_go (B := T1.setTop (mkF m 8 #[.val (.ref (A 14)), .val (.int fl)] [])) (fun _ k => XS.icmpNo X1.here hx rfl (hb hby d2_5) rfl (by decide) k) ?_
  refine own_go (B := T1.setTop (mkF m 9 #[.val (.ref (A 14)), .val (.int fl)] [(.ref (A 14))])) (fun _ k => XS.aloadN X1.here hx rfl (hb hby d2_8) rfl rfl k) ?_
  obtain ⟨T2, X2, e2, st2⟩ := getF X1 hx hZ hown (host := "") (Or.inl (hw _ (List.mem_of_getElem? (i := 13) rfl))) Via.refl e1 (F_PINGRESP_flags.ext x0) (g := (mkF m 9 #[.val (.ref (A 14)), .val (.int fl)] [(.ref (A 14))])) rfl rfl (hb hby d2_9)
  refine own_go (B := T2.setTop (mkF m 12 #[.val (.ref (A 14)), .val (.int fl)] [(.int (0 : Int32))])) st2 ?_
  refine own_go (B := T2.setTop (mkF m 13 #[.val (.ref (A 14)), .val (.int fl)] [(.int fl), (.int (0 : Int32))])) (fun _ k => XS.iloadN X2.here hx rfl (hb hby d2_12) rfl k) ?_
  refine own_go (B := T2.setTop (mkF m 20 #[.val (.ref (A 14)), .val (.int fl)] [])) (fun _ k => XS.icmpYes X2.here hx rfl (pc0 := 13) (pc' := 20) rfl (hb hby d2_13) rfl (feq kq13).2 (by decide) (by decide) k) ?_
  refine own_go (B := T2.setTop (mkF m 21 #[.val (.ref (A 14)), .val (.int fl)] [(.int (0 : Int32))])) (fun _ k => XT.iconstV X2.here hx rfl (0 : Int32) (hb hby d2_20) rfl k) ?_
  exact own_ret X2 hx (t := .boolean) hrt rfl (Or.inl ⟨rfl, by simp, _, rfl⟩) (hb hby d2_21) hlk ⟨rfl, N0, e2⟩ (by decide) (by decide)
set_option maxRecDepth 65536 in
set_option maxHeartbeats 40000000 in
theorem rm1_13 (l : Launch) (Z : State) (a0 : Array Value) (hw : ∀ d ∈ tables_1, d.before a0 Z = true) (ws : List Jvm.Cond)  (A : Nat → Addr) (hW : own_W Z A) (h0 : Heap) (x0 : Ext Z.heap h0)  :
    own_Met l Z (⟨"com/example/ferrybus/ferrybus/codec/PacketTypeAllowsPinLaw", "pick", "(I)Lcom/example/ferrybus/ferrybus/codec/PacketType;"⟩ : MethodName) method_2_code 1 (some (.object "com/example/ferrybus/ferrybus/codec/PacketType")) ws ({ frames := 0, cells := 0, slots := 0, locals := 0 } : Room) #[(.int (13 : Int32))] h0 (fun v_ h_ L_ => v_ = some (.ref (A 13)) ∧ Fr Z.heap.size L_ ∧ h_ = h0) := by
  refine own_body (plainFor_of_name pn_0) fun p e s m below meth c s₁ hx hby hml hown hnm hlk hrt hZ X0 e0 => ?_
  have N0 := Fr.nil Z.heap.size
  have hW' := hW
  obtain ⟨-, -, -, -, -, -, -, -, -, -, -, -, -, -, -, -, -, -, -, -, -, -, -, -, -, -, S_DISCONNECT, -, -, -, -, -, -, -, -, -, -, -, -, -, -, -, -, -, -⟩ := hW'
  refine own_go (B := s₁.setTop (mkF m 0 #[.val (.int (13 : Int32))] [])) (fun t k => castTop (ef_1 m (13 : Int32)) k) ?_
  refine own_go (B := s₁.setTop (mkF m 1 #[.val (.int (13 : Int32))] [(.int (13 : Int32))])) (fun _ k => XS.iloadN X0.here hx rfl (hb hby d1_0) rfl k) ?_
  refine own_go (B := s₁.setTop (mkF m 8 #[.val (.int (13 : Int32))] [])) (fun _ k => XS.ifYes X0.here hx rfl (pc0 := 1) (pc' := 8) rfl (hb hby d1_1) rfl (by decide) (by decide) (by decide) k) ?_
  refine own_go (B := s₁.setTop (mkF m 9 #[.val (.int (13 : Int32))] [(.int (13 : Int32))])) (fun _ k => XS.iloadN X0.here hx rfl (hb hby d1_8) rfl k) ?_
  refine own_go (B := s₁.setTop (mkF m 10 #[.val (.int (13 : Int32))] [(.int (1 : Int32)), (.int (13 : Int32))])) (fun _ k => XT.iconstV X0.here hx rfl (1 : Int32) (hb hby d1_9) rfl k) ?_
  refine own_go (B := s₁.setTop (mkF m 17 #[.val (.int (13 : Int32))] [])) (fun _ k => XS.icmpYes X0.here hx rfl (pc0 := 10) (pc' := 17) rfl (hb hby d1_10) rfl (by decide) (by decide) (by decide) k) ?_
  refine own_go (B := s₁.setTop (mkF m 18 #[.val (.int (13 : Int32))] [(.int (13 : Int32))])) (fun _ k => XS.iloadN X0.here hx rfl (hb hby d1_17) rfl k) ?_
  refine own_go (B := s₁.setTop (mkF m 19 #[.val (.int (13 : Int32))] [(.int (2 : Int32)), (.int (13 : Int32))])) (fun _ k => XT.iconstV X0.here hx rfl (2 : Int32) (hb hby d1_18) rfl k) ?_
  refine own_go (B := s₁.setTop (mkF m 26 #[.val (.int (13 : Int32))] [])) (fun _ k => XS.icmpYes X0.here hx rfl (pc0 := 19) (pc' := 26) rfl (hb hby d1_19) rfl (by decide) (by decide) (by decide) k) ?_
  refine own_go (B := s₁.setTop (mkF m 27 #[.val (.int (13 : Int32))] [(.int (13 : Int32))])) (fun _ k => XS.iloadN X0.here hx rfl (hb hby d1_26) rfl k) ?_
  refine own_go (B := s₁.setTop (mkF m 28 #[.val (.int (13 : Int32))] [(.int (3 : Int32)), (.int (13 : Int32))])) (fun _ k => XT.iconstV X0.here hx rfl (3 : Int32) (hb hby d1_27) rfl k) ?_
  refine own_go (B := s₁.setTop (mkF m 35 #[.val (.int (13 : Int32))] [])) (fun _ k => XS.icmpYes X0.here hx rfl (pc0 := 28) (pc' := 35) rfl (hb hby d1_28) rfl (by decide) (by decide) (by decide) k) ?_
  refine own_go (B := s₁.setTop (mkF m 36 #[.val (.int (13 : Int32))] [(.int (13 : Int32))])) (fun _ k => XS.iloadN X0.here hx rfl (hb hby d1_35) rfl k) ?_
  refine own_go (B := s₁.setTop (mkF m 37 #[.val (.int (13 : Int32))] [(.int (4 : Int32)), (.int (13 : Int32))])) (fun _ k => XT.iconstV X0.here hx rfl (4 : Int32) (hb hby d1_36) rfl k) ?_
  refine own_go (B := s₁.setTop (mkF m 44 #[.val (.int (13 : Int32))] [])) (fun _ k => XS.icmpYes X0.here hx rfl (pc0 := 37) (pc' := 44) rfl (hb hby d1_37) rfl (by decide) (by decide) (by decide) k) ?_
  refine own_go (B := s₁.setTop (mkF m 45 #[.val (.int (13 : Int32))] [(.int (13 : Int32))])) (fun _ k => XS.iloadN X0.here hx rfl (hb hby d1_44) rfl k) ?_
  refine own_go (B := s₁.setTop (mkF m 46 #[.val (.int (13 : Int32))] [(.int (5 : Int32)), (.int (13 : Int32))])) (fun _ k => XT.iconstV X0.here hx rfl (5 : Int32) (hb hby d1_45) rfl k) ?_
  refine own_go (B := s₁.setTop (mkF m 53 #[.val (.int (13 : Int32))] [])) (fun _ k => XS.icmpYes X0.here hx rfl (pc0 := 46) (pc' := 53) rfl (hb hby d1_46) rfl (by decide) (by decide) (by decide) k) ?_
  refine own_go (B := s₁.setTop (mkF m 54 #[.val (.int (13 : Int32))] [(.int (13 : Int32))])) (fun _ k => XS.iloadN X0.here hx rfl (hb hby d1_53) rfl k) ?_
  refine own_go (B := s₁.setTop (mkF m 56 #[.val (.int (13 : Int32))] [(.int (6 : Int32)), (.int (13 : Int32))])) (fun _ k => XT.bipushV X0.here hx rfl (6 : Int32) (hb hby d1_54) (by decide) k) ?_
  refine own_go (B := s₁.setTop (mkF m 63 #[.val (.int (13 : Int32))] [])) (fun _ k => XS.icmpYes X0.here hx rfl (pc0 := 56) (pc' := 63) rfl (hb hby d1_56) rfl (by decide) (by decide) (by decide) k) ?_
  refine own_go (B := s₁.setTop (mkF m 64 #[.val (.int (13 : Int32))] [(.int (13 : Int32))])) (fun _ k => XS.iloadN X0.here hx rfl (hb hby d1_63) rfl k) ?_
  refine own_go (B := s₁.setTop (mkF m 66 #[.val (.int (13 : Int32))] [(.int (7 : Int32)), (.int (13 : Int32))])) (fun _ k => XT.bipushV X0.here hx rfl (7 : Int32) (hb hby d1_64) (by decide) k) ?_
  refine own_go (B := s₁.setTop (mkF m 73 #[.val (.int (13 : Int32))] [])) (fun _ k => XS.icmpYes X0.here hx rfl (pc0 := 66) (pc' := 73) rfl (hb hby d1_66) rfl (by decide) (by decide) (by decide) k) ?_
  refine own_go (B := s₁.setTop (mkF m 74 #[.val (.int (13 : Int32))] [(.int (13 : Int32))])) (fun _ k => XS.iloadN X0.here hx rfl (hb hby d1_73) rfl k) ?_
  refine own_go (B := s₁.setTop (mkF m 76 #[.val (.int (13 : Int32))] [(.int (8 : Int32)), (.int (13 : Int32))])) (fun _ k => XT.bipushV X0.here hx rfl (8 : Int32) (hb hby d1_74) (by decide) k) ?_
  refine own_go (B := s₁.setTop (mkF m 83 #[.val (.int (13 : Int32))] [])) (fun _ k => XS.icmpYes X0.here hx rfl (pc0 := 76) (pc' := 83) rfl (hb hby d1_76) rfl (by decide) (by decide) (by decide) k) ?_
  refine own_go (B := s₁.setTop (mkF m 84 #[.val (.int (13 : Int32))] [(.int (13 : Int32))])) (fun _ k => XS.iloadN X0.here hx rfl (hb hby d1_83) rfl k) ?_
  refine own_go (B := s₁.setTop (mkF m 86 #[.val (.int (13 : Int32))] [(.int (9 : Int32)), (.int (13 : Int32))])) (fun _ k => XT.bipushV X0.here hx rfl (9 : Int32) (hb hby d1_84) (by decide) k) ?_
  refine own_go (B := s₁.setTop (mkF m 93 #[.val (.int (13 : Int32))] [])) (fun _ k => XS.icmpYes X0.here hx rfl (pc0 := 86) (pc' := 93) rfl (hb hby d1_86) rfl (by decide) (by decide) (by decide) k) ?_
  refine own_go (B := s₁.setTop (mkF m 94 #[.val (.int (13 : Int32))] [(.int (13 : Int32))])) (fun _ k => XS.iloadN X0.here hx rfl (hb hby d1_93) rfl k) ?_
  refine own_go (B := s₁.setTop (mkF m 96 #[.val (.int (13 : Int32))] [(.int (10 : Int32)), (.int (13 : Int32))])) (fun _ k => XT.bipushV X0.here hx rfl (10 : Int32) (hb hby d1_94) (by decide) k) ?_
  refine own_go (B := s₁.setTop (mkF m 103 #[.val (.int (13 : Int32))] [])) (fun _ k => XS.icmpYes X0.here hx rfl (pc0 := 96) (pc' := 103) rfl (hb hby d1_96) rfl (by decide) (by decide) (by decide) k) ?_
  refine own_go (B := s₁.setTop (mkF m 104 #[.val (.int (13 : Int32))] [(.int (13 : Int32))])) (fun _ k => XS.iloadN X0.here hx rfl (hb hby d1_103) rfl k) ?_
  refine own_go (B := s₁.setTop (mkF m 106 #[.val (.int (13 : Int32))] [(.int (11 : Int32)), (.int (13 : Int32))])) (fun _ k => XT.bipushV X0.here hx rfl (11 : Int32) (hb hby d1_104) (by decide) k) ?_
  refine own_go (B := s₁.setTop (mkF m 113 #[.val (.int (13 : Int32))] [])) (fun _ k => XS.icmpYes X0.here hx rfl (pc0 := 106) (pc' := 113) rfl (hb hby d1_106) rfl (by decide) (by decide) (by decide) k) ?_
  refine own_go (B := s₁.setTop (mkF m 114 #[.val (.int (13 : Int32))] [(.int (13 : Int32))])) (fun _ k => XS.iloadN X0.here hx rfl (hb hby d1_113) rfl k) ?_
  refine own_go (B := s₁.setTop (mkF m 116 #[.val (.int (13 : Int32))] [(.int (12 : Int32)), (.int (13 : Int32))])) (fun _ k => XT.bipushV X0.here hx rfl (12 : Int32) (hb hby d1_114) (by decide) k) ?_
  refine own_go (B := s₁.setTop (mkF m 123 #[.val (.int (13 : Int32))] [])) (fun _ k => XS.icmpYes X0.here hx rfl (pc0 := 116) (pc' := 123) rfl (hb hby d1_116) rfl (by decide) (by decide) (by decide) k) ?_
  refine own_go (B := s₁.setTop (mkF m 124 #[.val (.int (13 : Int32))] [(.int (13 : Int32))])) (fun _ k => XS.iloadN X0.here hx rfl (hb hby d1_123) rfl k) ?_
  refine own_go (B := s₁.setTop (mkF m 126 #[.val (.int (13 : Int32))] [(.int (13 : Int32)), (.int (13 : Int32))])) (fun _ k => XT.bipushV X0.here hx rfl (13 : Int32) (hb hby d1_124) (by decide) k) ?_
  refine own_go (B := s₁.setTop (mkF m 129 #[.val (.int (13 : Int32))] [])) (fun _ k => XS.icmpNo X0.here hx rfl (hb hby d1_126) rfl (by decide) k) ?_
  obtain ⟨T1, X1, e1, st1⟩ := getS2 X0 hx hZ hown (host := "") (Or.inl (hw _ (List.mem_of_getElem? (i := 39) rfl))) Via.refl e0 (S_DISCONNECT.ext x0) (g := (mkF m 129 #[.val (.int (13 : Int32))] [])) rfl (hb hby d1_129)
  refine own_go (B := T1.setTop (mkF m 132 #[.val (.int (13 : Int32))] [(.ref (A 13))])) st1 ?_
  exact own_ret X1 hx (t := (.object "com/example/ferrybus/ferrybus/codec/PacketType")) hrt rfl (Or.inr (Or.inr (Or.inr (Or.inr ⟨rfl, rfl, rfl⟩)))) (hb hby d1_132) hlk ⟨rfl, N0, e1⟩ (by decide) (by decide)
set_option maxRecDepth 65536 in
set_option maxHeartbeats 40000000 in
theorem rm2_25 (l : Launch) (Z : State) (a0 : Array Value) (hw : ∀ d ∈ tables_1, d.before a0 Z = true) (ws : List Jvm.Cond) (fl : Int32) (A : Nat → Addr) (hW : own_W Z A) (h0 : Heap) (x0 : Ext Z.heap h0) (kq13 : (0 : Int32) = fl) :
    own_Met l Z (⟨"com/example/ferrybus/ferrybus/codec/PacketType", "allows", "(I)Z"⟩ : MethodName) prog_32_method_5_code 2 (some .boolean) ws ({ frames := 0, cells := 0, slots := 0, locals := 0 } : Room) #[(.ref (A 13)), (.int fl)] h0 (fun v_ h_ L_ => v_ = some (.int (1 : Int32)) ∧ Fr Z.heap.size L_ ∧ h_ = h0) := by
  refine own_body (plainFor_of_name pn_1) fun p e s m below meth c s₁ hx hby hml hown hnm hlk hrt hZ X0 e0 => ?_
  have N0 := Fr.nil Z.heap.size
  have hW' := hW
  obtain ⟨-, -, -, -, -, -, -, -, -, -, -, -, -, -, -, -, -, -, -, -, -, -, -, -, -, -, -, -, -, -, -, -, -, -, -, -, -, -, -, -, -, -, -, F_DISCONNECT_flags, -⟩ := hW'
  refine own_go (B := s₁.setTop (mkF m 0 #[.val (.ref (A 13)), .val (.int fl)] [])) (fun t k => castTop (ef_2 m (A 13) fl) k) ?_
  refine own_go (B := s₁.setTop (mkF m 1 #[.val (.ref (A 13)), .val (.int fl)] [(.ref (A 13))])) (fun _ k => XS.aloadN X0.here hx rfl (hb hby d2_0) rfl rfl k) ?_
  obtain ⟨T1, X1, e1, st1⟩ := getF X0 hx hZ hown (host := "") (Or.inl (hw _ (List.mem_of_getElem? (i := 13) rfl))) Via.refl e0 (F_DISCONNECT_flags.ext x0) (g := (mkF m 1 #[.val (.ref (A 13)), .val (.int fl)] [(.ref (A 13))])) rfl rfl (hb hby d2_1)
  refine own_go (B := T1.setTop (mkF m 4 #[.val (.ref (A 13)), .val (.int fl)] [(.int (0 : Int32))])) st1 ?_
  refine own_go (B := T1.setTop (mkF m 5 #[.val (.ref (A 13)), .val (.int fl)] [(.int (-1 : Int32)), (.int (0 : Int32))])) (fun _ k => XT.iconstV X1.here hx rfl (-1 : Int32) (hb hby d2_4) rfl k) ?_
  refine own_go (B := T1.setTop (mkF m 8 #[.val (.ref (A 13)), .val (.int fl)] [])) (fun _ k => XS.icmpNo X1.here hx rfl (hb hby d2_5) rfl (by decide) k) ?_
  refine own_go (B := T1.setTop (mkF m 9 #[.val (.ref (A 13)), .val (.int fl)] [(.ref (A 13))])) (fun _ k => XS.aloadN X1.here hx rfl (hb hby d2_8) rfl rfl k) ?_
  obtain ⟨T2, X2, e2, st2⟩ := getF X1 hx hZ hown (host := "") (Or.inl (hw _ (List.mem_of_getElem? (i := 13) rfl))) Via.refl e1 (F_DISCONNECT_flags.ext x0) (g := (mkF m 9 #[.val (.ref (A 13)), .val (.int fl)] [(.ref (A 13))])) rfl rfl (hb hby d2_9)
  refine own_go (B := T2.setTop (mkF m 12 #[.val (.ref (A 13)), .val (.int fl)] [(.int (0 : Int32))])) st2 ?_
  refine own_go (B := T2.setTop (mkF m 13 #[.val (.ref (A 13)), .val (.int fl)] [(.int fl), (.int (0 : Int32))])) (fun _ k => XS.iloadN X2.here hx rfl (hb hby d2_12) rfl k) ?_
  refine own_go (B := T2.setTop (mkF m 16 #[.val (.ref (A 13)), .val (.int fl)] [])) (fun _ k => XS.icmpNo X2.here hx rfl (hb hby d2_13) rfl (teq kq13).2 k) ?_
  refine own_go (B := T2.setTop (mkF m 17 #[.val (.ref (A 13)), .val (.int fl)] [(.int (1 : Int32))])) (fun _ k => XT.iconstV X2.here hx rfl (1 : Int32) (hb hby d2_16) rfl k) ?_
  refine own_go (B := T2.setTop (mkF m 21 #[.val (.ref (A 13)), .val (.int fl)] [(.int (1 : Int32))])) (fun _ k => XS.goto X2.here hx rfl (pc0 := 17) (pc' := 21) rfl (hb hby d2_17) (by decide) (by decide) k) ?_
  exact own_ret X2 hx (t := .boolean) hrt rfl (Or.inl ⟨rfl, by simp, _, rfl⟩) (hb hby d2_21) hlk ⟨rfl, N0, e2⟩ (by decide) (by decide)
set_option maxRecDepth 65536 in
set_option maxHeartbeats 40000000 in
theorem rm2_26 (l : Launch) (Z : State) (a0 : Array Value) (hw : ∀ d ∈ tables_1, d.before a0 Z = true) (ws : List Jvm.Cond) (fl : Int32) (A : Nat → Addr) (hW : own_W Z A) (h0 : Heap) (x0 : Ext Z.heap h0) (kq13 : ¬ (0 : Int32) = fl) :
    own_Met l Z (⟨"com/example/ferrybus/ferrybus/codec/PacketType", "allows", "(I)Z"⟩ : MethodName) prog_32_method_5_code 2 (some .boolean) ws ({ frames := 0, cells := 0, slots := 0, locals := 0 } : Room) #[(.ref (A 13)), (.int fl)] h0 (fun v_ h_ L_ => v_ = some (.int (0 : Int32)) ∧ Fr Z.heap.size L_ ∧ h_ = h0) := by
  refine own_body (plainFor_of_name pn_1) fun p e s m below meth c s₁ hx hby hml hown hnm hlk hrt hZ X0 e0 => ?_
  have N0 := Fr.nil Z.heap.size
  have hW' := hW
  obtain ⟨-, -, -, -, -, -, -, -, -, -, -, -, -, -, -, -, -, -, -, -, -, -, -, -, -, -, -, -, -, -, -, -, -, -, -, -, -, -, -, -, -, -, -, F_DISCONNECT_flags, -⟩ := hW'
  refine own_go (B := s₁.setTop (mkF m 0 #[.val (.ref (A 13)), .val (.int fl)] [])) (fun t k => castTop (ef_2 m (A 13) fl) k) ?_
  refine own_go (B := s₁.setTop (mkF m 1 #[.val (.ref (A 13)), .val (.int fl)] [(.ref (A 13))])) (fun _ k => XS.aloadN X0.here hx rfl (hb hby d2_0) rfl rfl k) ?_
  obtain ⟨T1, X1, e1, st1⟩ := getF X0 hx hZ hown (host := "") (Or.inl (hw _ (List.mem_of_getElem? (i := 13) rfl))) Via.refl e0 (F_DISCONNECT_flags.ext x0) (g := (mkF m 1 #[.val (.ref (A 13)), .val (.int fl)] [(.ref (A 13))])) rfl rfl (hb hby d2_1)
  refine own_go (B := T1.setTop (mkF m 4 #[.val (.ref (A 13)), .val (.int fl)] [(.int (0 : Int32))])) st1 ?_
  refine own_go (B := T1.setTop (mkF m 5 #[.val (.ref (A 13)), .val (.int fl)] [(.int (-1 : Int32)), (.int (0 : Int32))])) (fun _ k => XT.iconstV X1.here hx rfl (-1 : Int32) (hb hby d2_4) rfl k) ?_
  refine own_go (B := T1.setTop (mkF m 8 #[.val (.ref (A 13)), .val (.int fl)] [])) (fun _ k => XS.icmpNo X1.here hx rfl (hb hby d2_5) rfl (by decide) k) ?_
  refine own_go (B := T1.setTop (mkF m 9 #[.val (.ref (A 13)), .val (.int fl)] [(.ref (A 13))])) (fun _ k => XS.aloadN X1.here hx rfl (hb hby d2_8) rfl rfl k) ?_
  obtain ⟨T2, X2, e2, st2⟩ := getF X1 hx hZ hown (host := "") (Or.inl (hw _ (List.mem_of_getElem? (i := 13) rfl))) Via.refl e1 (F_DISCONNECT_flags.ext x0) (g := (mkF m 9 #[.val (.ref (A 13)), .val (.int fl)] [(.ref (A 13))])) rfl rfl (hb hby d2_9)
  refine own_go (B := T2.setTop (mkF m 12 #[.val (.ref (A 13)), .val (.int fl)] [(.int (0 : Int32))])) st2 ?_
  refine own_go (B := T2.setTop (mkF m 13 #[.val (.ref (A 13)), .val (.int fl)] [(.int fl), (.int (0 : Int32))])) (fun _ k => XS.iloadN X2.here hx rfl (hb hby d2_12) rfl k) ?_
  refine own_go (B := T2.setTop (mkF m 20 #[.val (.ref (A 13)), .val (.int fl)] [])) (fun _ k => XS.icmpYes X2.here hx rfl (pc0 := 13) (pc' := 20) rfl (hb hby d2_13) rfl (feq kq13).2 (by decide) (by decide) k) ?_
  refine own_go (B := T2.setTop (mkF m 21 #[.val (.ref (A 13)), .val (.int fl)] [(.int (0 : Int32))])) (fun _ k => XT.iconstV X2.here hx rfl (0 : Int32) (hb hby d2_20) rfl k) ?_
  exact own_ret X2 hx (t := .boolean) hrt rfl (Or.inl ⟨rfl, by simp, _, rfl⟩) (hb hby d2_21) hlk ⟨rfl, N0, e2⟩ (by decide) (by decide)
set_option maxRecDepth 65536 in
set_option maxHeartbeats 40000000 in
theorem rm1_14 (l : Launch) (Z : State) (a0 : Array Value) (hw : ∀ d ∈ tables_1, d.before a0 Z = true) (ws : List Jvm.Cond)  (A : Nat → Addr) (hW : own_W Z A) (h0 : Heap) (x0 : Ext Z.heap h0)  :
    own_Met l Z (⟨"com/example/ferrybus/ferrybus/codec/PacketTypeAllowsPinLaw", "pick", "(I)Lcom/example/ferrybus/ferrybus/codec/PacketType;"⟩ : MethodName) method_2_code 1 (some (.object "com/example/ferrybus/ferrybus/codec/PacketType")) ws ({ frames := 0, cells := 0, slots := 0, locals := 0 } : Room) #[(.int (14 : Int32))] h0 (fun v_ h_ L_ => v_ = some (.ref (A 2)) ∧ Fr Z.heap.size L_ ∧ h_ = h0) := by
  refine own_body (plainFor_of_name pn_0) fun p e s m below meth c s₁ hx hby hml hown hnm hlk hrt hZ X0 e0 => ?_
  have N0 := Fr.nil Z.heap.size
  have hW' := hW
  obtain ⟨-, -, -, -, S_AUTH, -, -, -, -, -, -, -, -, -, -, -, -, -, -, -, -, -, -, -, -, -, -, -, -, -, -, -, -, -, -, -, -, -, -, -, -, -, -, -, -⟩ := hW'
  refine own_go (B := s₁.setTop (mkF m 0 #[.val (.int (14 : Int32))] [])) (fun t k => castTop (ef_1 m (14 : Int32)) k) ?_
  refine own_go (B := s₁.setTop (mkF m 1 #[.val (.int (14 : Int32))] [(.int (14 : Int32))])) (fun _ k => XS.iloadN X0.here hx rfl (hb hby d1_0) rfl k) ?_
  refine own_go (B := s₁.setTop (mkF m 8 #[.val (.int (14 : Int32))] [])) (fun _ k => XS.ifYes X0.here hx rfl (pc0 := 1) (pc' := 8) rfl (hb hby d1_1) rfl (by decide) (by decide) (by decide) k) ?_
  refine own_go (B := s₁.setTop (mkF m 9 #[.val (.int (14 : Int32))] [(.int (14 : Int32))])) (fun _ k => XS.iloadN X0.here hx rfl (hb hby d1_8) rfl k) ?_
  refine own_go (B := s₁.setTop (mkF m 10 #[.val (.int (14 : Int32))] [(.int (1 : Int32)), (.int (14 : Int32))])) (fun _ k => XT.iconstV X0.here hx rfl (1 : Int32) (hb hby d1_9) rfl k) ?_
  refine own_go (B := s₁.setTop (mkF m 17 #[.val (.int (14 : Int32))] [])) (fun _ k => XS.icmpYes X0.here hx rfl (pc0 := 10) (pc' := 17) rfl (hb hby d1_10) rfl (by decide) (by decide) (by decide) k) ?_
  refine own_go (B := s₁.setTop (mkF m 18 #[.val (.int (14 : Int32))] [(.int (14 : Int32))])) (fun _ k => XS.iloadN X0.here hx rfl (hb hby d1_17) rfl k) ?_
  refine own_go (B := s₁.setTop (mkF m 19 #[.val (.int (14 : Int32))] [(.int (2 : Int32)), (.int (14 : Int32))])) (fun _ k => XT.iconstV X0.here hx rfl (2 : Int32) (hb hby d1_18) rfl k) ?_
  refine own_go (B := s₁.setTop (mkF m 26 #[.val (.int (14 : Int32))] [])) (fun _ k => XS.icmpYes X0.here hx rfl (pc0 := 19) (pc' := 26) rfl (hb hby d1_19) rfl (by decide) (by decide) (by decide) k) ?_
  refine own_go (B := s₁.setTop (mkF m 27 #[.val (.int (14 : Int32))] [(.int (14 : Int32))])) (fun _ k => XS.iloadN X0.here hx rfl (hb hby d1_26) rfl k) ?_
  refine own_go (B := s₁.setTop (mkF m 28 #[.val (.int (14 : Int32))] [(.int (3 : Int32)), (.int (14 : Int32))])) (fun _ k => XT.iconstV X0.here hx rfl (3 : Int32) (hb hby d1_27) rfl k) ?_
  refine own_go (B := s₁.setTop (mkF m 35 #[.val (.int (14 : Int32))] [])) (fun _ k => XS.icmpYes X0.here hx rfl (pc0 := 28) (pc' := 35) rfl (hb hby d1_28) rfl (by decide) (by decide) (by decide) k) ?_
  refine own_go (B := s₁.setTop (mkF m 36 #[.val (.int (14 : Int32))] [(.int (14 : Int32))])) (fun _ k => XS.iloadN X0.here hx rfl (hb hby d1_35) rfl k) ?_
  refine own_go (B := s₁.setTop (mkF m 37 #[.val (.int (14 : Int32))] [(.int (4 : Int32)), (.int (14 : Int32))])) (fun _ k => XT.iconstV X0.here hx rfl (4 : Int32) (hb hby d1_36) rfl k) ?_
  refine own_go (B := s₁.setTop (mkF m 44 #[.val (.int (14 : Int32))] [])) (fun _ k => XS.icmpYes X0.here hx rfl (pc0 := 37) (pc' := 44) rfl (hb hby d1_37) rfl (by decide) (by decide) (by decide) k) ?_
  refine own_go (B := s₁.setTop (mkF m 45 #[.val (.int (14 : Int32))] [(.int (14 : Int32))])) (fun _ k => XS.iloadN X0.here hx rfl (hb hby d1_44) rfl k) ?_
  refine own_go (B := s₁.setTop (mkF m 46 #[.val (.int (14 : Int32))] [(.int (5 : Int32)), (.int (14 : Int32))])) (fun _ k => XT.iconstV X0.here hx rfl (5 : Int32) (hb hby d1_45) rfl k) ?_
  refine own_go (B := s₁.setTop (mkF m 53 #[.val (.int (14 : Int32))] [])) (fun _ k => XS.icmpYes X0.here hx rfl (pc0 := 46) (pc' := 53) rfl (hb hby d1_46) rfl (by decide) (by decide) (by decide) k) ?_
  refine own_go (B := s₁.setTop (mkF m 54 #[.val (.int (14 : Int32))] [(.int (14 : Int32))])) (fun _ k => XS.iloadN X0.here hx rfl (hb hby d1_53) rfl k) ?_
  refine own_go (B := s₁.setTop (mkF m 56 #[.val (.int (14 : Int32))] [(.int (6 : Int32)), (.int (14 : Int32))])) (fun _ k => XT.bipushV X0.here hx rfl (6 : Int32) (hb hby d1_54) (by decide) k) ?_
  refine own_go (B := s₁.setTop (mkF m 63 #[.val (.int (14 : Int32))] [])) (fun _ k => XS.icmpYes X0.here hx rfl (pc0 := 56) (pc' := 63) rfl (hb hby d1_56) rfl (by decide) (by decide) (by decide) k) ?_
  refine own_go (B := s₁.setTop (mkF m 64 #[.val (.int (14 : Int32))] [(.int (14 : Int32))])) (fun _ k => XS.iloadN X0.here hx rfl (hb hby d1_63) rfl k) ?_
  refine own_go (B := s₁.setTop (mkF m 66 #[.val (.int (14 : Int32))] [(.int (7 : Int32)), (.int (14 : Int32))])) (fun _ k => XT.bipushV X0.here hx rfl (7 : Int32) (hb hby d1_64) (by decide) k) ?_
  refine own_go (B := s₁.setTop (mkF m 73 #[.val (.int (14 : Int32))] [])) (fun _ k => XS.icmpYes X0.here hx rfl (pc0 := 66) (pc' := 73) rfl (hb hby d1_66) rfl (by decide) (by decide) (by decide) k) ?_
  refine own_go (B := s₁.setTop (mkF m 74 #[.val (.int (14 : Int32))] [(.int (14 : Int32))])) (fun _ k => XS.iloadN X0.here hx rfl (hb hby d1_73) rfl k) ?_
  refine own_go (B := s₁.setTop (mkF m 76 #[.val (.int (14 : Int32))] [(.int (8 : Int32)), (.int (14 : Int32))])) (fun _ k => XT.bipushV X0.here hx rfl (8 : Int32) (hb hby d1_74) (by decide) k) ?_
  refine own_go (B := s₁.setTop (mkF m 83 #[.val (.int (14 : Int32))] [])) (fun _ k => XS.icmpYes X0.here hx rfl (pc0 := 76) (pc' := 83) rfl (hb hby d1_76) rfl (by decide) (by decide) (by decide) k) ?_
  refine own_go (B := s₁.setTop (mkF m 84 #[.val (.int (14 : Int32))] [(.int (14 : Int32))])) (fun _ k => XS.iloadN X0.here hx rfl (hb hby d1_83) rfl k) ?_
  refine own_go (B := s₁.setTop (mkF m 86 #[.val (.int (14 : Int32))] [(.int (9 : Int32)), (.int (14 : Int32))])) (fun _ k => XT.bipushV X0.here hx rfl (9 : Int32) (hb hby d1_84) (by decide) k) ?_
  refine own_go (B := s₁.setTop (mkF m 93 #[.val (.int (14 : Int32))] [])) (fun _ k => XS.icmpYes X0.here hx rfl (pc0 := 86) (pc' := 93) rfl (hb hby d1_86) rfl (by decide) (by decide) (by decide) k) ?_
  refine own_go (B := s₁.setTop (mkF m 94 #[.val (.int (14 : Int32))] [(.int (14 : Int32))])) (fun _ k => XS.iloadN X0.here hx rfl (hb hby d1_93) rfl k) ?_
  refine own_go (B := s₁.setTop (mkF m 96 #[.val (.int (14 : Int32))] [(.int (10 : Int32)), (.int (14 : Int32))])) (fun _ k => XT.bipushV X0.here hx rfl (10 : Int32) (hb hby d1_94) (by decide) k) ?_
  refine own_go (B := s₁.setTop (mkF m 103 #[.val (.int (14 : Int32))] [])) (fun _ k => XS.icmpYes X0.here hx rfl (pc0 := 96) (pc' := 103) rfl (hb hby d1_96) rfl (by decide) (by decide) (by decide) k) ?_
  refine own_go (B := s₁.setTop (mkF m 104 #[.val (.int (14 : Int32))] [(.int (14 : Int32))])) (fun _ k => XS.iloadN X0.here hx rfl (hb hby d1_103) rfl k) ?_
  refine own_go (B := s₁.setTop (mkF m 106 #[.val (.int (14 : Int32))] [(.int (11 : Int32)), (.int (14 : Int32))])) (fun _ k => XT.bipushV X0.here hx rfl (11 : Int32) (hb hby d1_104) (by decide) k) ?_
  refine own_go (B := s₁.setTop (mkF m 113 #[.val (.int (14 : Int32))] [])) (fun _ k => XS.icmpYes X0.here hx rfl (pc0 := 106) (pc' := 113) rfl (hb hby d1_106) rfl (by decide) (by decide) (by decide) k) ?_
  refine own_go (B := s₁.setTop (mkF m 114 #[.val (.int (14 : Int32))] [(.int (14 : Int32))])) (fun _ k => XS.iloadN X0.here hx rfl (hb hby d1_113) rfl k) ?_
  refine own_go (B := s₁.setTop (mkF m 116 #[.val (.int (14 : Int32))] [(.int (12 : Int32)), (.int (14 : Int32))])) (fun _ k => XT.bipushV X0.here hx rfl (12 : Int32) (hb hby d1_114) (by decide) k) ?_
  refine own_go (B := s₁.setTop (mkF m 123 #[.val (.int (14 : Int32))] [])) (fun _ k => XS.icmpYes X0.here hx rfl (pc0 := 116) (pc' := 123) rfl (hb hby d1_116) rfl (by decide) (by decide) (by decide) k) ?_
  refine own_go (B := s₁.setTop (mkF m 124 #[.val (.int (14 : Int32))] [(.int (14 : Int32))])) (fun _ k => XS.iloadN X0.here hx rfl (hb hby d1_123) rfl k) ?_
  refine own_go (B := s₁.setTop (mkF m 126 #[.val (.int (14 : Int32))] [(.int (13 : Int32)), (.int (14 : Int32))])) (fun _ k => XT.bipushV X0.here hx rfl (13 : Int32) (hb hby d1_124) (by decide) k) ?_
  refine own_go (B := s₁.setTop (mkF m 133 #[.val (.int (14 : Int32))] [])) (fun _ k => XS.icmpYes X0.here hx rfl (pc0 := 126) (pc' := 133) rfl (hb hby d1_126) rfl (by decide) (by decide) (by decide) k) ?_
  obtain ⟨T1, X1, e1, st1⟩ := getS2 X0 hx hZ hown (host := "") (Or.inl (hw _ (List.mem_of_getElem? (i := 17) rfl))) Via.refl e0 (S_AUTH.ext x0) (g := (mkF m 133 #[.val (.int (14 : Int32))] [])) rfl (hb hby d1_133)
  refine own_go (B := T1.setTop (mkF m 136 #[.val (.int (14 : Int32))] [(.ref (A 2))])) st1 ?_
  exact own_ret X1 hx (t := (.object "com/example/ferrybus/ferrybus/codec/PacketType")) hrt rfl (Or.inr (Or.inr (Or.inr (Or.inr ⟨rfl, rfl, rfl⟩)))) (hb hby d1_136) hlk ⟨rfl, N0, e1⟩ (by decide) (by decide)
set_option maxRecDepth 65536 in
set_option maxHeartbeats 40000000 in
theorem rm2_27 (l : Launch) (Z : State) (a0 : Array Value) (hw : ∀ d ∈ tables_1, d.before a0 Z = true) (ws : List Jvm.Cond) (fl : Int32) (A : Nat → Addr) (hW : own_W Z A) (h0 : Heap) (x0 : Ext Z.heap h0) (kq13 : (0 : Int32) = fl) :
    own_Met l Z (⟨"com/example/ferrybus/ferrybus/codec/PacketType", "allows", "(I)Z"⟩ : MethodName) prog_32_method_5_code 2 (some .boolean) ws ({ frames := 0, cells := 0, slots := 0, locals := 0 } : Room) #[(.ref (A 2)), (.int fl)] h0 (fun v_ h_ L_ => v_ = some (.int (1 : Int32)) ∧ Fr Z.heap.size L_ ∧ h_ = h0) := by
  refine own_body (plainFor_of_name pn_1) fun p e s m below meth c s₁ hx hby hml hown hnm hlk hrt hZ X0 e0 => ?_
  have N0 := Fr.nil Z.heap.size
  have hW' := hW
  obtain ⟨-, -, -, -, -, -, -, -, -, -, -, -, -, -, -, -, -, -, -, -, -, -, -, -, -, -, -, -, -, -, -, -, F_AUTH_flags, -, -, -, -, -, -, -, -, -, -, -, -⟩ := hW'
  refine own_go (B := s₁.setTop (mkF m 0 #[.val (.ref (A 2)), .val (.int fl)] [])) (fun t k => castTop (ef_2 m (A 2) fl) k) ?_
  refine own_go (B := s₁.setTop (mkF m 1 #[.val (.ref (A 2)), .val (.int fl)] [(.ref (A 2))])) (fun _ k => XS.aloadN X0.here hx rfl (hb hby d2_0) rfl rfl k) ?_
  obtain ⟨T1, X1, e1, st1⟩ := getF X0 hx hZ hown (host := "") (Or.inl (hw _ (List.mem_of_getElem? (i := 13) rfl))) Via.refl e0 (F_AUTH_flags.ext x0) (g := (mkF m 1 #[.val (.ref (A 2)), .val (.int fl)] [(.ref (A 2))])) rfl rfl (hb hby d2_1)
  refine own_go (B := T1.setTop (mkF m 4 #[.val (.ref (A 2)), .val (.int fl)] [(.int (0 : Int32))])) st1 ?_
  refine own_go (B := T1.setTop (mkF m 5 #[.val (.ref (A 2)), .val (.int fl)] [(.int (-1 : Int32)), (.int (0 : Int32))])) (fun _ k => XT.iconstV X1.here hx rfl (-1 : Int32) (hb hby d2_4) rfl k) ?_
  refine own_go (B := T1.setTop (mkF m 8 #[.val (.ref (A 2)), .val (.int fl)] [])) (fun _ k => XS.icmpNo X1.here hx rfl (hb hby d2_5) rfl (by decide) k) ?_
  refine own_go (B := T1.setTop (mkF m 9 #[.val (.ref (A 2)), .val (.int fl)] [(.ref (A 2))])) (fun _ k => XS.aloadN X1.here hx rfl (hb hby d2_8) rfl rfl k) ?_
  obtain ⟨T2, X2, e2, st2⟩ := getF X1 hx hZ hown (host := "") (Or.inl (hw _ (List.mem_of_getElem? (i := 13) rfl))) Via.refl e1 (F_AUTH_flags.ext x0) (g := (mkF m 9 #[.val (.ref (A 2)), .val (.int fl)] [(.ref (A 2))])) rfl rfl (hb hby d2_9)
  refine own_go (B := T2.setTop (mkF m 12 #[.val (.ref (A 2)), .val (.int fl)] [(.int (0 : Int32))])) st2 ?_
  refine own_go (B := T2.setTop (mkF m 13 #[.val (.ref (A 2)), .val (.int fl)] [(.int fl), (.int (0 : Int32))])) (fun _ k => XS.iloadN X2.here hx rfl (hb hby d2_12) rfl k) ?_
  refine own_go (B := T2.setTop (mkF m 16 #[.val (.ref (A 2)), .val (.int fl)] [])) (fun _ k => XS.icmpNo X2.here hx rfl (hb hby d2_13) rfl (teq kq13).2 k) ?_
  refine own_go (B := T2.setTop (mkF m 17 #[.val (.ref (A 2)), .val (.int fl)] [(.int (1 : Int32))])) (fun _ k => XT.iconstV X2.here hx rfl (1 : Int32) (hb hby d2_16) rfl k) ?_
  refine own_go (B := T2.setTop (mkF m 21 #[.val (.ref (A 2)), .val (.int fl)] [(.int (1 : Int32))])) (fun _ k => XS.goto X2.here hx rfl (pc0 := 17) (pc' := 21) rfl (hb hby d2_17) (by decide) (by decide) k) ?_
  exact own_ret X2 hx (t := .boolean) hrt rfl (Or.inl ⟨rfl, by simp, _, rfl⟩) (hb hby d2_21) hlk ⟨rfl, N0, e2⟩ (by decide) (by decide)
set_option maxRecDepth 65536 in
set_option maxHeartbeats 40000000 in
theorem rm2_28 (l : Launch) (Z : State) (a0 : Array Value) (hw : ∀ d ∈ tables_1, d.before a0 Z = true) (ws : List Jvm.Cond) (fl : Int32) (A : Nat → Addr) (hW : own_W Z A) (h0 : Heap) (x0 : Ext Z.heap h0) (kq13 : ¬ (0 : Int32) = fl) :
    own_Met l Z (⟨"com/example/ferrybus/ferrybus/codec/PacketType", "allows", "(I)Z"⟩ : MethodName) prog_32_method_5_code 2 (some .boolean) ws ({ frames := 0, cells := 0, slots := 0, locals := 0 } : Room) #[(.ref (A 2)), (.int fl)] h0 (fun v_ h_ L_ => v_ = some (.int (0 : Int32)) ∧ Fr Z.heap.size L_ ∧ h_ = h0) := by
  refine own_body (plainFor_of_name pn_1) fun p e s m below meth c s₁ hx hby hml hown hnm hlk hrt hZ X0 e0 => ?_
  have N0 := Fr.nil Z.heap.size
  have hW' := hW
  obtain ⟨-, -, -, -, -, -, -, -, -, -, -, -, -, -, -, -, -, -, -, -, -, -, -, -, -, -, -, -, -, -, -, -, F_AUTH_flags, -, -, -, -, -, -, -, -, -, -, -, -⟩ := hW'
  refine own_go (B := s₁.setTop (mkF m 0 #[.val (.ref (A 2)), .val (.int fl)] [])) (fun t k => castTop (ef_2 m (A 2) fl) k) ?_
  refine own_go (B := s₁.setTop (mkF m 1 #[.val (.ref (A 2)), .val (.int fl)] [(.ref (A 2))])) (fun _ k => XS.aloadN X0.here hx rfl (hb hby d2_0) rfl rfl k) ?_
  obtain ⟨T1, X1, e1, st1⟩ := getF X0 hx hZ hown (host := "") (Or.inl (hw _ (List.mem_of_getElem? (i := 13) rfl))) Via.refl e0 (F_AUTH_flags.ext x0) (g := (mkF m 1 #[.val (.ref (A 2)), .val (.int fl)] [(.ref (A 2))])) rfl rfl (hb hby d2_1)
  refine own_go (B := T1.setTop (mkF m 4 #[.val (.ref (A 2)), .val (.int fl)] [(.int (0 : Int32))])) st1 ?_
  refine own_go (B := T1.setTop (mkF m 5 #[.val (.ref (A 2)), .val (.int fl)] [(.int (-1 : Int32)), (.int (0 : Int32))])) (fun _ k => XT.iconstV X1.here hx rfl (-1 : Int32) (hb hby d2_4) rfl k) ?_
  refine own_go (B := T1.setTop (mkF m 8 #[.val (.ref (A 2)), .val (.int fl)] [])) (fun _ k => XS.icmpNo X1.here hx rfl (hb hby d2_5) rfl (by decide) k) ?_
  refine own_go (B := T1.setTop (mkF m 9 #[.val (.ref (A 2)), .val (.int fl)] [(.ref (A 2))])) (fun _ k => XS.aloadN X1.here hx rfl (hb hby d2_8) rfl rfl k) ?_
  obtain ⟨T2, X2, e2, st2⟩ := getF X1 hx hZ hown (host := "") (Or.inl (hw _ (List.mem_of_getElem? (i := 13) rfl))) Via.refl e1 (F_AUTH_flags.ext x0) (g := (mkF m 9 #[.val (.ref (A 2)), .val (.int fl)] [(.ref (A 2))])) rfl rfl (hb hby d2_9)
  refine own_go (B := T2.setTop (mkF m 12 #[.val (.ref (A 2)), .val (.int fl)] [(.int (0 : Int32))])) st2 ?_
  refine own_go (B := T2.setTop (mkF m 13 #[.val (.ref (A 2)), .val (.int fl)] [(.int fl), (.int (0 : Int32))])) (fun _ k => XS.iloadN X2.here hx rfl (hb hby d2_12) rfl k) ?_
  refine own_go (B := T2.setTop (mkF m 20 #[.val (.ref (A 2)), .val (.int fl)] [])) (fun _ k => XS.icmpYes X2.here hx rfl (pc0 := 13) (pc' := 20) rfl (hb hby d2_13) rfl (feq kq13).2 (by decide) (by decide) k) ?_
  refine own_go (B := T2.setTop (mkF m 21 #[.val (.ref (A 2)), .val (.int fl)] [(.int (0 : Int32))])) (fun _ k => XT.iconstV X2.here hx rfl (0 : Int32) (hb hby d2_20) rfl k) ?_
  exact own_ret X2 hx (t := .boolean) hrt rfl (Or.inl ⟨rfl, by simp, _, rfl⟩) (hb hby d2_21) hlk ⟨rfl, N0, e2⟩ (by decide) (by decide)
set_option maxRecDepth 65536 in
set_option maxHeartbeats 40000000 in
theorem rm0 (l : Launch) (Z : State) (a0 : Array Value) (hw : ∀ d ∈ tables_1, d.before a0 Z = true) (ws : List Jvm.Cond) (p0 p1 p2 : Int32) (A : Nat → Addr) (hW : own_W Z A) (h0 : Heap) (x0 : Ext Z.heap h0)  :
    own_Met l Z x code maxLocals ret ws room_1 #[(.int p0), (.int p1), (.int p2)] h0 (fun v_ h_ L_ => v_ = some (.int (1 : Int32)) ∧ Fr Z.heap.size L_) := by
  refine own_body (plainFor_of_name pn_0) fun p e s m below meth c s₁ hx hby hml hown hnm hlk hrt hZ X0 e0 => ?_
  have N0 := Fr.nil Z.heap.size
  have hW' := hW
  obtain ⟨-, E_CONNECT, -, E_CONNACK, -, E_AUTH, -, E_PUBREL, -, E_SUBACK, -, E_UNSUBSCRIBE, -, E_UNSUBACK, -, E_PUBACK, -, E_PINGREQ, -, E_PUBLISH, -, E_PUBREC, -, E_SUBSCRIBE, -, E_PUBCOMP, -, E_DISCONNECT, -, E_PINGRESP, -, -, -, -, -, -, -, -, -, -, -, -, -, -, -⟩ := hW'
  refine own_go (B := s₁.setTop (mkF m 0 #[.val (.int p0), .val (.int p1), .val (.int p2), .unset, .unset, .unset, .unset, .unset] [])) (fun t k => castTop (ef_0 m p0 p1 p2) k) ?_
  refine own_go (B := s₁.setTop (mkF m 1 #[.val (.int p0), .val (.int p1), .val (.int p2), .unset, .unset, .unset, .unset, .unset] [(.int p0)])) (fun _ k => XS.iloadN X0.here hx rfl (hb hby at_0) rfl k) ?_
  refine own_go (B := s₁.setTop (mkF m 3 #[.val (.int p0), .val (.int p1), .val (.int p2), .unset, .unset, .unset, .unset, .unset] [(.int (2147483647 : Int32)), (.int p0)])) (fun _ k => Jvm.Stand.ldcI X0 hx hown (mvT hZ (hw _ (List.mem_of_getElem? (i := 0) rfl))) (g := (mkF m 1 #[.val (.int p0), .val (.int p1), .val (.int p2), .unset, .unset, .unset, .unset, .unset] [(.int p0)])) rfl (hb hby at_1) k) ?_
  refine own_go (B := s₁.setTop (mkF m 4 #[.val (.int p0), .val (.int p1), .val (.int p2), .unset, .unset, .unset, .unset, .unset] [(.int (p0 &&& (2147483647 : Int32)))])) (fun _ k => XS.iand X0.here hx rfl (hb hby at_3) rfl k) ?_
  refine own_go (B := s₁.setTop (mkF m 6 #[.val (.int p0), .val (.int p1), .val (.int p2), .unset, .unset, .unset, .unset, .unset] [(.int (15 : Int32)), (.int (p0 &&& (2147483647 : Int32)))])) (fun _ k => XT.bipushV X0.here hx rfl (15 : Int32) (hb hby at_4) (by decide) k) ?_
  refine own_go (B := s₁.setTop (mkF m 7 #[.val (.int p0), .val (.int p1), .val (.int p2), .unset, .unset, .unset, .unset, .unset] [(.int ((p0 &&& (2147483647 : Int32)) % (15 : Int32)))])) (fun _ k => iremM (g := (mkF m 6 #[.val (.int p0), .val (.int p1), .val (.int p2), .unset, .unset, .unset, .unset, .unset] [(.int (15 : Int32)), (.int (p0 &&& (2147483647 : Int32)))])) X0 hx rfl (hb hby at_6) rfl (by decide) k) ?_
  refine own_go (B := s₁.setTop (mkF m 8 #[.val (.int p0), .val (.int p1), .val (.int p2), .val (.int ((p0 &&& (2147483647 : Int32)) % (15 : Int32))), .unset, .unset, .unset, .unset] [])) (fun _ k => XS.istoreN X0.here hx rfl (hb hby at_7) rfl (l' := #[.val (.int p0), .val (.int p1), .val (.int p2), .val (.int ((p0 &&& (2147483647 : Int32)) % (15 : Int32))), .unset, .unset, .unset, .unset]) rfl k) ?_
  obtain ⟨ip0, hip0⟩ : ∃ z : Int32, ((p0 &&& (2147483647 : Int32)) % (15 : Int32)) = z := ⟨_, rfl⟩
  rw [hip0]
  have hcs := own_c15 p0
  rw [hip0] at hcs
  rcases hcs with rfl | rfl | rfl | rfl | rfl | rfl | rfl | rfl | rfl | rfl | rfl | rfl | rfl | rfl | rfl
  · refine own_go (B := s₁.setTop (mkF m 9 #[.val (.int p0), .val (.int p1), .val (.int p2), .val (.int (0 : Int32)), .unset, .unset, .unset, .unset] [(.int (0 : Int32))])) (fun _ k => XS.iloadN X0.here hx rfl (hb hby at_8) rfl k) ?_
    obtain ⟨_, _, ⟨T1, L1, k1, n1⟩, -, X1, ⟨Lc1, hQ1, l1, y1, z1⟩, st1⟩ := Jvm.LawKit.callS X0 hx (y := (⟨"com/example/ferrybus/ferrybus/codec/PacketTypeAllowsPinLaw", "pick", "(I)Lcom/example/ferrybus/ferrybus/codec/PacketType;"⟩ : MethodName)) hown (mvT hZ (hw _ (List.mem_of_getElem? (i := 1) rfl))) (mvT hZ (hw _ (List.mem_of_getElem? (i := 2) rfl))) (mvT hZ (hw _ (List.mem_of_getElem? (i := 3) rfl))) (mvT hZ (hw _ (List.mem_of_getElem? (i := 4) rfl))) (by decide) (own_back (W := 0) (rm1_0 l Z a0 hw []  A hW h0 x0 ) hZ (hw _ (List.mem_of_getElem? (i := 4) rfl)) (hw _ (List.mem_of_getElem? (i := 3) rfl)) (by decide) (by decide)) (g := (mkF m 9 #[.val (.int p0), .val (.int p1), .val (.int p2), .val (.int (0 : Int32)), .unset, .unset, .unset, .unset] [(.int (0 : Int32))])) rfl (by rw [hml]; rfl) (argsL := [(.int (0 : Int32))]) (rest := []) (lenOf pd_0 rfl) rfl (by show 2 * 0 + _ ≤ _; exact Nat.le_of_eq rfl) (hb hby at_9) (fun _ _ => ⟨rfl, e0, (by decide : 0 + 0 ≤ _), (by decide : 0 + 0 ≤ _)⟩)
    dsimp only [Pt.U, Pt.locs, Pt.cells, Pt.slots] at X1 l1 y1 z1 st1 hQ1
    subst l1 y1 z1
    obtain ⟨rfl, N1q, e1⟩ := hQ1
    have N1 := Fr.app N0 N1q
    refine own_go (B := T1.setTop (mkF m 12 #[.val (.int p0), .val (.int p1), .val (.int p2), .val (.int (0 : Int32)), .unset, .unset, .unset, .unset] [(.ref (A 0))])) st1 ?_
    refine own_go (B := T1.setTop (mkF m 14 #[.val (.int p0), .val (.int p1), .val (.int p2), .val (.int (0 : Int32)), .val (.ref (A 0)), .unset, .unset, .unset] [])) (fun _ k => XS.astore X1.here hx rfl (hb hby at_12) rfl rfl (l' := #[.val (.int p0), .val (.int p1), .val (.int p2), .val (.int (0 : Int32)), .val (.ref (A 0)), .unset, .unset, .unset]) rfl k) ?_
    refine own_go (B := T1.setTop (mkF m 15 #[.val (.int p0), .val (.int p1), .val (.int p2), .val (.int (0 : Int32)), .val (.ref (A 0)), .unset, .unset, .unset] [(.int p2)])) (fun _ k => XS.iloadN X1.here hx rfl (hb hby at_14) rfl k) ?_
    refine own_go (B := T1.setTop (mkF m 16 #[.val (.int p0), .val (.int p1), .val (.int p2), .val (.int (0 : Int32)), .val (.ref (A 0)), .unset, .unset, .unset] [(.int (3 : Int32)), (.int p2)])) (fun _ k => XT.iconstV X1.here hx rfl (3 : Int32) (hb hby at_15) rfl k) ?_
    refine own_go (B := T1.setTop (mkF m 17 #[.val (.int p0), .val (.int p1), .val (.int p2), .val (.int (0 : Int32)), .val (.ref (A 0)), .unset, .unset, .unset] [(.int (p2 &&& (3 : Int32)))])) (fun _ k => XS.iand X1.here hx rfl (hb hby at_16) rfl k) ?_
    refine own_go (B := T1.setTop (mkF m 19 #[.val (.int p0), .val (.int p1), .val (.int p2), .val (.int (0 : Int32)), .val (.ref (A 0)), .val (.int (p2 &&& (3 : Int32))), .unset, .unset] [])) (fun _ k => XS.istore X1.here hx rfl (hb hby at_17) rfl (l' := #[.val (.int p0), .val (.int p1), .val (.int p2), .val (.int (0 : Int32)), .val (.ref (A 0)), .val (.int (p2 &&& (3 : Int32))), .unset, .unset]) rfl k) ?_
    have tail : ∀ fl : Int32, own_G p.tables e below s (fun v_ h_ L_ => v_ = some (.int (1 : Int32)) ∧ Fr Z.heap.size L_) room_1.cells room_1.slots (T1.setTop (mkF m 50 #[.val (.int p0), .val (.int p1), .val (.int p2), .val (.int (0 : Int32)), .val (.ref (A 0)), .val (.int (p2 &&& (3 : Int32))), .val (.int fl), .unset] [])) := by
      intro fl
      refine own_go (B := T1.setTop (mkF m 51 #[.val (.int p0), .val (.int p1), .val (.int p2), .val (.int (0 : Int32)), .val (.ref (A 0)), .val (.int (p2 &&& (3 : Int32))), .val (.int fl), .unset] [(.int (0 : Int32))])) (fun _ k => XS.iloadN X1.here hx rfl (hb hby at_50) rfl k) ?_
      refine own_go (B := T1.setTop (mkF m 52 #[.val (.int p0), .val (.int p1), .val (.int p2), .val (.int (0 : Int32)), .val (.ref (A 0)), .val (.int (p2 &&& (3 : Int32))), .val (.int fl), .unset] [(.int (2 : Int32)), (.int (0 : Int32))])) (fun _ k => XT.iconstV X1.here hx rfl (2 : Int32) (hb hby at_51) rfl k) ?_
      refine own_go (B := T1.setTop (mkF m 61 #[.val (.int p0), .val (.int p1), .val (.int p2), .val (.int (0 : Int32)), .val (.ref (A 0)), .val (.int (p2 &&& (3 : Int32))), .val (.int fl), .unset] [])) (fun _ k => XS.icmpYes X1.here hx rfl (pc0 := 52) (pc' := 61) rfl (hb hby at_52) rfl (by decide) (by decide) (by decide) k) ?_
      refine own_go (B := T1.setTop (mkF m 62 #[.val (.int p0), .val (.int p1), .val (.int p2), .val (.int (0 : Int32)), .val (.ref (A 0)), .val (.int (p2 &&& (3 : Int32))), .val (.int fl), .unset] [(.int (0 : Int32))])) (fun _ k => XS.iloadN X1.here hx rfl (hb hby at_61) rfl k) ?_
      refine own_go (B := T1.setTop (mkF m 63 #[.val (.int p0), .val (.int p1), .val (.int p2), .val (.int (0 : Int32)), .val (.ref (A 0)), .val (.int (p2 &&& (3 : Int32))), .val (.int fl), .unset] [(.int (5 : Int32)), (.int (0 : Int32))])) (fun _ k => XT.iconstV X1.here hx rfl (5 : Int32) (hb hby at_62) rfl k) ?_
      refine own_go (B := T1.setTop (mkF m 66 #[.val (.int p0), .val (.int p1), .val (.int p2), .val (.int (0 : Int32)), .val (.ref (A 0)), .val (.int (p2 &&& (3 : Int32))), .val (.int fl), .unset] [])) (fun _ k => XS.icmpNo X1.here hx rfl (hb hby at_63) rfl (by decide) k) ?_
      refine own_go (B := T1.setTop (mkF m 67 #[.val (.int p0), .val (.int p1), .val (.int p2), .val (.int (0 : Int32)), .val (.ref (A 0)), .val (.int (p2 &&& (3 : Int32))), .val (.int fl), .unset] [(.int (0 : Int32))])) (fun _ k => XS.iloadN X1.here hx rfl (hb hby at_66) rfl k) ?_
      refine own_go (B := T1.setTop (mkF m 69 #[.val (.int p0), .val (.int p1), .val (.int p2), .val (.int (0 : Int32)), .val (.ref (A 0)), .val (.int (p2 &&& (3 : Int32))), .val (.int fl), .unset] [(.int (7 : Int32)), (.int (0 : Int32))])) (fun _ k => XT.bipushV X1.here hx rfl (7 : Int32) (hb hby at_67) (by decide) k) ?_
      refine own_go (B := T1.setTop (mkF m 72 #[.val (.int p0), .val (.int p1), .val (.int p2), .val (.int (0 : Int32)), .val (.ref (A 0)), .val (.int (p2 &&& (3 : Int32))), .val (.int fl), .unset] [])) (fun _ k => XS.icmpNo X1.here hx rfl (hb hby at_69) rfl (by decide) k) ?_
      refine own_go (B := T1.setTop (mkF m 73 #[.val (.int p0), .val (.int p1), .val (.int p2), .val (.int (0 : Int32)), .val (.ref (A 0)), .val (.int (p2 &&& (3 : Int32))), .val (.int fl), .unset] [(.int (0 : Int32))])) (fun _ k => XS.iloadN X1.here hx rfl (hb hby at_72) rfl k) ?_
      refine own_go (B := T1.setTop (mkF m 75 #[.val (.int p0), .val (.int p1), .val (.int p2), .val (.int (0 : Int32)), .val (.ref (A 0)), .val (.int (p2 &&& (3 : Int32))), .val (.int fl), .unset] [(.int (9 : Int32)), (.int (0 : Int32))])) (fun _ k => XT.bipushV X1.here hx rfl (9 : Int32) (hb hby at_73) (by decide) k) ?_
      refine own_go (B := T1.setTop (mkF m 94 #[.val (.int p0), .val (.int p1), .val (.int p2), .val (.int (0 : Int32)), .val (.ref (A 0)), .val (.int (p2 &&& (3 : Int32))), .val (.int fl), .unset] [])) (fun _ k => XS.icmpYes X1.here hx rfl (pc0 := 75) (pc' := 94) rfl (hb hby at_75) rfl (by decide) (by decide) (by decide) k) ?_
      refine own_go (B := T1.setTop (mkF m 96 #[.val (.int p0), .val (.int p1), .val (.int p2), .val (.int (0 : Int32)), .val (.ref (A 0)), .val (.int (p2 &&& (3 : Int32))), .val (.int fl), .unset] [(.int fl)])) (fun _ k => XS.iload X1.here hx rfl (hb hby at_94) rfl k) ?_
      by_cases hc962 : fl = (0 : Int32)
      · refine own_go (B := T1.setTop (mkF m 99 #[.val (.int p0), .val (.int p1), .val (.int p2), .val (.int (0 : Int32)), .val (.ref (A 0)), .val (.int (p2 &&& (3 : Int32))), .val (.int fl), .unset] [])) (fun _ k => XS.ifNo X1.here hx rfl (hb hby at_96) rfl ((if0 _ _).trans (teq hc962).2) k) ?_
        refine own_go (B := T1.setTop (mkF m 100 #[.val (.int p0), .val (.int p1), .val (.int p2), .val (.int (0 : Int32)), .val (.ref (A 0)), .val (.int (p2 &&& (3 : Int32))), .val (.int fl), .unset] [(.int (1 : Int32))])) (fun _ k => XT.iconstV X1.here hx rfl (1 : Int32) (hb hby at_99) rfl k) ?_
        refine own_go (B := T1.setTop (mkF m 104 #[.val (.int p0), .val (.int p1), .val (.int p2), .val (.int (0 : Int32)), .val (.ref (A 0)), .val (.int (p2 &&& (3 : Int32))), .val (.int fl), .unset] [(.int (1 : Int32))])) (fun _ k => XS.goto X1.here hx rfl (pc0 := 100) (pc' := 104) rfl (hb hby at_100) (by decide) (by decide) k) ?_
        refine own_go (B := T1.setTop (mkF m 106 #[.val (.int p0), .val (.int p1), .val (.int p2), .val (.int (0 : Int32)), .val (.ref (A 0)), .val (.int (p2 &&& (3 : Int32))), .val (.int fl), .val (.int (1 : Int32))] [])) (fun _ k => XS.istore X1.here hx rfl (hb hby at_104) rfl (l' := #[.val (.int p0), .val (.int p1), .val (.int p2), .val (.int (0 : Int32)), .val (.ref (A 0)), .val (.int (p2 &&& (3 : Int32))), .val (.int fl), .val (.int (1 : Int32))]) rfl k) ?_
        refine own_go (B := T1.setTop (mkF m 108 #[.val (.int p0), .val (.int p1), .val (.int p2), .val (.int (0 : Int32)), .val (.ref (A 0)), .val (.int (p2 &&& (3 : Int32))), .val (.int fl), .val (.int (1 : Int32))] [(.ref (A 0))])) (fun _ k => XS.aload X1.here hx rfl (hb hby at_106) rfl rfl k) ?_
        refine own_go (B := T1.setTop (mkF m 110 #[.val (.int p0), .val (.int p1), .val (.int p2), .val (.int (0 : Int32)), .val (.ref (A 0)), .val (.int (p2 &&& (3 : Int32))), .val (.int fl), .val (.int (1 : Int32))] [(.int fl), (.ref (A 0))])) (fun _ k => XS.iload X1.here hx rfl (hb hby at_108) rfl k) ?_
        obtain ⟨cq3, kq3, q3a, q3b, q3c⟩ := isOf hZ e1 (E_CONNECT.ext x0)
        obtain ⟨_, _, ⟨T3, L3, k3, n3⟩, -, X3, ⟨Lc3, hQ3, l3, y3, z3⟩, st3⟩ := X1.virtualBack hx (y := (⟨"com/example/ferrybus/ferrybus/codec/PacketType", "allows", "(I)Z"⟩ : MethodName)) (z := (⟨"com/example/ferrybus/ferrybus/codec/PacketType", "allows", "(I)Z"⟩ : MethodName)) hown (mvT hZ (hw _ (List.mem_of_getElem? (i := 8) rfl))) (mvT hZ (hw _ (List.mem_of_getElem? (i := 9) rfl))) (notFace_of_selects (args := #[]) (mvT hZ (hw _ (List.mem_of_getElem? (i := 11) rfl)))) (mvT hZ (hw _ (List.mem_of_getElem? (i := 11) rfl))) (mvT hZ (hw _ (List.mem_of_getElem? (i := 10) rfl))) (by decide) (own_back (W := 0) (rm2_0 l Z a0 hw [] fl A hW h0 x0 hc962.symm) hZ (hw _ (List.mem_of_getElem? (i := 12) rfl)) (hw _ (List.mem_of_getElem? (i := 6) rfl)) (by decide) (by decide)) q3a q3c (g := (mkF m 110 #[.val (.int p0), .val (.int p1), .val (.int p2), .val (.int (0 : Int32)), .val (.ref (A 0)), .val (.int (p2 &&& (3 : Int32))), .val (.int fl), .val (.int (1 : Int32))] [(.int fl), (.ref (A 0))])) rfl (by rw [hml]; rfl) (Steps.refl _) (argsL := [(.int fl)]) (rest := []) (lenOf pd_1 rfl) rfl (by show 2 * 0 + _ ≤ _; exact Nat.le_of_eq rfl) (hb hby at_110) (fun _ _ => ⟨rfl, e1, (by decide : 0 + 0 ≤ _), (by decide : 0 + 0 ≤ _)⟩)
        dsimp only [Pt.U, Pt.locs, Pt.cells, Pt.slots] at X3 l3 y3 z3 st3 hQ3
        subst l3 y3 z3
        obtain ⟨rfl, N3q, e3⟩ := hQ3
        have N3 := Fr.app N1 N3q
        refine own_go (B := T3.setTop (mkF m 113 #[.val (.int p0), .val (.int p1), .val (.int p2), .val (.int (0 : Int32)), .val (.ref (A 0)), .val (.int (p2 &&& (3 : Int32))), .val (.int fl), .val (.int (1 : Int32))] [(.int (1 : Int32))])) (fun _ k => st3.trans k) ?_
        refine own_go (B := T3.setTop (mkF m 115 #[.val (.int p0), .val (.int p1), .val (.int p2), .val (.int (0 : Int32)), .val (.ref (A 0)), .val (.int (p2 &&& (3 : Int32))), .val (.int fl), .val (.int (1 : Int32))] [(.int (1 : Int32)), (.int (1 : Int32))])) (fun _ k => XS.iload X3.here hx rfl (hb hby at_113) rfl k) ?_
        refine own_go (B := T3.setTop (mkF m 118 #[.val (.int p0), .val (.int p1), .val (.int p2), .val (.int (0 : Int32)), .val (.ref (A 0)), .val (.int (p2 &&& (3 : Int32))), .val (.int fl), .val (.int (1 : Int32))] [])) (fun _ k => XS.icmpNo X3.here hx rfl (hb hby at_115) rfl (by decide) k) ?_
        refine own_go (B := T3.setTop (mkF m 119 #[.val (.int p0), .val (.int p1), .val (.int p2), .val (.int (0 : Int32)), .val (.ref (A 0)), .val (.int (p2 &&& (3 : Int32))), .val (.int fl), .val (.int (1 : Int32))] [(.int (1 : Int32))])) (fun _ k => XT.iconstV X3.here hx rfl (1 : Int32) (hb hby at_118) rfl k) ?_
        refine own_go (B := T3.setTop (mkF m 123 #[.val (.int p0), .val (.int p1), .val (.int p2), .val (.int (0 : Int32)), .val (.ref (A 0)), .val (.int (p2 &&& (3 : Int32))), .val (.int fl), .val (.int (1 : Int32))] [(.int (1 : Int32))])) (fun _ k => XS.goto X3.here hx rfl (pc0 := 119) (pc' := 123) rfl (hb hby at_119) (by decide) (by decide) k) ?_
        exact own_ret X3 hx (t := .boolean) hrt rfl (Or.inl ⟨rfl, by simp, _, rfl⟩) (hb hby at_123) hlk ⟨rfl, N3⟩ (by decide) (by decide)
      · refine own_go (B := T1.setTop (mkF m 103 #[.val (.int p0), .val (.int p1), .val (.int p2), .val (.int (0 : Int32)), .val (.ref (A 0)), .val (.int (p2 &&& (3 : Int32))), .val (.int fl), .unset] [])) (fun _ k => XS.ifYes X1.here hx rfl (pc0 := 96) (pc' := 103) rfl (hb hby at_96) rfl ((if0 _ _).trans (feq hc962).2) (by decide) (by decide) k) ?_
        refine own_go (B := T1.setTop (mkF m 104 #[.val (.int p0), .val (.int p1), .val (.int p2), .val (.int (0 : Int32)), .val (.ref (A 0)), .val (.int (p2 &&& (3 : Int32))), .val (.int fl), .unset] [(.int (0 : Int32))])) (fun _ k => XT.iconstV X1.here hx rfl (0 : Int32) (hb hby at_103) rfl k) ?_
        refine own_go (B := T1.setTop (mkF m 106 #[.val (.int p0), .val (.int p1), .val (.int p2), .val (.int (0 : Int32)), .val (.ref (A 0)), .val (.int (p2 &&& (3 : Int32))), .val (.int fl), .val (.int (0 : Int32))] [])) (fun _ k => XS.istore X1.here hx rfl (hb hby at_104) rfl (l' := #[.val (.int p0), .val (.int p1), .val (.int p2), .val (.int (0 : Int32)), .val (.ref (A 0)), .val (.int (p2 &&& (3 : Int32))), .val (.int fl), .val (.int (0 : Int32))]) rfl k) ?_
        refine own_go (B := T1.setTop (mkF m 108 #[.val (.int p0), .val (.int p1), .val (.int p2), .val (.int (0 : Int32)), .val (.ref (A 0)), .val (.int (p2 &&& (3 : Int32))), .val (.int fl), .val (.int (0 : Int32))] [(.ref (A 0))])) (fun _ k => XS.aload X1.here hx rfl (hb hby at_106) rfl rfl k) ?_
        refine own_go (B := T1.setTop (mkF m 110 #[.val (.int p0), .val (.int p1), .val (.int p2), .val (.int (0 : Int32)), .val (.ref (A 0)), .val (.int (p2 &&& (3 : Int32))), .val (.int fl), .val (.int (0 : Int32))] [(.int fl), (.ref (A 0))])) (fun _ k => XS.iload X1.here hx rfl (hb hby at_108) rfl k) ?_
        obtain ⟨cq4, kq4, q4a, q4b, q4c⟩ := isOf hZ e1 (E_CONNECT.ext x0)
        obtain ⟨_, _, ⟨T4, L4, k4, n4⟩, -, X4, ⟨Lc4, hQ4, l4, y4, z4⟩, st4⟩ := X1.virtualBack hx (y := (⟨"com/example/ferrybus/ferrybus/codec/PacketType", "allows", "(I)Z"⟩ : MethodName)) (z := (⟨"com/example/ferrybus/ferrybus/codec/PacketType", "allows", "(I)Z"⟩ : MethodName)) hown (mvT hZ (hw _ (List.mem_of_getElem? (i := 8) rfl))) (mvT hZ (hw _ (List.mem_of_getElem? (i := 9) rfl))) (notFace_of_selects (args := #[]) (mvT hZ (hw _ (List.mem_of_getElem? (i := 11) rfl)))) (mvT hZ (hw _ (List.mem_of_getElem? (i := 11) rfl))) (mvT hZ (hw _ (List.mem_of_getElem? (i := 10) rfl))) (by decide) (own_back (W := 0) (rm2_1 l Z a0 hw [] fl A hW h0 x0 (fun q => hc962 q.symm)) hZ (hw _ (List.mem_of_getElem? (i := 12) rfl)) (hw _ (List.mem_of_getElem? (i := 6) rfl)) (by decide) (by decide)) q4a q4c (g := (mkF m 110 #[.val (.int p0), .val (.int p1), .val (.int p2), .val (.int (0 : Int32)), .val (.ref (A 0)), .val (.int (p2 &&& (3 : Int32))), .val (.int fl), .val (.int (0 : Int32))] [(.int fl), (.ref (A 0))])) rfl (by rw [hml]; rfl) (Steps.refl _) (argsL := [(.int fl)]) (rest := []) (lenOf pd_1 rfl) rfl (by show 2 * 0 + _ ≤ _; exact Nat.le_of_eq rfl) (hb hby at_110) (fun _ _ => ⟨rfl, e1, (by decide : 0 + 0 ≤ _), (by decide : 0 + 0 ≤ _)⟩)
        dsimp only [Pt.U, Pt.locs, Pt.cells, Pt.slots] at X4 l4 y4 z4 st4 hQ4
        subst l4 y4 z4
        obtain ⟨rfl, N4q, e4⟩ := hQ4
        have N4 := Fr.app N1 N4q
        refine own_go (B := T4.setTop (mkF m 113 #[.val (.int p0), .val (.int p1), .val (.int p2), .val (.int (0 : Int32)), .val (.ref (A 0)), .val (.int (p2 &&& (3 : Int32))), .val (.int fl), .val (.int (0 : Int32))] [(.int (0 : Int32))])) (fun _ k => st4.trans k) ?_
        refine own_go (B := T4.setTop (mkF m 115 #[.val (.int p0), .val (.int p1), .val (.int p2), .val (.int (0 : Int32)), .val (.ref (A 0)), .val (.int (p2 &&& (3 : Int32))), .val (.int fl), .val (.int (0 : Int32))] [(.int (0 : Int32)), (.int (0 : Int32))])) (fun _ k => XS.iload X4.here hx rfl (hb hby at_113) rfl k) ?_
        refine own_go (B := T4.setTop (mkF m 118 #[.val (.int p0), .val (.int p1), .val (.int p2), .val (.int (0 : Int32)), .val (.ref (A 0)), .val (.int (p2 &&& (3 : Int32))), .val (.int fl), .val (.int (0 : Int32))] [])) (fun _ k => XS.icmpNo X4.here hx rfl (hb hby at_115) rfl (by decide) k) ?_
        refine own_go (B := T4.setTop (mkF m 119 #[.val (.int p0), .val (.int p1), .val (.int p2), .val (.int (0 : Int32)), .val (.ref (A 0)), .val (.int (p2 &&& (3 : Int32))), .val (.int fl), .val (.int (0 : Int32))] [(.int (1 : Int32))])) (fun _ k => XT.iconstV X4.here hx rfl (1 : Int32) (hb hby at_118) rfl k) ?_
        refine own_go (B := T4.setTop (mkF m 123 #[.val (.int p0), .val (.int p1), .val (.int p2), .val (.int (0 : Int32)), .val (.ref (A 0)), .val (.int (p2 &&& (3 : Int32))), .val (.int fl), .val (.int (0 : Int32))] [(.int (1 : Int32))])) (fun _ k => XS.goto X4.here hx rfl (pc0 := 119) (pc' := 123) rfl (hb hby at_119) (by decide) (by decide) k) ?_
        exact own_ret X4 hx (t := .boolean) hrt rfl (Or.inl ⟨rfl, by simp, _, rfl⟩) (hb hby at_123) hlk ⟨rfl, N4⟩ (by decide) (by decide)
    refine own_go (B := T1.setTop (mkF m 21 #[.val (.int p0), .val (.int p1), .val (.int p2), .val (.int (0 : Int32)), .val (.ref (A 0)), .val (.int (p2 &&& (3 : Int32))), .unset, .unset] [(.int (p2 &&& (3 : Int32)))])) (fun _ k => XS.iload X1.here hx rfl (hb hby at_19) rfl k) ?_
    by_cases hc215 : (p2 &&& (3 : Int32)) = (0 : Int32)
    · refine own_go (B := T1.setTop (mkF m 24 #[.val (.int p0), .val (.int p1), .val (.int p2), .val (.int (0 : Int32)), .val (.ref (A 0)), .val (.int (p2 &&& (3 : Int32))), .unset, .unset] [])) (fun _ k => XS.ifNo X1.here hx rfl (hb hby at_21) rfl ((if0 _ _).trans (teq hc215).2) k) ?_
      refine own_go (B := T1.setTop (mkF m 25 #[.val (.int p0), .val (.int p1), .val (.int p2), .val (.int (0 : Int32)), .val (.ref (A 0)), .val (.int (p2 &&& (3 : Int32))), .unset, .unset] [(.int p1)])) (fun _ k => XS.iloadN X1.here hx rfl (hb hby at_24) rfl k) ?_
      refine own_go (B := T1.setTop (mkF m 27 #[.val (.int p0), .val (.int p1), .val (.int p2), .val (.int (0 : Int32)), .val (.ref (A 0)), .val (.int (p2 &&& (3 : Int32))), .val (.int p1), .unset] [])) (fun _ k => XS.istore X1.here hx rfl (hb hby at_25) rfl (l' := #[.val (.int p0), .val (.int p1), .val (.int p2), .val (.int (0 : Int32)), .val (.ref (A 0)), .val (.int (p2 &&& (3 : Int32))), .val (.int p1), .unset]) rfl k) ?_
      refine own_go (B := T1.setTop (mkF m 50 #[.val (.int p0), .val (.int p1), .val (.int p2), .val (.int (0 : Int32)), .val (.ref (A 0)), .val (.int (p2 &&& (3 : Int32))), .val (.int p1), .unset] [])) (fun _ k => XS.goto X1.here hx rfl (pc0 := 27) (pc' := 50) rfl (hb hby at_27) (by decide) (by decide) k) ?_
      exact tail _
    · refine own_go (B := T1.setTop (mkF m 30 #[.val (.int p0), .val (.int p1), .val (.int p2), .val (.int (0 : Int32)), .val (.ref (A 0)), .val (.int (p2 &&& (3 : Int32))), .unset, .unset] [])) (fun _ k => XS.ifYes X1.here hx rfl (pc0 := 21) (pc' := 30) rfl (hb hby at_21) rfl ((if0 _ _).trans (feq hc215).2) (by decide) (by decide) k) ?_
      refine own_go (B := T1.setTop (mkF m 32 #[.val (.int p0), .val (.int p1), .val (.int p2), .val (.int (0 : Int32)), .val (.ref (A 0)), .val (.int (p2 &&& (3 : Int32))), .unset, .unset] [(.int (p2 &&& (3 : Int32)))])) (fun _ k => XS.iload X1.here hx rfl (hb hby at_30) rfl k) ?_
      refine own_go (B := T1.setTop (mkF m 33 #[.val (.int p0), .val (.int p1), .val (.int p2), .val (.int (0 : Int32)), .val (.ref (A 0)), .val (.int (p2 &&& (3 : Int32))), .unset, .unset] [(.int (1 : Int32)), (.int (p2 &&& (3 : Int32)))])) (fun _ k => XT.iconstV X1.here hx rfl (1 : Int32) (hb hby at_32) rfl k) ?_
      by_cases hc336 : (p2 &&& (3 : Int32)) = (1 : Int32)
      · refine own_go (B := T1.setTop (mkF m 36 #[.val (.int p0), .val (.int p1), .val (.int p2), .val (.int (0 : Int32)), .val (.ref (A 0)), .val (.int (p2 &&& (3 : Int32))), .unset, .unset] [])) (fun _ k => XS.icmpNo X1.here hx rfl (hb hby at_33) rfl (teq hc336).2 k) ?_
        refine own_go (B := T1.setTop (mkF m 37 #[.val (.int p0), .val (.int p1), .val (.int p2), .val (.int (0 : Int32)), .val (.ref (A 0)), .val (.int (p2 &&& (3 : Int32))), .unset, .unset] [(.int p1)])) (fun _ k => XS.iloadN X1.here hx rfl (hb hby at_36) rfl k) ?_
        refine own_go (B := T1.setTop (mkF m 39 #[.val (.int p0), .val (.int p1), .val (.int p2), .val (.int (0 : Int32)), .val (.ref (A 0)), .val (.int (p2 &&& (3 : Int32))), .unset, .unset] [(.int (15 : Int32)), (.int p1)])) (fun _ k => XT.bipushV X1.here hx rfl (15 : Int32) (hb hby at_37) (by decide) k) ?_
        refine own_go (B := T1.setTop (mkF m 40 #[.val (.int p0), .val (.int p1), .val (.int p2), .val (.int (0 : Int32)), .val (.ref (A 0)), .val (.int (p2 &&& (3 : Int32))), .unset, .unset] [(.int (p1 &&& (15 : Int32)))])) (fun _ k => XS.iand X1.here hx rfl (hb hby at_39) rfl k) ?_
        refine own_go (B := T1.setTop (mkF m 42 #[.val (.int p0), .val (.int p1), .val (.int p2), .val (.int (0 : Int32)), .val (.ref (A 0)), .val (.int (p2 &&& (3 : Int32))), .val (.int (p1 &&& (15 : Int32))), .unset] [])) (fun _ k => XS.istore X1.here hx rfl (hb hby at_40) rfl (l' := #[.val (.int p0), .val (.int p1), .val (.int p2), .val (.int (0 : Int32)), .val (.ref (A 0)), .val (.int (p2 &&& (3 : Int32))), .val (.int (p1 &&& (15 : Int32))), .unset]) rfl k) ?_
        refine own_go (B := T1.setTop (mkF m 50 #[.val (.int p0), .val (.int p1), .val (.int p2), .val (.int (0 : Int32)), .val (.ref (A 0)), .val (.int (p2 &&& (3 : Int32))), .val (.int (p1 &&& (15 : Int32))), .unset] [])) (fun _ k => XS.goto X1.here hx rfl (pc0 := 42) (pc' := 50) rfl (hb hby at_42) (by decide) (by decide) k) ?_
        exact tail _
      · refine own_go (B := T1.setTop (mkF m 45 #[.val (.int p0), .val (.int p1), .val (.int p2), .val (.int (0 : Int32)), .val (.ref (A 0)), .val (.int (p2 &&& (3 : Int32))), .unset, .unset] [])) (fun _ k => XS.icmpYes X1.here hx rfl (pc0 := 33) (pc' := 45) rfl (hb hby at_33) rfl (feq hc336).2 (by decide) (by decide) k) ?_
        refine own_go (B := T1.setTop (mkF m 46 #[.val (.int p0), .val (.int p1), .val (.int p2), .val (.int (0 : Int32)), .val (.ref (A 0)), .val (.int (p2 &&& (3 : Int32))), .unset, .unset] [(.int p1)])) (fun _ k => XS.iloadN X1.here hx rfl (hb hby at_45) rfl k) ?_
        refine own_go (B := T1.setTop (mkF m 47 #[.val (.int p0), .val (.int p1), .val (.int p2), .val (.int (0 : Int32)), .val (.ref (A 0)), .val (.int (p2 &&& (3 : Int32))), .unset, .unset] [(.int (3 : Int32)), (.int p1)])) (fun _ k => XT.iconstV X1.here hx rfl (3 : Int32) (hb hby at_46) rfl k) ?_
        refine own_go (B := T1.setTop (mkF m 48 #[.val (.int p0), .val (.int p1), .val (.int p2), .val (.int (0 : Int32)), .val (.ref (A 0)), .val (.int (p2 &&& (3 : Int32))), .unset, .unset] [(.int (p1 &&& (3 : Int32)))])) (fun _ k => XS.iand X1.here hx rfl (hb hby at_47) rfl k) ?_
        refine own_go (B := T1.setTop (mkF m 50 #[.val (.int p0), .val (.int p1), .val (.int p2), .val (.int (0 : Int32)), .val (.ref (A 0)), .val (.int (p2 &&& (3 : Int32))), .val (.int (p1 &&& (3 : Int32))), .unset] [])) (fun _ k => XS.istore X1.here hx rfl (hb hby at_48) rfl (l' := #[.val (.int p0), .val (.int p1), .val (.int p2), .val (.int (0 : Int32)), .val (.ref (A 0)), .val (.int (p2 &&& (3 : Int32))), .val (.int (p1 &&& (3 : Int32))), .unset]) rfl k) ?_
        exact tail _
  · refine own_go (B := s₁.setTop (mkF m 9 #[.val (.int p0), .val (.int p1), .val (.int p2), .val (.int (1 : Int32)), .unset, .unset, .unset, .unset] [(.int (1 : Int32))])) (fun _ k => XS.iloadN X0.here hx rfl (hb hby at_8) rfl k) ?_
    obtain ⟨_, _, ⟨T7, L7, k7, n7⟩, -, X7, ⟨Lc7, hQ7, l7, y7, z7⟩, st7⟩ := Jvm.LawKit.callS X0 hx (y := (⟨"com/example/ferrybus/ferrybus/codec/PacketTypeAllowsPinLaw", "pick", "(I)Lcom/example/ferrybus/ferrybus/codec/PacketType;"⟩ : MethodName)) hown (mvT hZ (hw _ (List.mem_of_getElem? (i := 1) rfl))) (mvT hZ (hw _ (List.mem_of_getElem? (i := 2) rfl))) (mvT hZ (hw _ (List.mem_of_getElem? (i := 3) rfl))) (mvT hZ (hw _ (List.mem_of_getElem? (i := 4) rfl))) (by decide) (own_back (W := 0) (rm1_1 l Z a0 hw []  A hW h0 x0 ) hZ (hw _ (List.mem_of_getElem? (i := 4) rfl)) (hw _ (List.mem_of_getElem? (i := 3) rfl)) (by decide) (by decide)) (g := (mkF m 9 #[.val (.int p0), .val (.int p1), .val (.int p2), .val (.int (1 : Int32)), .unset, .unset, .unset, .unset] [(.int (1 : Int32))])) rfl (by rw [hml]; rfl) (argsL := [(.int (1 : Int32))]) (rest := []) (lenOf pd_0 rfl) rfl (by show 2 * 0 + _ ≤ _; exact Nat.le_of_eq rfl) (hb hby at_9) (fun _ _ => ⟨rfl, e0, (by decide : 0 + 0 ≤ _), (by decide : 0 + 0 ≤ _)⟩)
    dsimp only [Pt.U, Pt.locs, Pt.cells, Pt.slots] at X7 l7 y7 z7 st7 hQ7
    subst l7 y7 z7
    obtain ⟨rfl, N7q, e7⟩ := hQ7
    have N7 := Fr.app N0 N7q
    refine own_go (B := T7.setTop (mkF m 12 #[.val (.int p0), .val (.int p1), .val (.int p2), .val (.int (1 : Int32)), .unset, .unset, .unset, .unset] [(.ref (A 1))])) st7 ?_
    refine own_go (B := T7.setTop (mkF m 14 #[.val (.int p0), .val (.int p1), .val (.int p2), .val (.int (1 : Int32)), .val (.ref (A 1)), .unset, .unset, .unset] [])) (fun _ k => XS.astore X7.here hx rfl (hb hby at_12) rfl rfl (l' := #[.val (.int p0), .val (.int p1), .val (.int p2), .val (.int (1 : Int32)), .val (.ref (A 1)), .unset, .unset, .unset]) rfl k) ?_
    refine own_go (B := T7.setTop (mkF m 15 #[.val (.int p0), .val (.int p1), .val (.int p2), .val (.int (1 : Int32)), .val (.ref (A 1)), .unset, .unset, .unset] [(.int p2)])) (fun _ k => XS.iloadN X7.here hx rfl (hb hby at_14) rfl k) ?_
    refine own_go (B := T7.setTop (mkF m 16 #[.val (.int p0), .val (.int p1), .val (.int p2), .val (.int (1 : Int32)), .val (.ref (A 1)), .unset, .unset, .unset] [(.int (3 : Int32)), (.int p2)])) (fun _ k => XT.iconstV X7.here hx rfl (3 : Int32) (hb hby at_15) rfl k) ?_
    refine own_go (B := T7.setTop (mkF m 17 #[.val (.int p0), .val (.int p1), .val (.int p2), .val (.int (1 : Int32)), .val (.ref (A 1)), .unset, .unset, .unset] [(.int (p2 &&& (3 : Int32)))])) (fun _ k => XS.iand X7.here hx rfl (hb hby at_16) rfl k) ?_
    refine own_go (B := T7.setTop (mkF m 19 #[.val (.int p0), .val (.int p1), .val (.int p2), .val (.int (1 : Int32)), .val (.ref (A 1)), .val (.int (p2 &&& (3 : Int32))), .unset, .unset] [])) (fun _ k => XS.istore X7.here hx rfl (hb hby at_17) rfl (l' := #[.val (.int p0), .val (.int p1), .val (.int p2), .val (.int (1 : Int32)), .val (.ref (A 1)), .val (.int (p2 &&& (3 : Int32))), .unset, .unset]) rfl k) ?_
    have tail : ∀ fl : Int32, own_G p.tables e below s (fun v_ h_ L_ => v_ = some (.int (1 : Int32)) ∧ Fr Z.heap.size L_) room_1.cells room_1.slots (T7.setTop (mkF m 50 #[.val (.int p0), .val (.int p1), .val (.int p2), .val (.int (1 : Int32)), .val (.ref (A 1)), .val (.int (p2 &&& (3 : Int32))), .val (.int fl), .unset] [])) := by
      intro fl
      refine own_go (B := T7.setTop (mkF m 51 #[.val (.int p0), .val (.int p1), .val (.int p2), .val (.int (1 : Int32)), .val (.ref (A 1)), .val (.int (p2 &&& (3 : Int32))), .val (.int fl), .unset] [(.int (1 : Int32))])) (fun _ k => XS.iloadN X7.here hx rfl (hb hby at_50) rfl k) ?_
      refine own_go (B := T7.setTop (mkF m 52 #[.val (.int p0), .val (.int p1), .val (.int p2), .val (.int (1 : Int32)), .val (.ref (A 1)), .val (.int (p2 &&& (3 : Int32))), .val (.int fl), .unset] [(.int (2 : Int32)), (.int (1 : Int32))])) (fun _ k => XT.iconstV X7.here hx rfl (2 : Int32) (hb hby at_51) rfl k) ?_
      refine own_go (B := T7.setTop (mkF m 61 #[.val (.int p0), .val (.int p1), .val (.int p2), .val (.int (1 : Int32)), .val (.ref (A 1)), .val (.int (p2 &&& (3 : Int32))), .val (.int fl), .unset] [])) (fun _ k => XS.icmpYes X7.here hx rfl (pc0 := 52) (pc' := 61) rfl (hb hby at_52) rfl (by decide) (by decide) (by decide) k) ?_
      refine own_go (B := T7.setTop (mkF m 62 #[.val (.int p0), .val (.int p1), .val (.int p2), .val (.int (1 : Int32)), .val (.ref (A 1)), .val (.int (p2 &&& (3 : Int32))), .val (.int fl), .unset] [(.int (1 : Int32))])) (fun _ k => XS.iloadN X7.here hx rfl (hb hby at_61) rfl k) ?_
      refine own_go (B := T7.setTop (mkF m 63 #[.val (.int p0), .val (.int p1), .val (.int p2), .val (.int (1 : Int32)), .val (.ref (A 1)), .val (.int (p2 &&& (3 : Int32))), .val (.int fl), .unset] [(.int (5 : Int32)), (.int (1 : Int32))])) (fun _ k => XT.iconstV X7.here hx rfl (5 : Int32) (hb hby at_62) rfl k) ?_
      refine own_go (B := T7.setTop (mkF m 66 #[.val (.int p0), .val (.int p1), .val (.int p2), .val (.int (1 : Int32)), .val (.ref (A 1)), .val (.int (p2 &&& (3 : Int32))), .val (.int fl), .unset] [])) (fun _ k => XS.icmpNo X7.here hx rfl (hb hby at_63) rfl (by decide) k) ?_
      refine own_go (B := T7.setTop (mkF m 67 #[.val (.int p0), .val (.int p1), .val (.int p2), .val (.int (1 : Int32)), .val (.ref (A 1)), .val (.int (p2 &&& (3 : Int32))), .val (.int fl), .unset] [(.int (1 : Int32))])) (fun _ k => XS.iloadN X7.here hx rfl (hb hby at_66) rfl k) ?_
      refine own_go (B := T7.setTop (mkF m 69 #[.val (.int p0), .val (.int p1), .val (.int p2), .val (.int (1 : Int32)), .val (.ref (A 1)), .val (.int (p2 &&& (3 : Int32))), .val (.int fl), .unset] [(.int (7 : Int32)), (.int (1 : Int32))])) (fun _ k => XT.bipushV X7.here hx rfl (7 : Int32) (hb hby at_67) (by decide) k) ?_
      refine own_go (B := T7.setTop (mkF m 72 #[.val (.int p0), .val (.int p1), .val (.int p2), .val (.int (1 : Int32)), .val (.ref (A 1)), .val (.int (p2 &&& (3 : Int32))), .val (.int fl), .unset] [])) (fun _ k => XS.icmpNo X7.here hx rfl (hb hby at_69) rfl (by decide) k) ?_
      refine own_go (B := T7.setTop (mkF m 73 #[.val (.int p0), .val (.int p1), .val (.int p2), .val (.int (1 : Int32)), .val (.ref (A 1)), .val (.int (p2 &&& (3 : Int32))), .val (.int fl), .unset] [(.int (1 : Int32))])) (fun _ k => XS.iloadN X7.here hx rfl (hb hby at_72) rfl k) ?_
      refine own_go (B := T7.setTop (mkF m 75 #[.val (.int p0), .val (.int p1), .val (.int p2), .val (.int (1 : Int32)), .val (.ref (A 1)), .val (.int (p2 &&& (3 : Int32))), .val (.int fl), .unset] [(.int (9 : Int32)), (.int (1 : Int32))])) (fun _ k => XT.bipushV X7.here hx rfl (9 : Int32) (hb hby at_73) (by decide) k) ?_
      refine own_go (B := T7.setTop (mkF m 94 #[.val (.int p0), .val (.int p1), .val (.int p2), .val (.int (1 : Int32)), .val (.ref (A 1)), .val (.int (p2 &&& (3 : Int32))), .val (.int fl), .unset] [])) (fun _ k => XS.icmpYes X7.here hx rfl (pc0 := 75) (pc' := 94) rfl (hb hby at_75) rfl (by decide) (by decide) (by decide) k) ?_
      refine own_go (B := T7.setTop (mkF m 96 #[.val (.int p0), .val (.int p1), .val (.int p2), .val (.int (1 : Int32)), .val (.ref (A 1)), .val (.int (p2 &&& (3 : Int32))), .val (.int fl), .unset] [(.int fl)])) (fun _ k => XS.iload X7.here hx rfl (hb hby at_94) rfl k) ?_
      by_cases hc968 : fl = (0 : Int32)
      · refine own_go (B := T7.setTop (mkF m 99 #[.val (.int p0), .val (.int p1), .val (.int p2), .val (.int (1 : Int32)), .val (.ref (A 1)), .val (.int (p2 &&& (3 : Int32))), .val (.int fl), .unset] [])) (fun _ k => XS.ifNo X7.here hx rfl (hb hby at_96) rfl ((if0 _ _).trans (teq hc968).2) k) ?_
        refine own_go (B := T7.setTop (mkF m 100 #[.val (.int p0), .val (.int p1), .val (.int p2), .val (.int (1 : Int32)), .val (.ref (A 1)), .val (.int (p2 &&& (3 : Int32))), .val (.int fl), .unset] [(.int (1 : Int32))])) (fun _ k => XT.iconstV X7.here hx rfl (1 : Int32) (hb hby at_99) rfl k) ?_
        refine own_go (B := T7.setTop (mkF m 104 #[.val (.int p0), .val (.int p1), .val (.int p2), .val (.int (1 : Int32)), .val (.ref (A 1)), .val (.int (p2 &&& (3 : Int32))), .val (.int fl), .unset] [(.int (1 : Int32))])) (fun _ k => XS.goto X7.here hx rfl (pc0 := 100) (pc' := 104) rfl (hb hby at_100) (by decide) (by decide) k) ?_
        refine own_go (B := T7.setTop (mkF m 106 #[.val (.int p0), .val (.int p1), .val (.int p2), .val (.int (1 : Int32)), .val (.ref (A 1)), .val (.int (p2 &&& (3 : Int32))), .val (.int fl), .val (.int (1 : Int32))] [])) (fun _ k => XS.istore X7.here hx rfl (hb hby at_104) rfl (l' := #[.val (.int p0), .val (.int p1), .val (.int p2), .val (.int (1 : Int32)), .val (.ref (A 1)), .val (.int (p2 &&& (3 : Int32))), .val (.int fl), .val (.int (1 : Int32))]) rfl k) ?_
        refine own_go (B := T7.setTop (mkF m 108 #[.val (.int p0), .val (.int p1), .val (.int p2), .val (.int (1 : Int32)), .val (.ref (A 1)), .val (.int (p2 &&& (3 : Int32))), .val (.int fl), .val (.int (1 : Int32))] [(.ref (A 1))])) (fun _ k => XS.aload X7.here hx rfl (hb hby at_106) rfl rfl k) ?_
        refine own_go (B := T7.setTop (mkF m 110 #[.val (.int p0), .val (.int p1), .val (.int p2), .val (.int (1 : Int32)), .val (.ref (A 1)), .val (.int (p2 &&& (3 : Int32))), .val (.int fl), .val (.int (1 : Int32))] [(.int fl), (.ref (A 1))])) (fun _ k => XS.iload X7.here hx rfl (hb hby at_108) rfl k) ?_
        obtain ⟨cq9, kq9, q9a, q9b, q9c⟩ := isOf hZ e7 (E_CONNACK.ext x0)
        obtain ⟨_, _, ⟨T9, L9, k9, n9⟩, -, X9, ⟨Lc9, hQ9, l9, y9, z9⟩, st9⟩ := X7.virtualBack hx (y := (⟨"com/example/ferrybus/ferrybus/codec/PacketType", "allows", "(I)Z"⟩ : MethodName)) (z := (⟨"com/example/ferrybus/ferrybus/codec/PacketType", "allows", "(I)Z"⟩ : MethodName)) hown (mvT hZ (hw _ (List.mem_of_getElem? (i := 8) rfl))) (mvT hZ (hw _ (List.mem_of_getElem? (i := 9) rfl))) (notFace_of_selects (args := #[]) (mvT hZ (hw _ (List.mem_of_getElem? (i := 11) rfl)))) (mvT hZ (hw _ (List.mem_of_getElem? (i := 11) rfl))) (mvT hZ (hw _ (List.mem_of_getElem? (i := 10) rfl))) (by decide) (own_back (W := 0) (rm2_2 l Z a0 hw [] fl A hW h0 x0 hc968.symm) hZ (hw _ (List.mem_of_getElem? (i := 12) rfl)) (hw _ (List.mem_of_getElem? (i := 6) rfl)) (by decide) (by decide)) q9a q9c (g := (mkF m 110 #[.val (.int p0), .val (.int p1), .val (.int p2), .val (.int (1 : Int32)), .val (.ref (A 1)), .val (.int (p2 &&& (3 : Int32))), .val (.int fl), .val (.int (1 : Int32))] [(.int fl), (.ref (A 1))])) rfl (by rw [hml]; rfl) (Steps.refl _) (argsL := [(.int fl)]) (rest := []) (lenOf pd_1 rfl) rfl (by show 2 * 0 + _ ≤ _; exact Nat.le_of_eq rfl) (hb hby at_110) (fun _ _ => ⟨rfl, e7, (by decide : 0 + 0 ≤ _), (by decide : 0 + 0 ≤ _)⟩)
        dsimp only [Pt.U, Pt.locs, Pt.cells, Pt.slots] at X9 l9 y9 z9 st9 hQ9
        subst l9 y9 z9
        obtain ⟨rfl, N9q, e9⟩ := hQ9
        have N9 := Fr.app N7 N9q
        refine own_go (B := T9.setTop (mkF m 113 #[.val (.int p0), .val (.int p1), .val (.int p2), .val (.int (1 : Int32)), .val (.ref (A 1)), .val (.int (p2 &&& (3 : Int32))), .val (.int fl), .val (.int (1 : Int32))] [(.int (1 : Int32))])) (fun _ k => st9.trans k) ?_
        refine own_go (B := T9.setTop (mkF m 115 #[.val (.int p0), .val (.int p1), .val (.int p2), .val (.int (1 : Int32)), .val (.ref (A 1)), .val (.int (p2 &&& (3 : Int32))), .val (.int fl), .val (.int (1 : Int32))] [(.int (1 : Int32)), (.int (1 : Int32))])) (fun _ k => XS.iload X9.here hx rfl (hb hby at_113) rfl k) ?_
        refine own_go (B := T9.setTop (mkF m 118 #[.val (.int p0), .val (.int p1), .val (.int p2), .val (.int (1 : Int32)), .val (.ref (A 1)), .val (.int (p2 &&& (3 : Int32))), .val (.int fl), .val (.int (1 : Int32))] [])) (fun _ k => XS.icmpNo X9.here hx rfl (hb hby at_115) rfl (by decide) k) ?_
        refine own_go (B := T9.setTop (mkF m 119 #[.val (.int p0), .val (.int p1), .val (.int p2), .val (.int (1 : Int32)), .val (.ref (A 1)), .val (.int (p2 &&& (3 : Int32))), .val (.int fl), .val (.int (1 : Int32))] [(.int (1 : Int32))])) (fun _ k => XT.iconstV X9.here hx rfl (1 : Int32) (hb hby at_118) rfl k) ?_
        refine own_go (B := T9.setTop (mkF m 123 #[.val (.int p0), .val (.int p1), .val (.int p2), .val (.int (1 : Int32)), .val (.ref (A 1)), .val (.int (p2 &&& (3 : Int32))), .val (.int fl), .val (.int (1 : Int32))] [(.int (1 : Int32))])) (fun _ k => XS.goto X9.here hx rfl (pc0 := 119) (pc' := 123) rfl (hb hby at_119) (by decide) (by decide) k) ?_
        exact own_ret X9 hx (t := .boolean) hrt rfl (Or.inl ⟨rfl, by simp, _, rfl⟩) (hb hby at_123) hlk ⟨rfl, N9⟩ (by decide) (by decide)
      · refine own_go (B := T7.setTop (mkF m 103 #[.val (.int p0), .val (.int p1), .val (.int p2), .val (.int (1 : Int32)), .val (.ref (A 1)), .val (.int (p2 &&& (3 : Int32))), .val (.int fl), .unset] [])) (fun _ k => XS.ifYes X7.here hx rfl (pc0 := 96) (pc' := 103) rfl (hb hby at_96) rfl ((if0 _ _).trans (feq hc968).2) (by decide) (by decide) k) ?_
        refine own_go (B := T7.setTop (mkF m 104 #[.val (.int p0), .val (.int p1), .val (.int p2), .val (.int (1 : Int32)), .val (.ref (A 1)), .val (.int (p2 &&& (3 : Int32))), .val (.int fl), .unset] [(.int (0 : Int32))])) (fun _ k => XT.iconstV X7.here hx rfl (0 : Int32) (hb hby at_103) rfl k) ?_
        refine own_go (B := T7.setTop (mkF m 106 #[.val (.int p0), .val (.int p1), .val (.int p2), .val (.int (1 : Int32)), .val (.ref (A 1)), .val (.int (p2 &&& (3 : Int32))), .val (.int fl), .val (.int (0 : Int32))] [])) (fun _ k => XS.istore X7.here hx rfl (hb hby at_104) rfl (l' := #[.val (.int p0), .val (.int p1), .val (.int p2), .val (.int (1 : Int32)), .val (.ref (A 1)), .val (.int (p2 &&& (3 : Int32))), .val (.int fl), .val (.int (0 : Int32))]) rfl k) ?_
        refine own_go (B := T7.setTop (mkF m 108 #[.val (.int p0), .val (.int p1), .val (.int p2), .val (.int (1 : Int32)), .val (.ref (A 1)), .val (.int (p2 &&& (3 : Int32))), .val (.int fl), .val (.int (0 : Int32))] [(.ref (A 1))])) (fun _ k => XS.aload X7.here hx rfl (hb hby at_106) rfl rfl k) ?_
        refine own_go (B := T7.setTop (mkF m 110 #[.val (.int p0), .val (.int p1), .val (.int p2), .val (.int (1 : Int32)), .val (.ref (A 1)), .val (.int (p2 &&& (3 : Int32))), .val (.int fl), .val (.int (0 : Int32))] [(.int fl), (.ref (A 1))])) (fun _ k => XS.iload X7.here hx rfl (hb hby at_108) rfl k) ?_
        obtain ⟨cq10, kq10, q10a, q10b, q10c⟩ := isOf hZ e7 (E_CONNACK.ext x0)
        obtain ⟨_, _, ⟨T10, L10, k10, n10⟩, -, X10, ⟨Lc10, hQ10, l10, y10, z10⟩, st10⟩ := X7.virtualBack hx (y := (⟨"com/example/ferrybus/ferrybus/codec/PacketType", "allows", "(I)Z"⟩ : MethodName)) (z := (⟨"com/example/ferrybus/ferrybus/codec/PacketType", "allows", "(I)Z"⟩ : MethodName)) hown (mvT hZ (hw _ (List.mem_of_getElem? (i := 8) rfl))) (mvT hZ (hw _ (List.mem_of_getElem? (i := 9) rfl))) (notFace_of_selects (args := #[]) (mvT hZ (hw _ (List.mem_of_getElem? (i := 11) rfl)))) (mvT hZ (hw _ (List.mem_of_getElem? (i := 11) rfl))) (mvT hZ (hw _ (List.mem_of_getElem? (i := 10) rfl))) (by decide) (own_back (W := 0) (rm2_3 l Z a0 hw [] fl A hW h0 x0 (fun q => hc968 q.symm)) hZ (hw _ (List.mem_of_getElem? (i := 12) rfl)) (hw _ (List.mem_of_getElem? (i := 6) rfl)) (by decide) (by decide)) q10a q10c (g := (mkF m 110 #[.val (.int p0), .val (.int p1), .val (.int p2), .val (.int (1 : Int32)), .val (.ref (A 1)), .val (.int (p2 &&& (3 : Int32))), .val (.int fl), .val (.int (0 : Int32))] [(.int fl), (.ref (A 1))])) rfl (by rw [hml]; rfl) (Steps.refl _) (argsL := [(.int fl)]) (rest := []) (lenOf pd_1 rfl) rfl (by show 2 * 0 + _ ≤ _; exact Nat.le_of_eq rfl) (hb hby at_110) (fun _ _ => ⟨rfl, e7, (by decide : 0 + 0 ≤ _), (by decide : 0 + 0 ≤ _)⟩)
        dsimp only [Pt.U, Pt.locs, Pt.cells, Pt.slots] at X10 l10 y10 z10 st10 hQ10
        subst l10 y10 z10
        obtain ⟨rfl, N10q, e10⟩ := hQ10
        have N10 := Fr.app N7 N10q
        refine own_go (B := T10.setTop (mkF m 113 #[.val (.int p0), .val (.int p1), .val (.int p2), .val (.int (1 : Int32)), .val (.ref (A 1)), .val (.int (p2 &&& (3 : Int32))), .val (.int fl), .val (.int (0 : Int32))] [(.int (0 : Int32))])) (fun _ k => st10.trans k) ?_
        refine own_go (B := T10.setTop (mkF m 115 #[.val (.int p0), .val (.int p1), .val (.int p2), .val (.int (1 : Int32)), .val (.ref (A 1)), .val (.int (p2 &&& (3 : Int32))), .val (.int fl), .val (.int (0 : Int32))] [(.int (0 : Int32)), (.int (0 : Int32))])) (fun _ k => XS.iload X10.here hx rfl (hb hby at_113) rfl k) ?_
        refine own_go (B := T10.setTop (mkF m 118 #[.val (.int p0), .val (.int p1), .val (.int p2), .val (.int (1 : Int32)), .val (.ref (A 1)), .val (.int (p2 &&& (3 : Int32))), .val (.int fl), .val (.int (0 : Int32))] [])) (fun _ k => XS.icmpNo X10.here hx rfl (hb hby at_115) rfl (by decide) k) ?_
        refine own_go (B := T10.setTop (mkF m 119 #[.val (.int p0), .val (.int p1), .val (.int p2), .val (.int (1 : Int32)), .val (.ref (A 1)), .val (.int (p2 &&& (3 : Int32))), .val (.int fl), .val (.int (0 : Int32))] [(.int (1 : Int32))])) (fun _ k => XT.iconstV X10.here hx rfl (1 : Int32) (hb hby at_118) rfl k) ?_
        refine own_go (B := T10.setTop (mkF m 123 #[.val (.int p0), .val (.int p1), .val (.int p2), .val (.int (1 : Int32)), .val (.ref (A 1)), .val (.int (p2 &&& (3 : Int32))), .val (.int fl), .val (.int (0 : Int32))] [(.int (1 : Int32))])) (fun _ k => XS.goto X10.here hx rfl (pc0 := 119) (pc' := 123) rfl (hb hby at_119) (by decide) (by decide) k) ?_
        exact own_ret X10 hx (t := .boolean) hrt rfl (Or.inl ⟨rfl, by simp, _, rfl⟩) (hb hby at_123) hlk ⟨rfl, N10⟩ (by decide) (by decide)
    refine own_go (B := T7.setTop (mkF m 21 #[.val (.int p0), .val (.int p1), .val (.int p2), .val (.int (1 : Int32)), .val (.ref (A 1)), .val (.int (p2 &&& (3 : Int32))), .unset, .unset] [(.int (p2 &&& (3 : Int32)))])) (fun _ k => XS.iload X7.here hx rfl (hb hby at_19) rfl k) ?_
    by_cases hc2111 : (p2 &&& (3 : Int32)) = (0 : Int32)
    · refine own_go (B := T7.setTop (mkF m 24 #[.val (.int p0), .val (.int p1), .val (.int p2), .val (.int (1 : Int32)), .val (.ref (A 1)), .val (.int (p2 &&& (3 : Int32))), .unset, .unset] [])) (fun _ k => XS.ifNo X7.here hx rfl (hb hby at_21) rfl ((if0 _ _).trans (teq hc2111).2) k) ?_
      refine own_go (B := T7.setTop (mkF m 25 #[.val (.int p0), .val (.int p1), .val (.int p2), .val (.int (1 : Int32)), .val (.ref (A 1)), .val (.int (p2 &&& (3 : Int32))), .unset, .unset] [(.int p1)])) (fun _ k => XS.iloadN X7.here hx rfl (hb hby at_24) rfl k) ?_
      refine own_go (B := T7.setTop (mkF m 27 #[.val (.int p0), .val (.int p1), .val (.int p2), .val (.int (1 : Int32)), .val (.ref (A 1)), .val (.int (p2 &&& (3 : Int32))), .val (.int p1), .unset] [])) (fun _ k => XS.istore X7.here hx rfl (hb hby at_25) rfl (l' := #[.val (.int p0), .val (.int p1), .val (.int p2), .val (.int (1 : Int32)), .val (.ref (A 1)), .val (.int (p2 &&& (3 : Int32))), .val (.int p1), .unset]) rfl k) ?_
      refine own_go (B := T7.setTop (mkF m 50 #[.val (.int p0), .val (.int p1), .val (.int p2), .val (.int (1 : Int32)), .val (.ref (A 1)), .val (.int (p2 &&& (3 : Int32))), .val (.int p1), .unset] [])) (fun _ k => XS.goto X7.here hx rfl (pc0 := 27) (pc' := 50) rfl (hb hby at_27) (by decide) (by decide) k) ?_
      exact tail _
    · refine own_go (B := T7.setTop (mkF m 30 #[.val (.int p0), .val (.int p1), .val (.int p2), .val (.int (1 : Int32)), .val (.ref (A 1)), .val (.int (p2 &&& (3 : Int32))), .unset, .unset] [])) (fun _ k => XS.ifYes X7.here hx rfl (pc0 := 21) (pc' := 30) rfl (hb hby at_21) rfl ((if0 _ _).trans (feq hc2111).2) (by decide) (by decide) k) ?_
      refine own_go (B := T7.setTop (mkF m 32 #[.val (.int p0), .val (.int p1), .val (.int p2), .val (.int (1 : Int32)), .val (.ref (A 1)), .val (.int (p2 &&& (3 : Int32))), .unset, .unset] [(.int (p2 &&& (3 : Int32)))])) (fun _ k => XS.iload X7.here hx rfl (hb hby at_30) rfl k) ?_
      refine own_go (B := T7.setTop (mkF m 33 #[.val (.int p0), .val (.int p1), .val (.int p2), .val (.int (1 : Int32)), .val (.ref (A 1)), .val (.int (p2 &&& (3 : Int32))), .unset, .unset] [(.int (1 : Int32)), (.int (p2 &&& (3 : Int32)))])) (fun _ k => XT.iconstV X7.here hx rfl (1 : Int32) (hb hby at_32) rfl k) ?_
      by_cases hc3312 : (p2 &&& (3 : Int32)) = (1 : Int32)
      · refine own_go (B := T7.setTop (mkF m 36 #[.val (.int p0), .val (.int p1), .val (.int p2), .val (.int (1 : Int32)), .val (.ref (A 1)), .val (.int (p2 &&& (3 : Int32))), .unset, .unset] [])) (fun _ k => XS.icmpNo X7.here hx rfl (hb hby at_33) rfl (teq hc3312).2 k) ?_
        refine own_go (B := T7.setTop (mkF m 37 #[.val (.int p0), .val (.int p1), .val (.int p2), .val (.int (1 : Int32)), .val (.ref (A 1)), .val (.int (p2 &&& (3 : Int32))), .unset, .unset] [(.int p1)])) (fun _ k => XS.iloadN X7.here hx rfl (hb hby at_36) rfl k) ?_
        refine own_go (B := T7.setTop (mkF m 39 #[.val (.int p0), .val (.int p1), .val (.int p2), .val (.int (1 : Int32)), .val (.ref (A 1)), .val (.int (p2 &&& (3 : Int32))), .unset, .unset] [(.int (15 : Int32)), (.int p1)])) (fun _ k => XT.bipushV X7.here hx rfl (15 : Int32) (hb hby at_37) (by decide) k) ?_
        refine own_go (B := T7.setTop (mkF m 40 #[.val (.int p0), .val (.int p1), .val (.int p2), .val (.int (1 : Int32)), .val (.ref (A 1)), .val (.int (p2 &&& (3 : Int32))), .unset, .unset] [(.int (p1 &&& (15 : Int32)))])) (fun _ k => XS.iand X7.here hx rfl (hb hby at_39) rfl k) ?_
        refine own_go (B := T7.setTop (mkF m 42 #[.val (.int p0), .val (.int p1), .val (.int p2), .val (.int (1 : Int32)), .val (.ref (A 1)), .val (.int (p2 &&& (3 : Int32))), .val (.int (p1 &&& (15 : Int32))), .unset] [])) (fun _ k => XS.istore X7.here hx rfl (hb hby at_40) rfl (l' := #[.val (.int p0), .val (.int p1), .val (.int p2), .val (.int (1 : Int32)), .val (.ref (A 1)), .val (.int (p2 &&& (3 : Int32))), .val (.int (p1 &&& (15 : Int32))), .unset]) rfl k) ?_
        refine own_go (B := T7.setTop (mkF m 50 #[.val (.int p0), .val (.int p1), .val (.int p2), .val (.int (1 : Int32)), .val (.ref (A 1)), .val (.int (p2 &&& (3 : Int32))), .val (.int (p1 &&& (15 : Int32))), .unset] [])) (fun _ k => XS.goto X7.here hx rfl (pc0 := 42) (pc' := 50) rfl (hb hby at_42) (by decide) (by decide) k) ?_
        exact tail _
      · refine own_go (B := T7.setTop (mkF m 45 #[.val (.int p0), .val (.int p1), .val (.int p2), .val (.int (1 : Int32)), .val (.ref (A 1)), .val (.int (p2 &&& (3 : Int32))), .unset, .unset] [])) (fun _ k => XS.icmpYes X7.here hx rfl (pc0 := 33) (pc' := 45) rfl (hb hby at_33) rfl (feq hc3312).2 (by decide) (by decide) k) ?_
        refine own_go (B := T7.setTop (mkF m 46 #[.val (.int p0), .val (.int p1), .val (.int p2), .val (.int (1 : Int32)), .val (.ref (A 1)), .val (.int (p2 &&& (3 : Int32))), .unset, .unset] [(.int p1)])) (fun _ k => XS.iloadN X7.here hx rfl (hb hby at_45) rfl k) ?_
        refine own_go (B := T7.setTop (mkF m 47 #[.val (.int p0), .val (.int p1), .val (.int p2), .val (.int (1 : Int32)), .val (.ref (A 1)), .val (.int (p2 &&& (3 : Int32))), .unset, .unset] [(.int (3 : Int32)), (.int p1)])) (fun _ k => XT.iconstV X7.here hx rfl (3 : Int32) (hb hby at_46) rfl k) ?_
        refine own_go (B := T7.setTop (mkF m 48 #[.val (.int p0), .val (.int p1), .val (.int p2), .val (.int (1 : Int32)), .val (.ref (A 1)), .val (.int (p2 &&& (3 : Int32))), .unset, .unset] [(.int (p1 &&& (3 : Int32)))])) (fun _ k => XS.iand X7.here hx rfl (hb hby at_47) rfl k) ?_
        refine own_go (B := T7.setTop (mkF m 50 #[.val (.int p0), .val (.int p1), .val (.int p2), .val (.int (1 : Int32)), .val (.ref (A 1)), .val (.int (p2 &&& (3 : Int32))), .val (.int (p1 &&& (3 : Int32))), .unset] [])) (fun _ k => XS.istore X7.here hx rfl (hb hby at_48) rfl (l' := #[.val (.int p0), .val (.int p1), .val (.int p2), .val (.int (1 : Int32)), .val (.ref (A 1)), .val (.int (p2 &&& (3 : Int32))), .val (.int (p1 &&& (3 : Int32))), .unset]) rfl k) ?_
        exact tail _
  · refine own_go (B := s₁.setTop (mkF m 9 #[.val (.int p0), .val (.int p1), .val (.int p2), .val (.int (2 : Int32)), .unset, .unset, .unset, .unset] [(.int (2 : Int32))])) (fun _ k => XS.iloadN X0.here hx rfl (hb hby at_8) rfl k) ?_
    obtain ⟨_, _, ⟨T13, L13, k13, n13⟩, -, X13, ⟨Lc13, hQ13, l13, y13, z13⟩, st13⟩ := Jvm.LawKit.callS X0 hx (y := (⟨"com/example/ferrybus/ferrybus/codec/PacketTypeAllowsPinLaw", "pick", "(I)Lcom/example/ferrybus/ferrybus/codec/PacketType;"⟩ : MethodName)) hown (mvT hZ (hw _ (List.mem_of_getElem? (i := 1) rfl))) (mvT hZ (hw _ (List.mem_of_getElem? (i := 2) rfl))) (mvT hZ (hw _ (List.mem_of_getElem? (i := 3) rfl))) (mvT hZ (hw _ (List.mem_of_getElem? (i := 4) rfl))) (by decide) (own_back (W := 0) (rm1_2 l Z a0 hw []  A hW h0 x0 ) hZ (hw _ (List.mem_of_getElem? (i := 4) rfl)) (hw _ (List.mem_of_getElem? (i := 3) rfl)) (by decide) (by decide)) (g := (mkF m 9 #[.val (.int p0), .val (.int p1), .val (.int p2), .val (.int (2 : Int32)), .unset, .unset, .unset, .unset] [(.int (2 : Int32))])) rfl (by rw [hml]; rfl) (argsL := [(.int (2 : Int32))]) (rest := []) (lenOf pd_0 rfl) rfl (by show 2 * 0 + _ ≤ _; exact Nat.le_of_eq rfl) (hb hby at_9) (fun _ _ => ⟨rfl, e0, (by decide : 0 + 0 ≤ _), (by decide : 0 + 0 ≤ _)⟩)
    dsimp only [Pt.U, Pt.locs, Pt.cells, Pt.slots] at X13 l13 y13 z13 st13 hQ13
    subst l13 y13 z13
    obtain ⟨rfl, N13q, e13⟩ := hQ13
    have N13 := Fr.app N0 N13q
    refine own_go (B := T13.setTop (mkF m 12 #[.val (.int p0), .val (.int p1), .val (.int p2), .val (.int (2 : Int32)), .unset, .unset, .unset, .unset] [(.ref (A 9))])) st13 ?_
    refine own_go (B := T13.setTop (mkF m 14 #[.val (.int p0), .val (.int p1), .val (.int p2), .val (.int (2 : Int32)), .val (.ref (A 9)), .unset, .unset, .unset] [])) (fun _ k => XS.astore X13.here hx rfl (hb hby at_12) rfl rfl (l' := #[.val (.int p0), .val (.int p1), .val (.int p2), .val (.int (2 : Int32)), .val (.ref (A 9)), .unset, .unset, .unset]) rfl k) ?_
    refine own_go (B := T13.setTop (mkF m 15 #[.val (.int p0), .val (.int p1), .val (.int p2), .val (.int (2 : Int32)), .val (.ref (A 9)), .unset, .unset, .unset] [(.int p2)])) (fun _ k => XS.iloadN X13.here hx rfl (hb hby at_14) rfl k) ?_
    refine own_go (B := T13.setTop (mkF m 16 #[.val (.int p0), .val (.int p1), .val (.int p2), .val (.int (2 : Int32)), .val (.ref (A 9)), .unset, .unset, .unset] [(.int (3 : Int32)), (.int p2)])) (fun _ k => XT.iconstV X13.here hx rfl (3 : Int32) (hb hby at_15) rfl k) ?_
    refine own_go (B := T13.setTop (mkF m 17 #[.val (.int p0), .val (.int p1), .val (.int p2), .val (.int (2 : Int32)), .val (.ref (A 9)), .unset, .unset, .unset] [(.int (p2 &&& (3 : Int32)))])) (fun _ k => XS.iand X13.here hx rfl (hb hby at_16) rfl k) ?_
    refine own_go (B := T13.setTop (mkF m 19 #[.val (.int p0), .val (.int p1), .val (.int p2), .val (.int (2 : Int32)), .val (.ref (A 9)), .val (.int (p2 &&& (3 : Int32))), .unset, .unset] [])) (fun _ k => XS.istore X13.here hx rfl (hb hby at_17) rfl (l' := #[.val (.int p0), .val (.int p1), .val (.int p2), .val (.int (2 : Int32)), .val (.ref (A 9)), .val (.int (p2 &&& (3 : Int32))), .unset, .unset]) rfl k) ?_
    have tail : ∀ fl : Int32, own_G p.tables e below s (fun v_ h_ L_ => v_ = some (.int (1 : Int32)) ∧ Fr Z.heap.size L_) room_1.cells room_1.slots (T13.setTop (mkF m 50 #[.val (.int p0), .val (.int p1), .val (.int p2), .val (.int (2 : Int32)), .val (.ref (A 9)), .val (.int (p2 &&& (3 : Int32))), .val (.int fl), .unset] [])) := by
      intro fl
      refine own_go (B := T13.setTop (mkF m 51 #[.val (.int p0), .val (.int p1), .val (.int p2), .val (.int (2 : Int32)), .val (.ref (A 9)), .val (.int (p2 &&& (3 : Int32))), .val (.int fl), .unset] [(.int (2 : Int32))])) (fun _ k => XS.iloadN X13.here hx rfl (hb hby at_50) rfl k) ?_
      refine own_go (B := T13.setTop (mkF m 52 #[.val (.int p0), .val (.int p1), .val (.int p2), .val (.int (2 : Int32)), .val (.ref (A 9)), .val (.int (p2 &&& (3 : Int32))), .val (.int fl), .unset] [(.int (2 : Int32)), (.int (2 : Int32))])) (fun _ k => XT.iconstV X13.here hx rfl (2 : Int32) (hb hby at_51) rfl k) ?_
      refine own_go (B := T13.setTop (mkF m 55 #[.val (.int p0), .val (.int p1), .val (.int p2), .val (.int (2 : Int32)), .val (.ref (A 9)), .val (.int (p2 &&& (3 : Int32))), .val (.int fl), .unset] [])) (fun _ k => XS.icmpNo X13.here hx rfl (hb hby at_52) rfl (by decide) k) ?_
      refine own_go (B := T13.setTop (mkF m 56 #[.val (.int p0), .val (.int p1), .val (.int p2), .val (.int (2 : Int32)), .val (.ref (A 9)), .val (.int (p2 &&& (3 : Int32))), .val (.int fl), .unset] [(.int (1 : Int32))])) (fun _ k => XT.iconstV X13.here hx rfl (1 : Int32) (hb hby at_55) rfl k) ?_
      refine own_go (B := T13.setTop (mkF m 58 #[.val (.int p0), .val (.int p1), .val (.int p2), .val (.int (2 : Int32)), .val (.ref (A 9)), .val (.int (p2 &&& (3 : Int32))), .val (.int fl), .val (.int (1 : Int32))] [])) (fun _ k => XS.istore X13.here hx rfl (hb hby at_56) rfl (l' := #[.val (.int p0), .val (.int p1), .val (.int p2), .val (.int (2 : Int32)), .val (.ref (A 9)), .val (.int (p2 &&& (3 : Int32))), .val (.int fl), .val (.int (1 : Int32))]) rfl k) ?_
      refine own_go (B := T13.setTop (mkF m 106 #[.val (.int p0), .val (.int p1), .val (.int p2), .val (.int (2 : Int32)), .val (.ref (A 9)), .val (.int (p2 &&& (3 : Int32))), .val (.int fl), .val (.int (1 : Int32))] [])) (fun _ k => XS.goto X13.here hx rfl (pc0 := 58) (pc' := 106) rfl (hb hby at_58) (by decide) (by decide) k) ?_
      refine own_go (B := T13.setTop (mkF m 108 #[.val (.int p0), .val (.int p1), .val (.int p2), .val (.int (2 : Int32)), .val (.ref (A 9)), .val (.int (p2 &&& (3 : Int32))), .val (.int fl), .val (.int (1 : Int32))] [(.ref (A 9))])) (fun _ k => XS.aload X13.here hx rfl (hb hby at_106) rfl rfl k) ?_
      refine own_go (B := T13.setTop (mkF m 110 #[.val (.int p0), .val (.int p1), .val (.int p2), .val (.int (2 : Int32)), .val (.ref (A 9)), .val (.int (p2 &&& (3 : Int32))), .val (.int fl), .val (.int (1 : Int32))] [(.int fl), (.ref (A 9))])) (fun _ k => XS.iload X13.here hx rfl (hb hby at_108) rfl k) ?_
      obtain ⟨cq14, kq14, q14a, q14b, q14c⟩ := isOf hZ e13 (E_PUBLISH.ext x0)
      obtain ⟨_, _, ⟨T14, L14, k14, n14⟩, -, X14, ⟨Lc14, hQ14, l14, y14, z14⟩, st14⟩ := X13.virtualBack hx (y := (⟨"com/example/ferrybus/ferrybus/codec/PacketType", "allows", "(I)Z"⟩ : MethodName)) (z := (⟨"com/example/ferrybus/ferrybus/codec/PacketType", "allows", "(I)Z"⟩ : MethodName)) hown (mvT hZ (hw _ (List.mem_of_getElem? (i := 8) rfl))) (mvT hZ (hw _ (List.mem_of_getElem? (i := 9) rfl))) (notFace_of_selects (args := #[]) (mvT hZ (hw _ (List.mem_of_getElem? (i := 11) rfl)))) (mvT hZ (hw _ (List.mem_of_getElem? (i := 11) rfl))) (mvT hZ (hw _ (List.mem_of_getElem? (i := 10) rfl))) (by decide) (own_back (W := 0) (rm2_4 l Z a0 hw [] fl A hW h0 x0 ) hZ (hw _ (List.mem_of_getElem? (i := 12) rfl)) (hw _ (List.mem_of_getElem? (i := 6) rfl)) (by decide) (by decide)) q14a q14c (g := (mkF m 110 #[.val (.int p0), .val (.int p1), .val (.int p2), .val (.int (2 : Int32)), .val (.ref (A 9)), .val (.int (p2 &&& (3 : Int32))), .val (.int fl), .val (.int (1 : Int32))] [(.int fl), (.ref (A 9))])) rfl (by rw [hml]; rfl) (Steps.refl _) (argsL := [(.int fl)]) (rest := []) (lenOf pd_1 rfl) rfl (by show 2 * 0 + _ ≤ _; exact Nat.le_of_eq rfl) (hb hby at_110) (fun _ _ => ⟨rfl, e13, (by decide : 0 + 0 ≤ _), (by decide : 0 + 0 ≤ _)⟩)
      dsimp only [Pt.U, Pt.locs, Pt.cells, Pt.slots] at X14 l14 y14 z14 st14 hQ14
      subst l14 y14 z14
      obtain ⟨rfl, N14q, e14⟩ := hQ14
      have N14 := Fr.app N13 N14q
      refine own_go (B := T14.setTop (mkF m 113 #[.val (.int p0), .val (.int p1), .val (.int p2), .val (.int (2 : Int32)), .val (.ref (A 9)), .val (.int (p2 &&& (3 : Int32))), .val (.int fl), .val (.int (1 : Int32))] [(.int (1 : Int32))])) (fun _ k => st14.trans k) ?_
      refine own_go (B := T14.setTop (mkF m 115 #[.val (.int p0), .val (.int p1), .val (.int p2), .val (.int (2 : Int32)), .val (.ref (A 9)), .val (.int (p2 &&& (3 : Int32))), .val (.int fl), .val (.int (1 : Int32))] [(.int (1 : Int32)), (.int (1 : Int32))])) (fun _ k => XS.iload X14.here hx rfl (hb hby at_113) rfl k) ?_
      refine own_go (B := T14.setTop (mkF m 118 #[.val (.int p0), .val (.int p1), .val (.int p2), .val (.int (2 : Int32)), .val (.ref (A 9)), .val (.int (p2 &&& (3 : Int32))), .val (.int fl), .val (.int (1 : Int32))] [])) (fun _ k => XS.icmpNo X14.here hx rfl (hb hby at_115) rfl (by decide) k) ?_
      refine own_go (B := T14.setTop (mkF m 119 #[.val (.int p0), .val (.int p1), .val (.int p2), .val (.int (2 : Int32)), .val (.ref (A 9)), .val (.int (p2 &&& (3 : Int32))), .val (.int fl), .val (.int (1 : Int32))] [(.int (1 : Int32))])) (fun _ k => XT.iconstV X14.here hx rfl (1 : Int32) (hb hby at_118) rfl k) ?_
      refine own_go (B := T14.setTop (mkF m 123 #[.val (.int p0), .val (.int p1), .val (.int p2), .val (.int (2 : Int32)), .val (.ref (A 9)), .val (.int (p2 &&& (3 : Int32))), .val (.int fl), .val (.int (1 : Int32))] [(.int (1 : Int32))])) (fun _ k => XS.goto X14.here hx rfl (pc0 := 119) (pc' := 123) rfl (hb hby at_119) (by decide) (by decide) k) ?_
      exact own_ret X14 hx (t := .boolean) hrt rfl (Or.inl ⟨rfl, by simp, _, rfl⟩) (hb hby at_123) hlk ⟨rfl, N14⟩ (by decide) (by decide)
    refine own_go (B := T13.setTop (mkF m 21 #[.val (.int p0), .val (.int p1), .val (.int p2), .val (.int (2 : Int32)), .val (.ref (A 9)), .val (.int (p2 &&& (3 : Int32))), .unset, .unset] [(.int (p2 &&& (3 : Int32)))])) (fun _ k => XS.iload X13.here hx rfl (hb hby at_19) rfl k) ?_
    by_cases hc2115 : (p2 &&& (3 : Int32)) = (0 : Int32)
    · refine own_go (B := T13.setTop (mkF m 24 #[.val (.int p0), .val (.int p1), .val (.int p2), .val (.int (2 : Int32)), .val (.ref (A 9)), .val (.int (p2 &&& (3 : Int32))), .unset, .unset] [])) (fun _ k => XS.ifNo X13.here hx rfl (hb hby at_21) rfl ((if0 _ _).trans (teq hc2115).2) k) ?_
      refine own_go (B := T13.setTop (mkF m 25 #[.val (.int p0), .val (.int p1), .val (.int p2), .val (.int (2 : Int32)), .val (.ref (A 9)), .val (.int (p2 &&& (3 : Int32))), .unset, .unset] [(.int p1)])) (fun _ k => XS.iloadN X13.here hx rfl (hb hby at_24) rfl k) ?_
      refine own_go (B := T13.setTop (mkF m 27 #[.val (.int p0), .val (.int p1), .val (.int p2), .val (.int (2 : Int32)), .val (.ref (A 9)), .val (.int (p2 &&& (3 : Int32))), .val (.int p1), .unset] [])) (fun _ k => XS.istore X13.here hx rfl (hb hby at_25) rfl (l' := #[.val (.int p0), .val (.int p1), .val (.int p2), .val (.int (2 : Int32)), .val (.ref (A 9)), .val (.int (p2 &&& (3 : Int32))), .val (.int p1), .unset]) rfl k) ?_
      refine own_go (B := T13.setTop (mkF m 50 #[.val (.int p0), .val (.int p1), .val (.int p2), .val (.int (2 : Int32)), .val (.ref (A 9)), .val (.int (p2 &&& (3 : Int32))), .val (.int p1), .unset] [])) (fun _ k => XS.goto X13.here hx rfl (pc0 := 27) (pc' := 50) rfl (hb hby at_27) (by decide) (by decide) k) ?_
      exact tail _
    · refine own_go (B := T13.setTop (mkF m 30 #[.val (.int p0), .val (.int p1), .val (.int p2), .val (.int (2 : Int32)), .val (.ref (A 9)), .val (.int (p2 &&& (3 : Int32))), .unset, .unset] [])) (fun _ k => XS.ifYes X13.here hx rfl (pc0 := 21) (pc' := 30) rfl (hb hby at_21) rfl ((if0 _ _).trans (feq hc2115).2) (by decide) (by decide) k) ?_
      refine own_go (B := T13.setTop (mkF m 32 #[.val (.int p0), .val (.int p1), .val (.int p2), .val (.int (2 : Int32)), .val (.ref (A 9)), .val (.int (p2 &&& (3 : Int32))), .unset, .unset] [(.int (p2 &&& (3 : Int32)))])) (fun _ k => XS.iload X13.here hx rfl (hb hby at_30) rfl k) ?_
      refine own_go (B := T13.setTop (mkF m 33 #[.val (.int p0), .val (.int p1), .val (.int p2), .val (.int (2 : Int32)), .val (.ref (A 9)), .val (.int (p2 &&& (3 : Int32))), .unset, .unset] [(.int (1 : Int32)), (.int (p2 &&& (3 : Int32)))])) (fun _ k => XT.iconstV X13.here hx rfl (1 : Int32) (hb hby at_32) rfl k) ?_
      by_cases hc3316 : (p2 &&& (3 : Int32)) = (1 : Int32)
      · refine own_go (B := T13.setTop (mkF m 36 #[.val (.int p0), .val (.int p1), .val (.int p2), .val (.int (2 : Int32)), .val (.ref (A 9)), .val (.int (p2 &&& (3 : Int32))), .unset, .unset] [])) (fun _ k => XS.icmpNo X13.here hx rfl (hb hby at_33) rfl (teq hc3316).2 k) ?_
        refine own_go (B := T13.setTop (mkF m 37 #[.val (.int p0), .val (.int p1), .val (.int p2), .val (.int (2 : Int32)), .val (.ref (A 9)), .val (.int (p2 &&& (3 : Int32))), .unset, .unset] [(.int p1)])) (fun _ k => XS.iloadN X13.here hx rfl (hb hby at_36) rfl k) ?_
        refine own_go (B := T13.setTop (mkF m 39 #[.val (.int p0), .val (.int p1), .val (.int p2), .val (.int (2 : Int32)), .val (.ref (A 9)), .val (.int (p2 &&& (3 : Int32))), .unset, .unset] [(.int (15 : Int32)), (.int p1)])) (fun _ k => XT.bipushV X13.here hx rfl (15 : Int32) (hb hby at_37) (by decide) k) ?_
        refine own_go (B := T13.setTop (mkF m 40 #[.val (.int p0), .val (.int p1), .val (.int p2), .val (.int (2 : Int32)), .val (.ref (A 9)), .val (.int (p2 &&& (3 : Int32))), .unset, .unset] [(.int (p1 &&& (15 : Int32)))])) (fun _ k => XS.iand X13.here hx rfl (hb hby at_39) rfl k) ?_
        refine own_go (B := T13.setTop (mkF m 42 #[.val (.int p0), .val (.int p1), .val (.int p2), .val (.int (2 : Int32)), .val (.ref (A 9)), .val (.int (p2 &&& (3 : Int32))), .val (.int (p1 &&& (15 : Int32))), .unset] [])) (fun _ k => XS.istore X13.here hx rfl (hb hby at_40) rfl (l' := #[.val (.int p0), .val (.int p1), .val (.int p2), .val (.int (2 : Int32)), .val (.ref (A 9)), .val (.int (p2 &&& (3 : Int32))), .val (.int (p1 &&& (15 : Int32))), .unset]) rfl k) ?_
        refine own_go (B := T13.setTop (mkF m 50 #[.val (.int p0), .val (.int p1), .val (.int p2), .val (.int (2 : Int32)), .val (.ref (A 9)), .val (.int (p2 &&& (3 : Int32))), .val (.int (p1 &&& (15 : Int32))), .unset] [])) (fun _ k => XS.goto X13.here hx rfl (pc0 := 42) (pc' := 50) rfl (hb hby at_42) (by decide) (by decide) k) ?_
        exact tail _
      · refine own_go (B := T13.setTop (mkF m 45 #[.val (.int p0), .val (.int p1), .val (.int p2), .val (.int (2 : Int32)), .val (.ref (A 9)), .val (.int (p2 &&& (3 : Int32))), .unset, .unset] [])) (fun _ k => XS.icmpYes X13.here hx rfl (pc0 := 33) (pc' := 45) rfl (hb hby at_33) rfl (feq hc3316).2 (by decide) (by decide) k) ?_
        refine own_go (B := T13.setTop (mkF m 46 #[.val (.int p0), .val (.int p1), .val (.int p2), .val (.int (2 : Int32)), .val (.ref (A 9)), .val (.int (p2 &&& (3 : Int32))), .unset, .unset] [(.int p1)])) (fun _ k => XS.iloadN X13.here hx rfl (hb hby at_45) rfl k) ?_
        refine own_go (B := T13.setTop (mkF m 47 #[.val (.int p0), .val (.int p1), .val (.int p2), .val (.int (2 : Int32)), .val (.ref (A 9)), .val (.int (p2 &&& (3 : Int32))), .unset, .unset] [(.int (3 : Int32)), (.int p1)])) (fun _ k => XT.iconstV X13.here hx rfl (3 : Int32) (hb hby at_46) rfl k) ?_
        refine own_go (B := T13.setTop (mkF m 48 #[.val (.int p0), .val (.int p1), .val (.int p2), .val (.int (2 : Int32)), .val (.ref (A 9)), .val (.int (p2 &&& (3 : Int32))), .unset, .unset] [(.int (p1 &&& (3 : Int32)))])) (fun _ k => XS.iand X13.here hx rfl (hb hby at_47) rfl k) ?_
        refine own_go (B := T13.setTop (mkF m 50 #[.val (.int p0), .val (.int p1), .val (.int p2), .val (.int (2 : Int32)), .val (.ref (A 9)), .val (.int (p2 &&& (3 : Int32))), .val (.int (p1 &&& (3 : Int32))), .unset] [])) (fun _ k => XS.istore X13.here hx rfl (hb hby at_48) rfl (l' := #[.val (.int p0), .val (.int p1), .val (.int p2), .val (.int (2 : Int32)), .val (.ref (A 9)), .val (.int (p2 &&& (3 : Int32))), .val (.int (p1 &&& (3 : Int32))), .unset]) rfl k) ?_
        exact tail _
  · refine own_go (B := s₁.setTop (mkF m 9 #[.val (.int p0), .val (.int p1), .val (.int p2), .val (.int (3 : Int32)), .unset, .unset, .unset, .unset] [(.int (3 : Int32))])) (fun _ k => XS.iloadN X0.here hx rfl (hb hby at_8) rfl k) ?_
    obtain ⟨_, _, ⟨T17, L17, k17, n17⟩, -, X17, ⟨Lc17, hQ17, l17, y17, z17⟩, st17⟩ := Jvm.LawKit.callS X0 hx (y := (⟨"com/example/ferrybus/ferrybus/codec/PacketTypeAllowsPinLaw", "pick", "(I)Lcom/example/ferrybus/ferrybus/codec/PacketType;"⟩ : MethodName)) hown (mvT hZ (hw _ (List.mem_of_getElem? (i := 1) rfl))) (mvT hZ (hw _ (List.mem_of_getElem? (i := 2) rfl))) (mvT hZ (hw _ (List.mem_of_getElem? (i := 3) rfl))) (mvT hZ (hw _ (List.mem_of_getElem? (i := 4) rfl))) (by decide) (own_back (W := 0) (rm1_3 l Z a0 hw []  A hW h0 x0 ) hZ (hw _ (List.mem_of_getElem? (i := 4) rfl)) (hw _ (List.mem_of_getElem? (i := 3) rfl)) (by decide) (by decide)) (g := (mkF m 9 #[.val (.int p0), .val (.int p1), .val (.int p2), .val (.int (3 : Int32)), .unset, .unset, .unset, .unset] [(.int (3 : Int32))])) rfl (by rw [hml]; rfl) (argsL := [(.int (3 : Int32))]) (rest := []) (lenOf pd_0 rfl) rfl (by show 2 * 0 + _ ≤ _; exact Nat.le_of_eq rfl) (hb hby at_9) (fun _ _ => ⟨rfl, e0, (by decide : 0 + 0 ≤ _), (by decide : 0 + 0 ≤ _)⟩)
    dsimp only [Pt.U, Pt.locs, Pt.cells, Pt.slots] at X17 l17 y17 z17 st17 hQ17
    subst l17 y17 z17
    obtain ⟨rfl, N17q, e17⟩ := hQ17
    have N17 := Fr.app N0 N17q
    refine own_go (B := T17.setTop (mkF m 12 #[.val (.int p0), .val (.int p1), .val (.int p2), .val (.int (3 : Int32)), .unset, .unset, .unset, .unset] [(.ref (A 7))])) st17 ?_
    refine own_go (B := T17.setTop (mkF m 14 #[.val (.int p0), .val (.int p1), .val (.int p2), .val (.int (3 : Int32)), .val (.ref (A 7)), .unset, .unset, .unset] [])) (fun _ k => XS.astore X17.here hx rfl (hb hby at_12) rfl rfl (l' := #[.val (.int p0), .val (.int p1), .val (.int p2), .val (.int (3 : Int32)), .val (.ref (A 7)), .unset, .unset, .unset]) rfl k) ?_
    refine own_go (B := T17.setTop (mkF m 15 #[.val (.int p0), .val (.int p1), .val (.int p2), .val (.int (3 : Int32)), .val (.ref (A 7)), .unset, .unset, .unset] [(.int p2)])) (fun _ k => XS.iloadN X17.here hx rfl (hb hby at_14) rfl k) ?_
    refine own_go (B := T17.setTop (mkF m 16 #[.val (.int p0), .val (.int p1), .val (.int p2), .val (.int (3 : Int32)), .val (.ref (A 7)), .unset, .unset, .unset] [(.int (3 : Int32)), (.int p2)])) (fun _ k => XT.iconstV X17.here hx rfl (3 : Int32) (hb hby at_15) rfl k) ?_
    refine own_go (B := T17.setTop (mkF m 17 #[.val (.int p0), .val (.int p1), .val (.int p2), .val (.int (3 : Int32)), .val (.ref (A 7)), .unset, .unset, .unset] [(.int (p2 &&& (3 : Int32)))])) (fun _ k => XS.iand X17.here hx rfl (hb hby at_16) rfl k) ?_
    refine own_go (B := T17.setTop (mkF m 19 #[.val (.int p0), .val (.int p1), .val (.int p2), .val (.int (3 : Int32)), .val (.ref (A 7)), .val (.int (p2 &&& (3 : Int32))), .unset, .unset] [])) (fun _ k => XS.istore X17.here hx rfl (hb hby at_17) rfl (l' := #[.val (.int p0), .val (.int p1), .val (.int p2), .val (.int (3 : Int32)), .val (.ref (A 7)), .val (.int (p2 &&& (3 : Int32))), .unset, .unset]) rfl k) ?_
    have tail : ∀ fl : Int32, own_G p.tables e below s (fun v_ h_ L_ => v_ = some (.int (1 : Int32)) ∧ Fr Z.heap.size L_) room_1.cells room_1.slots (T17.setTop (mkF m 50 #[.val (.int p0), .val (.int p1), .val (.int p2), .val (.int (3 : Int32)), .val (.ref (A 7)), .val (.int (p2 &&& (3 : Int32))), .val (.int fl), .unset] [])) := by
      intro fl
      refine own_go (B := T17.setTop (mkF m 51 #[.val (.int p0), .val (.int p1), .val (.int p2), .val (.int (3 : Int32)), .val (.ref (A 7)), .val (.int (p2 &&& (3 : Int32))), .val (.int fl), .unset] [(.int (3 : Int32))])) (fun _ k => XS.iloadN X17.here hx rfl (hb hby at_50) rfl k) ?_
      refine own_go (B := T17.setTop (mkF m 52 #[.val (.int p0), .val (.int p1), .val (.int p2), .val (.int (3 : Int32)), .val (.ref (A 7)), .val (.int (p2 &&& (3 : Int32))), .val (.int fl), .unset] [(.int (2 : Int32)), (.int (3 : Int32))])) (fun _ k => XT.iconstV X17.here hx rfl (2 : Int32) (hb hby at_51) rfl k) ?_
      refine own_go (B := T17.setTop (mkF m 61 #[.val (.int p0), .val (.int p1), .val (.int p2), .val (.int (3 : Int32)), .val (.ref (A 7)), .val (.int (p2 &&& (3 : Int32))), .val (.int fl), .unset] [])) (fun _ k => XS.icmpYes X17.here hx rfl (pc0 := 52) (pc' := 61) rfl (hb hby at_52) rfl (by decide) (by decide) (by decide) k) ?_
      refine own_go (B := T17.setTop (mkF m 62 #[.val (.int p0), .val (.int p1), .val (.int p2), .val (.int (3 : Int32)), .val (.ref (A 7)), .val (.int (p2 &&& (3 : Int32))), .val (.int fl), .unset] [(.int (3 : Int32))])) (fun _ k => XS.iloadN X17.here hx rfl (hb hby at_61) rfl k) ?_
      refine own_go (B := T17.setTop (mkF m 63 #[.val (.int p0), .val (.int p1), .val (.int p2), .val (.int (3 : Int32)), .val (.ref (A 7)), .val (.int (p2 &&& (3 : Int32))), .val (.int fl), .unset] [(.int (5 : Int32)), (.int (3 : Int32))])) (fun _ k => XT.iconstV X17.here hx rfl (5 : Int32) (hb hby at_62) rfl k) ?_
      refine own_go (B := T17.setTop (mkF m 66 #[.val (.int p0), .val (.int p1), .val (.int p2), .val (.int (3 : Int32)), .val (.ref (A 7)), .val (.int (p2 &&& (3 : Int32))), .val (.int fl), .unset] [])) (fun _ k => XS.icmpNo X17.here hx rfl (hb hby at_63) rfl (by decide) k) ?_
      refine own_go (B := T17.setTop (mkF m 67 #[.val (.int p0), .val (.int p1), .val (.int p2), .val (.int (3 : Int32)), .val (.ref (A 7)), .val (.int (p2 &&& (3 : Int32))), .val (.int fl), .unset] [(.int (3 : Int32))])) (fun _ k => XS.iloadN X17.here hx rfl (hb hby at_66) rfl k) ?_
      refine own_go (B := T17.setTop (mkF m 69 #[.val (.int p0), .val (.int p1), .val (.int p2), .val (.int (3 : Int32)), .val (.ref (A 7)), .val (.int (p2 &&& (3 : Int32))), .val (.int fl), .unset] [(.int (7 : Int32)), (.int (3 : Int32))])) (fun _ k => XT.bipushV X17.here hx rfl (7 : Int32) (hb hby at_67) (by decide) k) ?_
      refine own_go (B := T17.setTop (mkF m 72 #[.val (.int p0), .val (.int p1), .val (.int p2), .val (.int (3 : Int32)), .val (.ref (A 7)), .val (.int (p2 &&& (3 : Int32))), .val (.int fl), .unset] [])) (fun _ k => XS.icmpNo X17.here hx rfl (hb hby at_69) rfl (by decide) k) ?_
      refine own_go (B := T17.setTop (mkF m 73 #[.val (.int p0), .val (.int p1), .val (.int p2), .val (.int (3 : Int32)), .val (.ref (A 7)), .val (.int (p2 &&& (3 : Int32))), .val (.int fl), .unset] [(.int (3 : Int32))])) (fun _ k => XS.iloadN X17.here hx rfl (hb hby at_72) rfl k) ?_
      refine own_go (B := T17.setTop (mkF m 75 #[.val (.int p0), .val (.int p1), .val (.int p2), .val (.int (3 : Int32)), .val (.ref (A 7)), .val (.int (p2 &&& (3 : Int32))), .val (.int fl), .unset] [(.int (9 : Int32)), (.int (3 : Int32))])) (fun _ k => XT.bipushV X17.here hx rfl (9 : Int32) (hb hby at_73) (by decide) k) ?_
      refine own_go (B := T17.setTop (mkF m 94 #[.val (.int p0), .val (.int p1), .val (.int p2), .val (.int (3 : Int32)), .val (.ref (A 7)), .val (.int (p2 &&& (3 : Int32))), .val (.int fl), .unset] [])) (fun _ k => XS.icmpYes X17.here hx rfl (pc0 := 75) (pc' := 94) rfl (hb hby at_75) rfl (by decide) (by decide) (by decide) k) ?_
      refine own_go (B := T17.setTop (mkF m 96 #[.val (.int p0), .val (.int p1), .val (.int p2), .val (.int (3 : Int32)), .val (.ref (A 7)), .val (.int (p2 &&& (3 : Int32))), .val (.int fl), .unset] [(.int fl)])) (fun _ k => XS.iload X17.here hx rfl (hb hby at_94) rfl k) ?_
      by_cases hc9618 : fl = (0 : Int32)
      · refine own_go (B := T17.setTop (mkF m 99 #[.val (.int p0), .val (.int p1), .val (.int p2), .val (.int (3 : Int32)), .val (.ref (A 7)), .val (.int (p2 &&& (3 : Int32))), .val (.int fl), .unset] [])) (fun _ k => XS.ifNo X17.here hx rfl (hb hby at_96) rfl ((if0 _ _).trans (teq hc9618).2) k) ?_
        refine own_go (B := T17.setTop (mkF m 100 #[.val (.int p0), .val (.int p1), .val (.int p2), .val (.int (3 : Int32)), .val (.ref (A 7)), .val (.int (p2 &&& (3 : Int32))), .val (.int fl), .unset] [(.int (1 : Int32))])) (fun _ k => XT.iconstV X17.here hx rfl (1 : Int32) (hb hby at_99) rfl k) ?_
        refine own_go (B := T17.setTop (mkF m 104 #[.val (.int p0), .val (.int p1), .val (.int p2), .val (.int (3 : Int32)), .val (.ref (A 7)), .val (.int (p2 &&& (3 : Int32))), .val (.int fl), .unset] [(.int (1 : Int32))])) (fun _ k => XS.goto X17.here hx rfl (pc0 := 100) (pc' := 104) rfl (hb hby at_100) (by decide) (by decide) k) ?_
        refine own_go (B := T17.setTop (mkF m 106 #[.val (.int p0), .val (.int p1), .val (.int p2), .val (.int (3 : Int32)), .val (.ref (A 7)), .val (.int (p2 &&& (3 : Int32))), .val (.int fl), .val (.int (1 : Int32))] [])) (fun _ k => XS.istore X17.here hx rfl (hb hby at_104) rfl (l' := #[.val (.int p0), .val (.int p1), .val (.int p2), .val (.int (3 : Int32)), .val (.ref (A 7)), .val (.int (p2 &&& (3 : Int32))), .val (.int fl), .val (.int (1 : Int32))]) rfl k) ?_
        refine own_go (B := T17.setTop (mkF m 108 #[.val (.int p0), .val (.int p1), .val (.int p2), .val (.int (3 : Int32)), .val (.ref (A 7)), .val (.int (p2 &&& (3 : Int32))), .val (.int fl), .val (.int (1 : Int32))] [(.ref (A 7))])) (fun _ k => XS.aload X17.here hx rfl (hb hby at_106) rfl rfl k) ?_
        refine own_go (B := T17.setTop (mkF m 110 #[.val (.int p0), .val (.int p1), .val (.int p2), .val (.int (3 : Int32)), .val (.ref (A 7)), .val (.int (p2 &&& (3 : Int32))), .val (.int fl), .val (.int (1 : Int32))] [(.int fl), (.ref (A 7))])) (fun _ k => XS.iload X17.here hx rfl (hb hby at_108) rfl k) ?_
        obtain ⟨cq19, kq19, q19a, q19b, q19c⟩ := isOf hZ e17 (E_PUBACK.ext x0)
        obtain ⟨_, _, ⟨T19, L19, k19, n19⟩, -, X19, ⟨Lc19, hQ19, l19, y19, z19⟩, st19⟩ := X17.virtualBack hx (y := (⟨"com/example/ferrybus/ferrybus/codec/PacketType", "allows", "(I)Z"⟩ : MethodName)) (z := (⟨"com/example/ferrybus/ferrybus/codec/PacketType", "allows", "(I)Z"⟩ : MethodName)) hown (mvT hZ (hw _ (List.mem_of_getElem? (i := 8) rfl))) (mvT hZ (hw _ (List.mem_of_getElem? (i := 9) rfl))) (notFace_of_selects (args := #[]) (mvT hZ (hw _ (List.mem_of_getElem? (i := 11) rfl)))) (mvT hZ (hw _ (List.mem_of_getElem? (i := 11) rfl))) (mvT hZ (hw _ (List.mem_of_getElem? (i := 10) rfl))) (by decide) (own_back (W := 0) (rm2_5 l Z a0 hw [] fl A hW h0 x0 hc9618.symm) hZ (hw _ (List.mem_of_getElem? (i := 12) rfl)) (hw _ (List.mem_of_getElem? (i := 6) rfl)) (by decide) (by decide)) q19a q19c (g := (mkF m 110 #[.val (.int p0), .val (.int p1), .val (.int p2), .val (.int (3 : Int32)), .val (.ref (A 7)), .val (.int (p2 &&& (3 : Int32))), .val (.int fl), .val (.int (1 : Int32))] [(.int fl), (.ref (A 7))])) rfl (by rw [hml]; rfl) (Steps.refl _) (argsL := [(.int fl)]) (rest := []) (lenOf pd_1 rfl) rfl (by show 2 * 0 + _ ≤ _; exact Nat.le_of_eq rfl) (hb hby at_110) (fun _ _ => ⟨rfl, e17, (by decide : 0 + 0 ≤ _), (by decide : 0 + 0 ≤ _)⟩)
        dsimp only [Pt.U, Pt.locs, Pt.cells, Pt.slots] at X19 l19 y19 z19 st19 hQ19
        subst l19 y19 z19
        obtain ⟨rfl, N19q, e19⟩ := hQ19
        have N19 := Fr.app N17 N19q
        refine own_go (B := T19.setTop (mkF m 113 #[.val (.int p0), .val (.int p1), .val (.int p2), .val (.int (3 : Int32)), .val (.ref (A 7)), .val (.int (p2 &&& (3 : Int32))), .val (.int fl), .val (.int (1 : Int32))] [(.int (1 : Int32))])) (fun _ k => st19.trans k) ?_
        refine own_go (B := T19.setTop (mkF m 115 #[.val (.int p0), .val (.int p1), .val (.int p2), .val (.int (3 : Int32)), .val (.ref (A 7)), .val (.int (p2 &&& (3 : Int32))), .val (.int fl), .val (.int (1 : Int32))] [(.int (1 : Int32)), (.int (1 : Int32))])) (fun _ k => XS.iload X19.here hx rfl (hb hby at_113) rfl k) ?_
        refine own_go (B := T19.setTop (mkF m 118 #[.val (.int p0), .val (.int p1), .val (.int p2), .val (.int (3 : Int32)), .val (.ref (A 7)), .val (.int (p2 &&& (3 : Int32))), .val (.int fl), .val (.int (1 : Int32))] [])) (fun _ k => XS.icmpNo X19.here hx rfl (hb hby at_115) rfl (by decide) k) ?_
        refine own_go (B := T19.setTop (mkF m 119 #[.val (.int p0), .val (.int p1), .val (.int p2), .val (.int (3 : Int32)), .val (.ref (A 7)), .val (.int (p2 &&& (3 : Int32))), .val (.int fl), .val (.int (1 : Int32))] [(.int (1 : Int32))])) (fun _ k => XT.iconstV X19.here hx rfl (1 : Int32) (hb hby at_118) rfl k) ?_
        refine own_go (B := T19.setTop (mkF m 123 #[.val (.int p0), .val (.int p1), .val (.int p2), .val (.int (3 : Int32)), .val (.ref (A 7)), .val (.int (p2 &&& (3 : Int32))), .val (.int fl), .val (.int (1 : Int32))] [(.int (1 : Int32))])) (fun _ k => XS.goto X19.here hx rfl (pc0 := 119) (pc' := 123) rfl (hb hby at_119) (by decide) (by decide) k) ?_
        exact own_ret X19 hx (t := .boolean) hrt rfl (Or.inl ⟨rfl, by simp, _, rfl⟩) (hb hby at_123) hlk ⟨rfl, N19⟩ (by decide) (by decide)
      · refine own_go (B := T17.setTop (mkF m 103 #[.val (.int p0), .val (.int p1), .val (.int p2), .val (.int (3 : Int32)), .val (.ref (A 7)), .val (.int (p2 &&& (3 : Int32))), .val (.int fl), .unset] [])) (fun _ k => XS.ifYes X17.here hx rfl (pc0 := 96) (pc' := 103) rfl (hb hby at_96) rfl ((if0 _ _).trans (feq hc9618).2) (by decide) (by decide) k) ?_
        refine own_go (B := T17.setTop (mkF m 104 #[.val (.int p0), .val (.int p1), .val (.int p2), .val (.int (3 : Int32)), .val (.ref (A 7)), .val (.int (p2 &&& (3 : Int32))), .val (.int fl), .unset] [(.int (0 : Int32))])) (fun _ k => XT.iconstV X17.here hx rfl (0 : Int32) (hb hby at_103) rfl k) ?_
        refine own_go (B := T17.setTop (mkF m 106 #[.val (.int p0), .val (.int p1), .val (.int p2), .val (.int (3 : Int32)), .val (.ref (A 7)), .val (.int (p2 &&& (3 : Int32))), .val (.int fl), .val (.int (0 : Int32))] [])) (fun _ k => XS.istore X17.here hx rfl (hb hby at_104) rfl (l' := #[.val (.int p0), .val (.int p1), .val (.int p2), .val (.int (3 : Int32)), .val (.ref (A 7)), .val (.int (p2 &&& (3 : Int32))), .val (.int fl), .val (.int (0 : Int32))]) rfl k) ?_
        refine own_go (B := T17.setTop (mkF m 108 #[.val (.int p0), .val (.int p1), .val (.int p2), .val (.int (3 : Int32)), .val (.ref (A 7)), .val (.int (p2 &&& (3 : Int32))), .val (.int fl), .val (.int (0 : Int32))] [(.ref (A 7))])) (fun _ k => XS.aload X17.here hx rfl (hb hby at_106) rfl rfl k) ?_
        refine own_go (B := T17.setTop (mkF m 110 #[.val (.int p0), .val (.int p1), .val (.int p2), .val (.int (3 : Int32)), .val (.ref (A 7)), .val (.int (p2 &&& (3 : Int32))), .val (.int fl), .val (.int (0 : Int32))] [(.int fl), (.ref (A 7))])) (fun _ k => XS.iload X17.here hx rfl (hb hby at_108) rfl k) ?_
        obtain ⟨cq20, kq20, q20a, q20b, q20c⟩ := isOf hZ e17 (E_PUBACK.ext x0)
        obtain ⟨_, _, ⟨T20, L20, k20, n20⟩, -, X20, ⟨Lc20, hQ20, l20, y20, z20⟩, st20⟩ := X17.virtualBack hx (y := (⟨"com/example/ferrybus/ferrybus/codec/PacketType", "allows", "(I)Z"⟩ : MethodName)) (z := (⟨"com/example/ferrybus/ferrybus/codec/PacketType", "allows", "(I)Z"⟩ : MethodName)) hown (mvT hZ (hw _ (List.mem_of_getElem? (i := 8) rfl))) (mvT hZ (hw _ (List.mem_of_getElem? (i := 9) rfl))) (notFace_of_selects (args := #[]) (mvT hZ (hw _ (List.mem_of_getElem? (i := 11) rfl)))) (mvT hZ (hw _ (List.mem_of_getElem? (i := 11) rfl))) (mvT hZ (hw _ (List.mem_of_getElem? (i := 10) rfl))) (by decide) (own_back (W := 0) (rm2_6 l Z a0 hw [] fl A hW h0 x0 (fun q => hc9618 q.symm)) hZ (hw _ (List.mem_of_getElem? (i := 12) rfl)) (hw _ (List.mem_of_getElem? (i := 6) rfl)) (by decide) (by decide)) q20a q20c (g := (mkF m 110 #[.val (.int p0), .val (.int p1), .val (.int p2), .val (.int (3 : Int32)), .val (.ref (A 7)), .val (.int (p2 &&& (3 : Int32))), .val (.int fl), .val (.int (0 : Int32))] [(.int fl), (.ref (A 7))])) rfl (by rw [hml]; rfl) (Steps.refl _) (argsL := [(.int fl)]) (rest := []) (lenOf pd_1 rfl) rfl (by show 2 * 0 + _ ≤ _; exact Nat.le_of_eq rfl) (hb hby at_110) (fun _ _ => ⟨rfl, e17, (by decide : 0 + 0 ≤ _), (by decide : 0 + 0 ≤ _)⟩)
        dsimp only [Pt.U, Pt.locs, Pt.cells, Pt.slots] at X20 l20 y20 z20 st20 hQ20
        subst l20 y20 z20
        obtain ⟨rfl, N20q, e20⟩ := hQ20
        have N20 := Fr.app N17 N20q
        refine own_go (B := T20.setTop (mkF m 113 #[.val (.int p0), .val (.int p1), .val (.int p2), .val (.int (3 : Int32)), .val (.ref (A 7)), .val (.int (p2 &&& (3 : Int32))), .val (.int fl), .val (.int (0 : Int32))] [(.int (0 : Int32))])) (fun _ k => st20.trans k) ?_
        refine own_go (B := T20.setTop (mkF m 115 #[.val (.int p0), .val (.int p1), .val (.int p2), .val (.int (3 : Int32)), .val (.ref (A 7)), .val (.int (p2 &&& (3 : Int32))), .val (.int fl), .val (.int (0 : Int32))] [(.int (0 : Int32)), (.int (0 : Int32))])) (fun _ k => XS.iload X20.here hx rfl (hb hby at_113) rfl k) ?_
        refine own_go (B := T20.setTop (mkF m 118 #[.val (.int p0), .val (.int p1), .val (.int p2), .val (.int (3 : Int32)), .val (.ref (A 7)), .val (.int (p2 &&& (3 : Int32))), .val (.int fl), .val (.int (0 : Int32))] [])) (fun _ k => XS.icmpNo X20.here hx rfl (hb hby at_115) rfl (by decide) k) ?_
        refine own_go (B := T20.setTop (mkF m 119 #[.val (.int p0), .val (.int p1), .val (.int p2), .val (.int (3 : Int32)), .val (.ref (A 7)), .val (.int (p2 &&& (3 : Int32))), .val (.int fl), .val (.int (0 : Int32))] [(.int (1 : Int32))])) (fun _ k => XT.iconstV X20.here hx rfl (1 : Int32) (hb hby at_118) rfl k) ?_
        refine own_go (B := T20.setTop (mkF m 123 #[.val (.int p0), .val (.int p1), .val (.int p2), .val (.int (3 : Int32)), .val (.ref (A 7)), .val (.int (p2 &&& (3 : Int32))), .val (.int fl), .val (.int (0 : Int32))] [(.int (1 : Int32))])) (fun _ k => XS.goto X20.here hx rfl (pc0 := 119) (pc' := 123) rfl (hb hby at_119) (by decide) (by decide) k) ?_
        exact own_ret X20 hx (t := .boolean) hrt rfl (Or.inl ⟨rfl, by simp, _, rfl⟩) (hb hby at_123) hlk ⟨rfl, N20⟩ (by decide) (by decide)
    refine own_go (B := T17.setTop (mkF m 21 #[.val (.int p0), .val (.int p1), .val (.int p2), .val (.int (3 : Int32)), .val (.ref (A 7)), .val (.int (p2 &&& (3 : Int32))), .unset, .unset] [(.int (p2 &&& (3 : Int32)))])) (fun _ k => XS.iload X17.here hx rfl (hb hby at_19) rfl k) ?_
    by_cases hc2121 : (p2 &&& (3 : Int32)) = (0 : Int32)
    · refine own_go (B := T17.setTop (mkF m 24 #[.val (.int p0), .val (.int p1), .val (.int p2), .val (.int (3 : Int32)), .val (.ref (A 7)), .val (.int (p2 &&& (3 : Int32))), .unset, .unset] [])) (fun _ k => XS.ifNo X17.here hx rfl (hb hby at_21) rfl ((if0 _ _).trans (teq hc2121).2) k) ?_
      refine own_go (B := T17.setTop (mkF m 25 #[.val (.int p0), .val (.int p1), .val (.int p2), .val (.int (3 : Int32)), .val (.ref (A 7)), .val (.int (p2 &&& (3 : Int32))), .unset, .unset] [(.int p1)])) (fun _ k => XS.iloadN X17.here hx rfl (hb hby at_24) rfl k) ?_
      refine own_go (B := T17.setTop (mkF m 27 #[.val (.int p0), .val (.int p1), .val (.int p2), .val (.int (3 : Int32)), .val (.ref (A 7)), .val (.int (p2 &&& (3 : Int32))), .val (.int p1), .unset] [])) (fun _ k => XS.istore X17.here hx rfl (hb hby at_25) rfl (l' := #[.val (.int p0), .val (.int p1), .val (.int p2), .val (.int (3 : Int32)), .val (.ref (A 7)), .val (.int (p2 &&& (3 : Int32))), .val (.int p1), .unset]) rfl k) ?_
      refine own_go (B := T17.setTop (mkF m 50 #[.val (.int p0), .val (.int p1), .val (.int p2), .val (.int (3 : Int32)), .val (.ref (A 7)), .val (.int (p2 &&& (3 : Int32))), .val (.int p1), .unset] [])) (fun _ k => XS.goto X17.here hx rfl (pc0 := 27) (pc' := 50) rfl (hb hby at_27) (by decide) (by decide) k) ?_
      exact tail _
    · refine own_go (B := T17.setTop (mkF m 30 #[.val (.int p0), .val (.int p1), .val (.int p2), .val (.int (3 : Int32)), .val (.ref (A 7)), .val (.int (p2 &&& (3 : Int32))), .unset, .unset] [])) (fun _ k => XS.ifYes X17.here hx rfl (pc0 := 21) (pc' := 30) rfl (hb hby at_21) rfl ((if0 _ _).trans (feq hc2121).2) (by decide) (by decide) k) ?_
      refine own_go (B := T17.setTop (mkF m 32 #[.val (.int p0), .val (.int p1), .val (.int p2), .val (.int (3 : Int32)), .val (.ref (A 7)), .val (.int (p2 &&& (3 : Int32))), .unset, .unset] [(.int (p2 &&& (3 : Int32)))])) (fun _ k => XS.iload X17.here hx rfl (hb hby at_30) rfl k) ?_
      refine own_go (B := T17.setTop (mkF m 33 #[.val (.int p0), .val (.int p1), .val (.int p2), .val (.int (3 : Int32)), .val (.ref (A 7)), .val (.int (p2 &&& (3 : Int32))), .unset, .unset] [(.int (1 : Int32)), (.int (p2 &&& (3 : Int32)))])) (fun _ k => XT.iconstV X17.here hx rfl (1 : Int32) (hb hby at_32) rfl k) ?_
      by_cases hc3322 : (p2 &&& (3 : Int32)) = (1 : Int32)
      · refine own_go (B := T17.setTop (mkF m 36 #[.val (.int p0), .val (.int p1), .val (.int p2), .val (.int (3 : Int32)), .val (.ref (A 7)), .val (.int (p2 &&& (3 : Int32))), .unset, .unset] [])) (fun _ k => XS.icmpNo X17.here hx rfl (hb hby at_33) rfl (teq hc3322).2 k) ?_
        refine own_go (B := T17.setTop (mkF m 37 #[.val (.int p0), .val (.int p1), .val (.int p2), .val (.int (3 : Int32)), .val (.ref (A 7)), .val (.int (p2 &&& (3 : Int32))), .unset, .unset] [(.int p1)])) (fun _ k => XS.iloadN X17.here hx rfl (hb hby at_36) rfl k) ?_
        refine own_go (B := T17.setTop (mkF m 39 #[.val (.int p0), .val (.int p1), .val (.int p2), .val (.int (3 : Int32)), .val (.ref (A 7)), .val (.int (p2 &&& (3 : Int32))), .unset, .unset] [(.int (15 : Int32)), (.int p1)])) (fun _ k => XT.bipushV X17.here hx rfl (15 : Int32) (hb hby at_37) (by decide) k) ?_
        refine own_go (B := T17.setTop (mkF m 40 #[.val (.int p0), .val (.int p1), .val (.int p2), .val (.int (3 : Int32)), .val (.ref (A 7)), .val (.int (p2 &&& (3 : Int32))), .unset, .unset] [(.int (p1 &&& (15 : Int32)))])) (fun _ k => XS.iand X17.here hx rfl (hb hby at_39) rfl k) ?_
        refine own_go (B := T17.setTop (mkF m 42 #[.val (.int p0), .val (.int p1), .val (.int p2), .val (.int (3 : Int32)), .val (.ref (A 7)), .val (.int (p2 &&& (3 : Int32))), .val (.int (p1 &&& (15 : Int32))), .unset] [])) (fun _ k => XS.istore X17.here hx rfl (hb hby at_40) rfl (l' := #[.val (.int p0), .val (.int p1), .val (.int p2), .val (.int (3 : Int32)), .val (.ref (A 7)), .val (.int (p2 &&& (3 : Int32))), .val (.int (p1 &&& (15 : Int32))), .unset]) rfl k) ?_
        refine own_go (B := T17.setTop (mkF m 50 #[.val (.int p0), .val (.int p1), .val (.int p2), .val (.int (3 : Int32)), .val (.ref (A 7)), .val (.int (p2 &&& (3 : Int32))), .val (.int (p1 &&& (15 : Int32))), .unset] [])) (fun _ k => XS.goto X17.here hx rfl (pc0 := 42) (pc' := 50) rfl (hb hby at_42) (by decide) (by decide) k) ?_
        exact tail _
      · refine own_go (B := T17.setTop (mkF m 45 #[.val (.int p0), .val (.int p1), .val (.int p2), .val (.int (3 : Int32)), .val (.ref (A 7)), .val (.int (p2 &&& (3 : Int32))), .unset, .unset] [])) (fun _ k => XS.icmpYes X17.here hx rfl (pc0 := 33) (pc' := 45) rfl (hb hby at_33) rfl (feq hc3322).2 (by decide) (by decide) k) ?_
        refine own_go (B := T17.setTop (mkF m 46 #[.val (.int p0), .val (.int p1), .val (.int p2), .val (.int (3 : Int32)), .val (.ref (A 7)), .val (.int (p2 &&& (3 : Int32))), .unset, .unset] [(.int p1)])) (fun _ k => XS.iloadN X17.here hx rfl (hb hby at_45) rfl k) ?_
        refine own_go (B := T17.setTop (mkF m 47 #[.val (.int p0), .val (.int p1), .val (.int p2), .val (.int (3 : Int32)), .val (.ref (A 7)), .val (.int (p2 &&& (3 : Int32))), .unset, .unset] [(.int (3 : Int32)), (.int p1)])) (fun _ k => XT.iconstV X17.here hx rfl (3 : Int32) (hb hby at_46) rfl k) ?_
        refine own_go (B := T17.setTop (mkF m 48 #[.val (.int p0), .val (.int p1), .val (.int p2), .val (.int (3 : Int32)), .val (.ref (A 7)), .val (.int (p2 &&& (3 : Int32))), .unset, .unset] [(.int (p1 &&& (3 : Int32)))])) (fun _ k => XS.iand X17.here hx rfl (hb hby at_47) rfl k) ?_
        refine own_go (B := T17.setTop (mkF m 50 #[.val (.int p0), .val (.int p1), .val (.int p2), .val (.int (3 : Int32)), .val (.ref (A 7)), .val (.int (p2 &&& (3 : Int32))), .val (.int (p1 &&& (3 : Int32))), .unset] [])) (fun _ k => XS.istore X17.here hx rfl (hb hby at_48) rfl (l' := #[.val (.int p0), .val (.int p1), .val (.int p2), .val (.int (3 : Int32)), .val (.ref (A 7)), .val (.int (p2 &&& (3 : Int32))), .val (.int (p1 &&& (3 : Int32))), .unset]) rfl k) ?_
        exact tail _
  · refine own_go (B := s₁.setTop (mkF m 9 #[.val (.int p0), .val (.int p1), .val (.int p2), .val (.int (4 : Int32)), .unset, .unset, .unset, .unset] [(.int (4 : Int32))])) (fun _ k => XS.iloadN X0.here hx rfl (hb hby at_8) rfl k) ?_
    obtain ⟨_, _, ⟨T23, L23, k23, n23⟩, -, X23, ⟨Lc23, hQ23, l23, y23, z23⟩, st23⟩ := Jvm.LawKit.callS X0 hx (y := (⟨"com/example/ferrybus/ferrybus/codec/PacketTypeAllowsPinLaw", "pick", "(I)Lcom/example/ferrybus/ferrybus/codec/PacketType;"⟩ : MethodName)) hown (mvT hZ (hw _ (List.mem_of_getElem? (i := 1) rfl))) (mvT hZ (hw _ (List.mem_of_getElem? (i := 2) rfl))) (mvT hZ (hw _ (List.mem_of_getElem? (i := 3) rfl))) (mvT hZ (hw _ (List.mem_of_getElem? (i := 4) rfl))) (by decide) (own_back (W := 0) (rm1_4 l Z a0 hw []  A hW h0 x0 ) hZ (hw _ (List.mem_of_getElem? (i := 4) rfl)) (hw _ (List.mem_of_getElem? (i := 3) rfl)) (by decide) (by decide)) (g := (mkF m 9 #[.val (.int p0), .val (.int p1), .val (.int p2), .val (.int (4 : Int32)), .unset, .unset, .unset, .unset] [(.int (4 : Int32))])) rfl (by rw [hml]; rfl) (argsL := [(.int (4 : Int32))]) (rest := []) (lenOf pd_0 rfl) rfl (by show 2 * 0 + _ ≤ _; exact Nat.le_of_eq rfl) (hb hby at_9) (fun _ _ => ⟨rfl, e0, (by decide : 0 + 0 ≤ _), (by decide : 0 + 0 ≤ _)⟩)
    dsimp only [Pt.U, Pt.locs, Pt.cells, Pt.slots] at X23 l23 y23 z23 st23 hQ23
    subst l23 y23 z23
    obtain ⟨rfl, N23q, e23⟩ := hQ23
    have N23 := Fr.app N0 N23q
    refine own_go (B := T23.setTop (mkF m 12 #[.val (.int p0), .val (.int p1), .val (.int p2), .val (.int (4 : Int32)), .unset, .unset, .unset, .unset] [(.ref (A 10))])) st23 ?_
    refine own_go (B := T23.setTop (mkF m 14 #[.val (.int p0), .val (.int p1), .val (.int p2), .val (.int (4 : Int32)), .val (.ref (A 10)), .unset, .unset, .unset] [])) (fun _ k => XS.astore X23.here hx rfl (hb hby at_12) rfl rfl (l' := #[.val (.int p0), .val (.int p1), .val (.int p2), .val (.int (4 : Int32)), .val (.ref (A 10)), .unset, .unset, .unset]) rfl k) ?_
    refine own_go (B := T23.setTop (mkF m 15 #[.val (.int p0), .val (.int p1), .val (.int p2), .val (.int (4 : Int32)), .val (.ref (A 10)), .unset, .unset, .unset] [(.int p2)])) (fun _ k => XS.iloadN X23.here hx rfl (hb hby at_14) rfl k) ?_
    refine own_go (B := T23.setTop (mkF m 16 #[.val (.int p0), .val (.int p1), .val (.int p2), .val (.int (4 : Int32)), .val (.ref (A 10)), .unset, .unset, .unset] [(.int (3 : Int32)), (.int p2)])) (fun _ k => XT.iconstV X23.here hx rfl (3 : Int32) (hb hby at_15) rfl k) ?_
    refine own_go (B := T23.setTop (mkF m 17 #[.val (.int p0), .val (.int p1), .val (.int p2), .val (.int (4 : Int32)), .val (.ref (A 10)), .unset, .unset, .unset] [(.int (p2 &&& (3 : Int32)))])) (fun _ k => XS.iand X23.here hx rfl (hb hby at_16) rfl k) ?_
    refine own_go (B := T23.setTop (mkF m 19 #[.val (.int p0), .val (.int p1), .val (.int p2), .val (.int (4 : Int32)), .val (.ref (A 10)), .val (.int (p2 &&& (3 : Int32))), .unset, .unset] [])) (fun _ k => XS.istore X23.here hx rfl (hb hby at_17) rfl (l' := #[.val (.int p0), .val (.int p1), .val (.int p2), .val (.int (4 : Int32)), .val (.ref (A 10)), .val (.int (p2 &&& (3 : Int32))), .unset, .unset]) rfl k) ?_
    have tail : ∀ fl : Int32, own_G p.tables e below s (fun v_ h_ L_ => v_ = some (.int (1 : Int32)) ∧ Fr Z.heap.size L_) room_1.cells room_1.slots (T23.setTop (mkF m 50 #[.val (.int p0), .val (.int p1), .val (.int p2), .val (.int (4 : Int32)), .val (.ref (A 10)), .val (.int (p2 &&& (3 : Int32))), .val (.int fl), .unset] [])) := by
      intro fl
      refine own_go (B := T23.setTop (mkF m 51 #[.val (.int p0), .val (.int p1), .val (.int p2), .val (.int (4 : Int32)), .val (.ref (A 10)), .val (.int (p2 &&& (3 : Int32))), .val (.int fl), .unset] [(.int (4 : Int32))])) (fun _ k => XS.iloadN X23.here hx rfl (hb hby at_50) rfl k) ?_
      refine own_go (B := T23.setTop (mkF m 52 #[.val (.int p0), .val (.int p1), .val (.int p2), .val (.int (4 : Int32)), .val (.ref (A 10)), .val (.int (p2 &&& (3 : Int32))), .val (.int fl), .unset] [(.int (2 : Int32)), (.int (4 : Int32))])) (fun _ k => XT.iconstV X23.here hx rfl (2 : Int32) (hb hby at_51) rfl k) ?_
      refine own_go (B := T23.setTop (mkF m 61 #[.val (.int p0), .val (.int p1), .val (.int p2), .val (.int (4 : Int32)), .val (.ref (A 10)), .val (.int (p2 &&& (3 : Int32))), .val (.int fl), .unset] [])) (fun _ k => XS.icmpYes X23.here hx rfl (pc0 := 52) (pc' := 61) rfl (hb hby at_52) rfl (by decide) (by decide) (by decide) k) ?_
      refine own_go (B := T23.setTop (mkF m 62 #[.val (.int p0), .val (.int p1), .val (.int p2), .val (.int (4 : Int32)), .val (.ref (A 10)), .val (.int (p2 &&& (3 : Int32))), .val (.int fl), .unset] [(.int (4 : Int32))])) (fun _ k => XS.iloadN X23.here hx rfl (hb hby at_61) rfl k) ?_
      refine own_go (B := T23.setTop (mkF m 63 #[.val (.int p0), .val (.int p1), .val (.int p2), .val (.int (4 : Int32)), .val (.ref (A 10)), .val (.int (p2 &&& (3 : Int32))), .val (.int fl), .unset] [(.int (5 : Int32)), (.int (4 : Int32))])) (fun _ k => XT.iconstV X23.here hx rfl (5 : Int32) (hb hby at_62) rfl k) ?_
      refine own_go (B := T23.setTop (mkF m 66 #[.val (.int p0), .val (.int p1), .val (.int p2), .val (.int (4 : Int32)), .val (.ref (A 10)), .val (.int (p2 &&& (3 : Int32))), .val (.int fl), .unset] [])) (fun _ k => XS.icmpNo X23.here hx rfl (hb hby at_63) rfl (by decide) k) ?_
      refine own_go (B := T23.setTop (mkF m 67 #[.val (.int p0), .val (.int p1), .val (.int p2), .val (.int (4 : Int32)), .val (.ref (A 10)), .val (.int (p2 &&& (3 : Int32))), .val (.int fl), .unset] [(.int (4 : Int32))])) (fun _ k => XS.iloadN X23.here hx rfl (hb hby at_66) rfl k) ?_
      refine own_go (B := T23.setTop (mkF m 69 #[.val (.int p0), .val (.int p1), .val (.int p2), .val (.int (4 : Int32)), .val (.ref (A 10)), .val (.int (p2 &&& (3 : Int32))), .val (.int fl), .unset] [(.int (7 : Int32)), (.int (4 : Int32))])) (fun _ k => XT.bipushV X23.here hx rfl (7 : Int32) (hb hby at_67) (by decide) k) ?_
      refine own_go (B := T23.setTop (mkF m 72 #[.val (.int p0), .val (.int p1), .val (.int p2), .val (.int (4 : Int32)), .val (.ref (A 10)), .val (.int (p2 &&& (3 : Int32))), .val (.int fl), .unset] [])) (fun _ k => XS.icmpNo X23.here hx rfl (hb hby at_69) rfl (by decide) k) ?_
      refine own_go (B := T23.setTop (mkF m 73 #[.val (.int p0), .val (.int p1), .val (.int p2), .val (.int (4 : Int32)), .val (.ref (A 10)), .val (.int (p2 &&& (3 : Int32))), .val (.int fl), .unset] [(.int (4 : Int32))])) (fun _ k => XS.iloadN X23.here hx rfl (hb hby at_72) rfl k) ?_
      refine own_go (B := T23.setTop (mkF m 75 #[.val (.int p0), .val (.int p1), .val (.int p2), .val (.int (4 : Int32)), .val (.ref (A 10)), .val (.int (p2 &&& (3 : Int32))), .val (.int fl), .unset] [(.int (9 : Int32)), (.int (4 : Int32))])) (fun _ k => XT.bipushV X23.here hx rfl (9 : Int32) (hb hby at_73) (by decide) k) ?_
      refine own_go (B := T23.setTop (mkF m 94 #[.val (.int p0), .val (.int p1), .val (.int p2), .val (.int (4 : Int32)), .val (.ref (A 10)), .val (.int (p2 &&& (3 : Int32))), .val (.int fl), .unset] [])) (fun _ k => XS.icmpYes X23.here hx rfl (pc0 := 75) (pc' := 94) rfl (hb hby at_75) rfl (by decide) (by decide) (by decide) k) ?_
      refine own_go (B := T23.setTop (mkF m 96 #[.val (.int p0), .val (.int p1), .val (.int p2), .val (.int (4 : Int32)), .val (.ref (A 10)), .val (.int (p2 &&& (3 : Int32))), .val (.int fl), .unset] [(.int fl)])) (fun _ k => XS.iload X23.here hx rfl (hb hby at_94) rfl k) ?_
      by_cases hc9624 : fl = (0 : Int32)
      · refine own_go (B := T23.setTop (mkF m 99 #[.val (.int p0), .val (.int p1), .val (.int p2), .val (.int (4 : Int32)), .val (.ref (A 10)), .val (.int (p2 &&& (3 : Int32))), .val (.int fl), .unset] [])) (fun _ k => XS.ifNo X23.here hx rfl (hb hby at_96) rfl ((if0 _ _).trans (teq hc9624).2) k) ?_
        refine own_go (B := T23.setTop (mkF m 100 #[.val (.int p0), .val (.int p1), .val (.int p2), .val (.int (4 : Int32)), .val (.ref (A 10)), .val (.int (p2 &&& (3 : Int32))), .val (.int fl), .unset] [(.int (1 : Int32))])) (fun _ k => XT.iconstV X23.here hx rfl (1 : Int32) (hb hby at_99) rfl k) ?_
        refine own_go (B := T23.setTop (mkF m 104 #[.val (.int p0), .val (.int p1), .val (.int p2), .val (.int (4 : Int32)), .val (.ref (A 10)), .val (.int (p2 &&& (3 : Int32))), .val (.int fl), .unset] [(.int (1 : Int32))])) (fun _ k => XS.goto X23.here hx rfl (pc0 := 100) (pc' := 104) rfl (hb hby at_100) (by decide) (by decide) k) ?_
        refine own_go (B := T23.setTop (mkF m 106 #[.val (.int p0), .val (.int p1), .val (.int p2), .val (.int (4 : Int32)), .val (.ref (A 10)), .val (.int (p2 &&& (3 : Int32))), .val (.int fl), .val (.int (1 : Int32))] [])) (fun _ k => XS.istore X23.here hx rfl (hb hby at_104) rfl (l' := #[.val (.int p0), .val (.int p1), .val (.int p2), .val (.int (4 : Int32)), .val (.ref (A 10)), .val (.int (p2 &&& (3 : Int32))), .val (.int fl), .val (.int (1 : Int32))]) rfl k) ?_
        refine own_go (B := T23.setTop (mkF m 108 #[.val (.int p0), .val (.int p1), .val (.int p2), .val (.int (4 : Int32)), .val (.ref (A 10)), .val (.int (p2 &&& (3 : Int32))), .val (.int fl), .val (.int (1 : Int32))] [(.ref (A 10))])) (fun _ k => XS.aload X23.here hx rfl (hb hby at_106) rfl rfl k) ?_
        refine own_go (B := T23.setTop (mkF m 110 #[.val (.int p0), .val (.int p1), .val (.int p2), .val (.int (4 : Int32)), .val (.ref (A 10)), .val (.int (p2 &&& (3 : Int32))), .val (.int fl), .val (.int (1 : Int32))] [(.int fl), (.ref (A 10))])) (fun _ k => XS.iload X23.here hx rfl (hb hby at_108) rfl k) ?_
        obtain ⟨cq25, kq25, q25a, q25b, q25c⟩ := isOf hZ e23 (E_PUBREC.ext x0)
        obtain ⟨_, _, ⟨T25, L25, k25, n25⟩, -, X25, ⟨Lc25, hQ25, l25, y25, z25⟩, st25⟩ := X23.virtualBack hx (y := (⟨"com/example/ferrybus/ferrybus/codec/PacketType", "allows", "(I)Z"⟩ : MethodName)) (z := (⟨"com/example/ferrybus/ferrybus/codec/PacketType", "allows", "(I)Z"⟩ : MethodName)) hown (mvT hZ (hw _ (List.mem_of_getElem? (i := 8) rfl))) (mvT hZ (hw _ (List.mem_of_getElem? (i := 9) rfl))) (notFace_of_selects (args := #[]) (mvT hZ (hw _ (List.mem_of_getElem? (i := 11) rfl)))) (mvT hZ (hw _ (List.mem_of_getElem? (i := 11) rfl))) (mvT hZ (hw _ (List.mem_of_getElem? (i := 10) rfl))) (by decide) (own_back (W := 0) (rm2_7 l Z a0 hw [] fl A hW h0 x0 hc9624.symm) hZ (hw _ (List.mem_of_getElem? (i := 12) rfl)) (hw _ (List.mem_of_getElem? (i := 6) rfl)) (by decide) (by decide)) q25a q25c (g := (mkF m 110 #[.val (.int p0), .val (.int p1), .val (.int p2), .val (.int (4 : Int32)), .val (.ref (A 10)), .val (.int (p2 &&& (3 : Int32))), .val (.int fl), .val (.int (1 : Int32))] [(.int fl), (.ref (A 10))])) rfl (by rw [hml]; rfl) (Steps.refl _) (argsL := [(.int fl)]) (rest := []) (lenOf pd_1 rfl) rfl (by show 2 * 0 + _ ≤ _; exact Nat.le_of_eq rfl) (hb hby at_110) (fun _ _ => ⟨rfl, e23, (by decide : 0 + 0 ≤ _), (by decide : 0 + 0 ≤ _)⟩)
        dsimp only [Pt.U, Pt.locs, Pt.cells, Pt.slots] at X25 l25 y25 z25 st25 hQ25
        subst l25 y25 z25
        obtain ⟨rfl, N25q, e25⟩ := hQ25
        have N25 := Fr.app N23 N25q
        refine own_go (B := T25.setTop (mkF m 113 #[.val (.int p0), .val (.int p1), .val (.int p2), .val (.int (4 : Int32)), .val (.ref (A 10)), .val (.int (p2 &&& (3 : Int32))), .val (.int fl), .val (.int (1 : Int32))] [(.int (1 : Int32))])) (fun _ k => st25.trans k) ?_
        refine own_go (B := T25.setTop (mkF m 115 #[.val (.int p0), .val (.int p1), .val (.int p2), .val (.int (4 : Int32)), .val (.ref (A 10)), .val (.int (p2 &&& (3 : Int32))), .val (.int fl), .val (.int (1 : Int32))] [(.int (1 : Int32)), (.int (1 : Int32))])) (fun _ k => XS.iload X25.here hx rfl (hb hby at_113) rfl k) ?_
        refine own_go (B := T25.setTop (mkF m 118 #[.val (.int p0), .val (.int p1), .val (.int p2), .val (.int (4 : Int32)), .val (.ref (A 10)), .val (.int (p2 &&& (3 : Int32))), .val (.int fl), .val (.int (1 : Int32))] [])) (fun _ k => XS.icmpNo X25.here hx rfl (hb hby at_115) rfl (by decide) k) ?_
        refine own_go (B := T25.setTop (mkF m 119 #[.val (.int p0), .val (.int p1), .val (.int p2), .val (.int (4 : Int32)), .val (.ref (A 10)), .val (.int (p2 &&& (3 : Int32))), .val (.int fl), .val (.int (1 : Int32))] [(.int (1 : Int32))])) (fun _ k => XT.iconstV X25.here hx rfl (1 : Int32) (hb hby at_118) rfl k) ?_
        refine own_go (B := T25.setTop (mkF m 123 #[.val (.int p0), .val (.int p1), .val (.int p2), .val (.int (4 : Int32)), .val (.ref (A 10)), .val (.int (p2 &&& (3 : Int32))), .val (.int fl), .val (.int (1 : Int32))] [(.int (1 : Int32))])) (fun _ k => XS.goto X25.here hx rfl (pc0 := 119) (pc' := 123) rfl (hb hby at_119) (by decide) (by decide) k) ?_
        exact own_ret X25 hx (t := .boolean) hrt rfl (Or.inl ⟨rfl, by simp, _, rfl⟩) (hb hby at_123) hlk ⟨rfl, N25⟩ (by decide) (by decide)
      · refine own_go (B := T23.setTop (mkF m 103 #[.val (.int p0), .val (.int p1), .val (.int p2), .val (.int (4 : Int32)), .val (.ref (A 10)), .val (.int (p2 &&& (3 : Int32))), .val (.int fl), .unset] [])) (fun _ k => XS.ifYes X23.here hx rfl (pc0 := 96) (pc' := 103) rfl (hb hby at_96) rfl ((if0 _ _).trans (feq hc9624).2) (by decide) (by decide) k) ?_
        refine own_go (B := T23.setTop (mkF m 104 #[.val (.int p0), .val (.int p1), .val (.int p2), .val (.int (4 : Int32)), .val (.ref (A 10)), .val (.int (p2 &&& (3 : Int32))), .val (.int fl), .unset] [(.int (0 : Int32))])) (fun _ k => XT.iconstV X23.here hx rfl (0 : Int32) (hb hby at_103) rfl k) ?_
        refine own_go (B := T23.setTop (mkF m 106 #[.val (.int p0), .val (.int p1), .val (.int p2), .val (.int (4 : Int32)), .val (.ref (A 10)), .val (.int (p2 &&& (3 : Int32))), .val (.int fl), .val (.int (0 : Int32))] [])) (fun _ k => XS.istore X23.here hx rfl (hb hby at_104) rfl (l' := #[.val (.int p0), .val (.int p1), .val (.int p2), .val (.int (4 : Int32)), .val (.ref (A 10)), .val (.int (p2 &&& (3 : Int32))), .val (.int fl), .val (.int (0 : Int32))]) rfl k) ?_
        refine own_go (B := T23.setTop (mkF m 108 #[.val (.int p0), .val (.int p1), .val (.int p2), .val (.int (4 : Int32)), .val (.ref (A 10)), .val (.int (p2 &&& (3 : Int32))), .val (.int fl), .val (.int (0 : Int32))] [(.ref (A 10))])) (fun _ k => XS.aload X23.here hx rfl (hb hby at_106) rfl rfl k) ?_
        refine own_go (B := T23.setTop (mkF m 110 #[.val (.int p0), .val (.int p1), .val (.int p2), .val (.int (4 : Int32)), .val (.ref (A 10)), .val (.int (p2 &&& (3 : Int32))), .val (.int fl), .val (.int (0 : Int32))] [(.int fl), (.ref (A 10))])) (fun _ k => XS.iload X23.here hx rfl (hb hby at_108) rfl k) ?_
        obtain ⟨cq26, kq26, q26a, q26b, q26c⟩ := isOf hZ e23 (E_PUBREC.ext x0)
        obtain ⟨_, _, ⟨T26, L26, k26, n26⟩, -, X26, ⟨Lc26, hQ26, l26, y26, z26⟩, st26⟩ := X23.virtualBack hx (y := (⟨"com/example/ferrybus/ferrybus/codec/PacketType", "allows", "(I)Z"⟩ : MethodName)) (z := (⟨"com/example/ferrybus/ferrybus/codec/PacketType", "allows", "(I)Z"⟩ : MethodName)) hown (mvT hZ (hw _ (List.mem_of_getElem? (i := 8) rfl))) (mvT hZ (hw _ (List.mem_of_getElem? (i := 9) rfl))) (notFace_of_selects (args := #[]) (mvT hZ (hw _ (List.mem_of_getElem? (i := 11) rfl)))) (mvT hZ (hw _ (List.mem_of_getElem? (i := 11) rfl))) (mvT hZ (hw _ (List.mem_of_getElem? (i := 10) rfl))) (by decide) (own_back (W := 0) (rm2_8 l Z a0 hw [] fl A hW h0 x0 (fun q => hc9624 q.symm)) hZ (hw _ (List.mem_of_getElem? (i := 12) rfl)) (hw _ (List.mem_of_getElem? (i := 6) rfl)) (by decide) (by decide)) q26a q26c (g := (mkF m 110 #[.val (.int p0), .val (.int p1), .val (.int p2), .val (.int (4 : Int32)), .val (.ref (A 10)), .val (.int (p2 &&& (3 : Int32))), .val (.int fl), .val (.int (0 : Int32))] [(.int fl), (.ref (A 10))])) rfl (by rw [hml]; rfl) (Steps.refl _) (argsL := [(.int fl)]) (rest := []) (lenOf pd_1 rfl) rfl (by show 2 * 0 + _ ≤ _; exact Nat.le_of_eq rfl) (hb hby at_110) (fun _ _ => ⟨rfl, e23, (by decide : 0 + 0 ≤ _), (by decide : 0 + 0 ≤ _)⟩)
        dsimp only [Pt.U, Pt.locs, Pt.cells, Pt.slots] at X26 l26 y26 z26 st26 hQ26
        subst l26 y26 z26
        obtain ⟨rfl, N26q, e26⟩ := hQ26
        have N26 := Fr.app N23 N26q
        refine own_go (B := T26.setTop (mkF m 113 #[.val (.int p0), .val (.int p1), .val (.int p2), .val (.int (4 : Int32)), .val (.ref (A 10)), .val (.int (p2 &&& (3 : Int32))), .val (.int fl), .val (.int (0 : Int32))] [(.int (0 : Int32))])) (fun _ k => st26.trans k) ?_
        refine own_go (B := T26.setTop (mkF m 115 #[.val (.int p0), .val (.int p1), .val (.int p2), .val (.int (4 : Int32)), .val (.ref (A 10)), .val (.int (p2 &&& (3 : Int32))), .val (.int fl), .val (.int (0 : Int32))] [(.int (0 : Int32)), (.int (0 : Int32))])) (fun _ k => XS.iload X26.here hx rfl (hb hby at_113) rfl k) ?_
        refine own_go (B := T26.setTop (mkF m 118 #[.val (.int p0), .val (.int p1), .val (.int p2), .val (.int (4 : Int32)), .val (.ref (A 10)), .val (.int (p2 &&& (3 : Int32))), .val (.int fl), .val (.int (0 : Int32))] [])) (fun _ k => XS.icmpNo X26.here hx rfl (hb hby at_115) rfl (by decide) k) ?_
        refine own_go (B := T26.setTop (mkF m 119 #[.val (.int p0), .val (.int p1), .val (.int p2), .val (.int (4 : Int32)), .val (.ref (A 10)), .val (.int (p2 &&& (3 : Int32))), .val (.int fl), .val (.int (0 : Int32))] [(.int (1 : Int32))])) (fun _ k => XT.iconstV X26.here hx rfl (1 : Int32) (hb hby at_118) rfl k) ?_
        refine own_go (B := T26.setTop (mkF m 123 #[.val (.int p0), .val (.int p1), .val (.int p2), .val (.int (4 : Int32)), .val (.ref (A 10)), .val (.int (p2 &&& (3 : Int32))), .val (.int fl), .val (.int (0 : Int32))] [(.int (1 : Int32))])) (fun _ k => XS.goto X26.here hx rfl (pc0 := 119) (pc' := 123) rfl (hb hby at_119) (by decide) (by decide) k) ?_
        exact own_ret X26 hx (t := .boolean) hrt rfl (Or.inl ⟨rfl, by simp, _, rfl⟩) (hb hby at_123) hlk ⟨rfl, N26⟩ (by decide) (by decide)
    refine own_go (B := T23.setTop (mkF m 21 #[.val (.int p0), .val (.int p1), .val (.int p2), .val (.int (4 : Int32)), .val (.ref (A 10)), .val (.int (p2 &&& (3 : Int32))), .unset, .unset] [(.int (p2 &&& (3 : Int32)))])) (fun _ k => XS.iload X23.here hx rfl (hb hby at_19) rfl k) ?_
    by_cases hc2127 : (p2 &&& (3 : Int32)) = (0 : Int32)
    · refine own_go (B := T23.setTop (mkF m 24 #[.val (.int p0), .val (.int p1), .val (.int p2), .val (.int (4 : Int32)), .val (.ref (A 10)), .val (.int (p2 &&& (3 : Int32))), .unset, .unset] [])) (fun _ k => XS.ifNo X23.here hx rfl (hb hby at_21) rfl ((if0 _ _).trans (teq hc2127).2) k) ?_
      refine own_go (B := T23.setTop (mkF m 25 #[.val (.int p0), .val (.int p1), .val (.int p2), .val (.int (4 : Int32)), .val (.ref (A 10)), .val (.int (p2 &&& (3 : Int32))), .unset, .unset] [(.int p1)])) (fun _ k => XS.iloadN X23.here hx rfl (hb hby at_24) rfl k) ?_
      refine own_go (B := T23.setTop (mkF m 27 #[.val (.int p0), .val (.int p1), .val (.int p2), .val (.int (4 : Int32)), .val (.ref (A 10)), .val (.int (p2 &&& (3 : Int32))), .val (.int p1), .unset] [])) (fun _ k => XS.istore X23.here hx rfl (hb hby at_25) rfl (l' := #[.val (.int p0), .val (.int p1), .val (.int p2), .val (.int (4 : Int32)), .val (.ref (A 10)), .val (.int (p2 &&& (3 : Int32))), .val (.int p1), .unset]) rfl k) ?_
      refine own_go (B := T23.setTop (mkF m 50 #[.val (.int p0), .val (.int p1), .val (.int p2), .val (.int (4 : Int32)), .val (.ref (A 10)), .val (.int (p2 &&& (3 : Int32))), .val (.int p1), .unset] [])) (fun _ k => XS.goto X23.here hx rfl (pc0 := 27) (pc' := 50) rfl (hb hby at_27) (by decide) (by decide) k) ?_
      exact tail _
    · refine own_go (B := T23.setTop (mkF m 30 #[.val (.int p0), .val (.int p1), .val (.int p2), .val (.int (4 : Int32)), .val (.ref (A 10)), .val (.int (p2 &&& (3 : Int32))), .unset, .unset] [])) (fun _ k => XS.ifYes X23.here hx rfl (pc0 := 21) (pc' := 30) rfl (hb hby at_21) rfl ((if0 _ _).trans (feq hc2127).2) (by decide) (by decide) k) ?_
      refine own_go (B := T23.setTop (mkF m 32 #[.val (.int p0), .val (.int p1), .val (.int p2), .val (.int (4 : Int32)), .val (.ref (A 10)), .val (.int (p2 &&& (3 : Int32))), .unset, .unset] [(.int (p2 &&& (3 : Int32)))])) (fun _ k => XS.iload X23.here hx rfl (hb hby at_30) rfl k) ?_
      refine own_go (B := T23.setTop (mkF m 33 #[.val (.int p0), .val (.int p1), .val (.int p2), .val (.int (4 : Int32)), .val (.ref (A 10)), .val (.int (p2 &&& (3 : Int32))), .unset, .unset] [(.int (1 : Int32)), (.int (p2 &&& (3 : Int32)))])) (fun _ k => XT.iconstV X23.here hx rfl (1 : Int32) (hb hby at_32) rfl k) ?_
      by_cases hc3328 : (p2 &&& (3 : Int32)) = (1 : Int32)
      · refine own_go (B := T23.setTop (mkF m 36 #[.val (.int p0), .val (.int p1), .val (.int p2), .val (.int (4 : Int32)), .val (.ref (A 10)), .val (.int (p2 &&& (3 : Int32))), .unset, .unset] [])) (fun _ k => XS.icmpNo X23.here hx rfl (hb hby at_33) rfl (teq hc3328).2 k) ?_
        refine own_go (B := T23.setTop (mkF m 37 #[.val (.int p0), .val (.int p1), .val (.int p2), .val (.int (4 : Int32)), .val (.ref (A 10)), .val (.int (p2 &&& (3 : Int32))), .unset, .unset] [(.int p1)])) (fun _ k => XS.iloadN X23.here hx rfl (hb hby at_36) rfl k) ?_
        refine own_go (B := T23.setTop (mkF m 39 #[.val (.int p0), .val (.int p1), .val (.int p2), .val (.int (4 : Int32)), .val (.ref (A 10)), .val (.int (p2 &&& (3 : Int32))), .unset, .unset] [(.int (15 : Int32)), (.int p1)])) (fun _ k => XT.bipushV X23.here hx rfl (15 : Int32) (hb hby at_37) (by decide) k) ?_
        refine own_go (B := T23.setTop (mkF m 40 #[.val (.int p0), .val (.int p1), .val (.int p2), .val (.int (4 : Int32)), .val (.ref (A 10)), .val (.int (p2 &&& (3 : Int32))), .unset, .unset] [(.int (p1 &&& (15 : Int32)))])) (fun _ k => XS.iand X23.here hx rfl (hb hby at_39) rfl k) ?_
        refine own_go (B := T23.setTop (mkF m 42 #[.val (.int p0), .val (.int p1), .val (.int p2), .val (.int (4 : Int32)), .val (.ref (A 10)), .val (.int (p2 &&& (3 : Int32))), .val (.int (p1 &&& (15 : Int32))), .unset] [])) (fun _ k => XS.istore X23.here hx rfl (hb hby at_40) rfl (l' := #[.val (.int p0), .val (.int p1), .val (.int p2), .val (.int (4 : Int32)), .val (.ref (A 10)), .val (.int (p2 &&& (3 : Int32))), .val (.int (p1 &&& (15 : Int32))), .unset]) rfl k) ?_
        refine own_go (B := T23.setTop (mkF m 50 #[.val (.int p0), .val (.int p1), .val (.int p2), .val (.int (4 : Int32)), .val (.ref (A 10)), .val (.int (p2 &&& (3 : Int32))), .val (.int (p1 &&& (15 : Int32))), .unset] [])) (fun _ k => XS.goto X23.here hx rfl (pc0 := 42) (pc' := 50) rfl (hb hby at_42) (by decide) (by decide) k) ?_
        exact tail _
      · refine own_go (B := T23.setTop (mkF m 45 #[.val (.int p0), .val (.int p1), .val (.int p2), .val (.int (4 : Int32)), .val (.ref (A 10)), .val (.int (p2 &&& (3 : Int32))), .unset, .unset] [])) (fun _ k => XS.icmpYes X23.here hx rfl (pc0 := 33) (pc' := 45) rfl (hb hby at_33) rfl (feq hc3328).2 (by decide) (by decide) k) ?_
        refine own_go (B := T23.setTop (mkF m 46 #[.val (.int p0), .val (.int p1), .val (.int p2), .val (.int (4 : Int32)), .val (.ref (A 10)), .val (.int (p2 &&& (3 : Int32))), .unset, .unset] [(.int p1)])) (fun _ k => XS.iloadN X23.here hx rfl (hb hby at_45) rfl k) ?_
        refine own_go (B := T23.setTop (mkF m 47 #[.val (.int p0), .val (.int p1), .val (.int p2), .val (.int (4 : Int32)), .val (.ref (A 10)), .val (.int (p2 &&& (3 : Int32))), .unset, .unset] [(.int (3 : Int32)), (.int p1)])) (fun _ k => XT.iconstV X23.here hx rfl (3 : Int32) (hb hby at_46) rfl k) ?_
        refine own_go (B := T23.setTop (mkF m 48 #[.val (.int p0), .val (.int p1), .val (.int p2), .val (.int (4 : Int32)), .val (.ref (A 10)), .val (.int (p2 &&& (3 : Int32))), .unset, .unset] [(.int (p1 &&& (3 : Int32)))])) (fun _ k => XS.iand X23.here hx rfl (hb hby at_47) rfl k) ?_
        refine own_go (B := T23.setTop (mkF m 50 #[.val (.int p0), .val (.int p1), .val (.int p2), .val (.int (4 : Int32)), .val (.ref (A 10)), .val (.int (p2 &&& (3 : Int32))), .val (.int (p1 &&& (3 : Int32))), .unset] [])) (fun _ k => XS.istore X23.here hx rfl (hb hby at_48) rfl (l' := #[.val (.int p0), .val (.int p1), .val (.int p2), .val (.int (4 : Int32)), .val (.ref (A 10)), .val (.int (p2 &&& (3 : Int32))), .val (.int (p1 &&& (3 : Int32))), .unset]) rfl k) ?_
        exact tail _
  · refine own_go (B := s₁.setTop (mkF m 9 #[.val (.int p0), .val (.int p1), .val (.int p2), .val (.int (5 : Int32)), .unset, .unset, .unset, .unset] [(.int (5 : Int32))])) (fun _ k => XS.iloadN X0.here hx rfl (hb hby at_8) rfl k) ?_
    obtain ⟨_, _, ⟨T29, L29, k29, n29⟩, -, X29, ⟨Lc29, hQ29, l29, y29, z29⟩, st29⟩ := Jvm.LawKit.callS X0 hx (y := (⟨"com/example/ferrybus/ferrybus/codec/PacketTypeAllowsPinLaw", "pick", "(I)Lcom/example/ferrybus/ferrybus/codec/PacketType;"⟩ : MethodName)) hown (mvT hZ (hw _ (List.mem_of_getElem? (i := 1) rfl))) (mvT hZ (hw _ (List.mem_of_getElem? (i := 2) rfl))) (mvT hZ (hw _ (List.mem_of_getElem? (i := 3) rfl))) (mvT hZ (hw _ (List.mem_of_getElem? (i := 4) rfl))) (by decide) (own_back (W := 0) (rm1_5 l Z a0 hw []  A hW h0 x0 ) hZ (hw _ (List.mem_of_getElem? (i := 4) rfl)) (hw _ (List.mem_of_getElem? (i := 3) rfl)) (by decide) (by decide)) (g := (mkF m 9 #[.val (.int p0), .val (.int p1), .val (.int p2), .val (.int (5 : Int32)), .unset, .unset, .unset, .unset] [(.int (5 : Int32))])) rfl (by rw [hml]; rfl) (argsL := [(.int (5 : Int32))]) (rest := []) (lenOf pd_0 rfl) rfl (by show 2 * 0 + _ ≤ _; exact Nat.le_of_eq rfl) (hb hby at_9) (fun _ _ => ⟨rfl, e0, (by decide : 0 + 0 ≤ _), (by decide : 0 + 0 ≤ _)⟩)
    dsimp only [Pt.U, Pt.locs, Pt.cells, Pt.slots] at X29 l29 y29 z29 st29 hQ29
    subst l29 y29 z29
    obtain ⟨rfl, N29q, e29⟩ := hQ29
    have N29 := Fr.app N0 N29q
    refine own_go (B := T29.setTop (mkF m 12 #[.val (.int p0), .val (.int p1), .val (.int p2), .val (.int (5 : Int32)), .unset, .unset, .unset, .unset] [(.ref (A 3))])) st29 ?_
    refine own_go (B := T29.setTop (mkF m 14 #[.val (.int p0), .val (.int p1), .val (.int p2), .val (.int (5 : Int32)), .val (.ref (A 3)), .unset, .unset, .unset] [])) (fun _ k => XS.astore X29.here hx rfl (hb hby at_12) rfl rfl (l' := #[.val (.int p0), .val (.int p1), .val (.int p2), .val (.int (5 : Int32)), .val (.ref (A 3)), .unset, .unset, .unset]) rfl k) ?_
    refine own_go (B := T29.setTop (mkF m 15 #[.val (.int p0), .val (.int p1), .val (.int p2), .val (.int (5 : Int32)), .val (.ref (A 3)), .unset, .unset, .unset] [(.int p2)])) (fun _ k => XS.iloadN X29.here hx rfl (hb hby at_14) rfl k) ?_
    refine own_go (B := T29.setTop (mkF m 16 #[.val (.int p0), .val (.int p1), .val (.int p2), .val (.int (5 : Int32)), .val (.ref (A 3)), .unset, .unset, .unset] [(.int (3 : Int32)), (.int p2)])) (fun _ k => XT.iconstV X29.here hx rfl (3 : Int32) (hb hby at_15) rfl k) ?_
    refine own_go (B := T29.setTop (mkF m 17 #[.val (.int p0), .val (.int p1), .val (.int p2), .val (.int (5 : Int32)), .val (.ref (A 3)), .unset, .unset, .unset] [(.int (p2 &&& (3 : Int32)))])) (fun _ k => XS.iand X29.here hx rfl (hb hby at_16) rfl k) ?_
    refine own_go (B := T29.setTop (mkF m 19 #[.val (.int p0), .val (.int p1), .val (.int p2), .val (.int (5 : Int32)), .val (.ref (A 3)), .val (.int (p2 &&& (3 : Int32))), .unset, .unset] [])) (fun _ k => XS.istore X29.here hx rfl (hb hby at_17) rfl (l' := #[.val (.int p0), .val (.int p1), .val (.int p2), .val (.int (5 : Int32)), .val (.ref (A 3)), .val (.int (p2 &&& (3 : Int32))), .unset, .unset]) rfl k) ?_
    have tail : ∀ fl : Int32, own_G p.tables e below s (fun v_ h_ L_ => v_ = some (.int (1 : Int32)) ∧ Fr Z.heap.size L_) room_1.cells room_1.slots (T29.setTop (mkF m 50 #[.val (.int p0), .val (.int p1), .val (.int p2), .val (.int (5 : Int32)), .val (.ref (A 3)), .val (.int (p2 &&& (3 : Int32))), .val (.int fl), .unset] [])) := by
      intro fl
      refine own_go (B := T29.setTop (mkF m 51 #[.val (.int p0), .val (.int p1), .val (.int p2), .val (.int (5 : Int32)), .val (.ref (A 3)), .val (.int (p2 &&& (3 : Int32))), .val (.int fl), .unset] [(.int (5 : Int32))])) (fun _ k => XS.iloadN X29.here hx rfl (hb hby at_50) rfl k) ?_
      refine own_go (B := T29.setTop (mkF m 52 #[.val (.int p0), .val (.int p1), .val (.int p2), .val (.int (5 : Int32)), .val (.ref (A 3)), .val (.int (p2 &&& (3 : Int32))), .val (.int fl), .unset] [(.int (2 : Int32)), (.int (5 : Int32))])) (fun _ k => XT.iconstV X29.here hx rfl (2 : Int32) (hb hby at_51) rfl k) ?_
      refine own_go (B := T29.setTop (mkF m 61 #[.val (.int p0), .val (.int p1), .val (.int p2), .val (.int (5 : Int32)), .val (.ref (A 3)), .val (.int (p2 &&& (3 : Int32))), .val (.int fl), .unset] [])) (fun _ k => XS.icmpYes X29.here hx rfl (pc0 := 52) (pc' := 61) rfl (hb hby at_52) rfl (by decide) (by decide) (by decide) k) ?_
      refine own_go (B := T29.setTop (mkF m 62 #[.val (.int p0), .val (.int p1), .val (.int p2), .val (.int (5 : Int32)), .val (.ref (A 3)), .val (.int (p2 &&& (3 : Int32))), .val (.int fl), .unset] [(.int (5 : Int32))])) (fun _ k => XS.iloadN X29.here hx rfl (hb hby at_61) rfl k) ?_
      refine own_go (B := T29.setTop (mkF m 63 #[.val (.int p0), .val (.int p1), .val (.int p2), .val (.int (5 : Int32)), .val (.ref (A 3)), .val (.int (p2 &&& (3 : Int32))), .val (.int fl), .unset] [(.int (5 : Int32)), (.int (5 : Int32))])) (fun _ k => XT.iconstV X29.here hx rfl (5 : Int32) (hb hby at_62) rfl k) ?_
      refine own_go (B := T29.setTop (mkF m 78 #[.val (.int p0), .val (.int p1), .val (.int p2), .val (.int (5 : Int32)), .val (.ref (A 3)), .val (.int (p2 &&& (3 : Int32))), .val (.int fl), .unset] [])) (fun _ k => XS.icmpYes X29.here hx rfl (pc0 := 63) (pc' := 78) rfl (hb hby at_63) rfl (by decide) (by decide) (by decide) k) ?_
      refine own_go (B := T29.setTop (mkF m 80 #[.val (.int p0), .val (.int p1), .val (.int p2), .val (.int (5 : Int32)), .val (.ref (A 3)), .val (.int (p2 &&& (3 : Int32))), .val (.int fl), .unset] [(.int fl)])) (fun _ k => XS.iload X29.here hx rfl (hb hby at_78) rfl k) ?_
      refine own_go (B := T29.setTop (mkF m 81 #[.val (.int p0), .val (.int p1), .val (.int p2), .val (.int (5 : Int32)), .val (.ref (A 3)), .val (.int (p2 &&& (3 : Int32))), .val (.int fl), .unset] [(.int (2 : Int32)), (.int fl)])) (fun _ k => XT.iconstV X29.here hx rfl (2 : Int32) (hb hby at_80) rfl k) ?_
      by_cases hc8130 : fl = (2 : Int32)
      · refine own_go (B := T29.setTop (mkF m 84 #[.val (.int p0), .val (.int p1), .val (.int p2), .val (.int (5 : Int32)), .val (.ref (A 3)), .val (.int (p2 &&& (3 : Int32))), .val (.int fl), .unset] [])) (fun _ k => XS.icmpNo X29.here hx rfl (hb hby at_81) rfl (teq hc8130).2 k) ?_
        refine own_go (B := T29.setTop (mkF m 85 #[.val (.int p0), .val (.int p1), .val (.int p2), .val (.int (5 : Int32)), .val (.ref (A 3)), .val (.int (p2 &&& (3 : Int32))), .val (.int fl), .unset] [(.int (1 : Int32))])) (fun _ k => XT.iconstV X29.here hx rfl (1 : Int32) (hb hby at_84) rfl k) ?_
        refine own_go (B := T29.setTop (mkF m 89 #[.val (.int p0), .val (.int p1), .val (.int p2), .val (.int (5 : Int32)), .val (.ref (A 3)), .val (.int (p2 &&& (3 : Int32))), .val (.int fl), .unset] [(.int (1 : Int32))])) (fun _ k => XS.goto X29.here hx rfl (pc0 := 85) (pc' := 89) rfl (hb hby at_85) (by decide) (by decide) k) ?_
        refine own_go (B := T29.setTop (mkF m 91 #[.val (.int p0), .val (.int p1), .val (.int p2), .val (.int (5 : Int32)), .val (.ref (A 3)), .val (.int (p2 &&& (3 : Int32))), .val (.int fl), .val (.int (1 : Int32))] [])) (fun _ k => XS.istore X29.here hx rfl (hb hby at_89) rfl (l' := #[.val (.int p0), .val (.int p1), .val (.int p2), .val (.int (5 : Int32)), .val (.ref (A 3)), .val (.int (p2 &&& (3 : Int32))), .val (.int fl), .val (.int (1 : Int32))]) rfl k) ?_
        refine own_go (B := T29.setTop (mkF m 106 #[.val (.int p0), .val (.int p1), .val (.int p2), .val (.int (5 : Int32)), .val (.ref (A 3)), .val (.int (p2 &&& (3 : Int32))), .val (.int fl), .val (.int (1 : Int32))] [])) (fun _ k => XS.goto X29.here hx rfl (pc0 := 91) (pc' := 106) rfl (hb hby at_91) (by decide) (by decide) k) ?_
        refine own_go (B := T29.setTop (mkF m 108 #[.val (.int p0), .val (.int p1), .val (.int p2), .val (.int (5 : Int32)), .val (.ref (A 3)), .val (.int (p2 &&& (3 : Int32))), .val (.int fl), .val (.int (1 : Int32))] [(.ref (A 3))])) (fun _ k => XS.aload X29.here hx rfl (hb hby at_106) rfl rfl k) ?_
        refine own_go (B := T29.setTop (mkF m 110 #[.val (.int p0), .val (.int p1), .val (.int p2), .val (.int (5 : Int32)), .val (.ref (A 3)), .val (.int (p2 &&& (3 : Int32))), .val (.int fl), .val (.int (1 : Int32))] [(.int fl), (.ref (A 3))])) (fun _ k => XS.iload X29.here hx rfl (hb hby at_108) rfl k) ?_
        obtain ⟨cq31, kq31, q31a, q31b, q31c⟩ := isOf hZ e29 (E_PUBREL.ext x0)
        obtain ⟨_, _, ⟨T31, L31, k31, n31⟩, -, X31, ⟨Lc31, hQ31, l31, y31, z31⟩, st31⟩ := X29.virtualBack hx (y := (⟨"com/example/ferrybus/ferrybus/codec/PacketType", "allows", "(I)Z"⟩ : MethodName)) (z := (⟨"com/example/ferrybus/ferrybus/codec/PacketType", "allows", "(I)Z"⟩ : MethodName)) hown (mvT hZ (hw _ (List.mem_of_getElem? (i := 8) rfl))) (mvT hZ (hw _ (List.mem_of_getElem? (i := 9) rfl))) (notFace_of_selects (args := #[]) (mvT hZ (hw _ (List.mem_of_getElem? (i := 11) rfl)))) (mvT hZ (hw _ (List.mem_of_getElem? (i := 11) rfl))) (mvT hZ (hw _ (List.mem_of_getElem? (i := 10) rfl))) (by decide) (own_back (W := 0) (rm2_9 l Z a0 hw [] fl A hW h0 x0 hc8130.symm) hZ (hw _ (List.mem_of_getElem? (i := 12) rfl)) (hw _ (List.mem_of_getElem? (i := 6) rfl)) (by decide) (by decide)) q31a q31c (g := (mkF m 110 #[.val (.int p0), .val (.int p1), .val (.int p2), .val (.int (5 : Int32)), .val (.ref (A 3)), .val (.int (p2 &&& (3 : Int32))), .val (.int fl), .val (.int (1 : Int32))] [(.int fl), (.ref (A 3))])) rfl (by rw [hml]; rfl) (Steps.refl _) (argsL := [(.int fl)]) (rest := []) (lenOf pd_1 rfl) rfl (by show 2 * 0 + _ ≤ _; exact Nat.le_of_eq rfl) (hb hby at_110) (fun _ _ => ⟨rfl, e29, (by decide : 0 + 0 ≤ _), (by decide : 0 + 0 ≤ _)⟩)
        dsimp only [Pt.U, Pt.locs, Pt.cells, Pt.slots] at X31 l31 y31 z31 st31 hQ31
        subst l31 y31 z31
        obtain ⟨rfl, N31q, e31⟩ := hQ31
        have N31 := Fr.app N29 N31q
        refine own_go (B := T31.setTop (mkF m 113 #[.val (.int p0), .val (.int p1), .val (.int p2), .val (.int (5 : Int32)), .val (.ref (A 3)), .val (.int (p2 &&& (3 : Int32))), .val (.int fl), .val (.int (1 : Int32))] [(.int (1 : Int32))])) (fun _ k => st31.trans k) ?_
        refine own_go (B := T31.setTop (mkF m 115 #[.val (.int p0), .val (.int p1), .val (.int p2), .val (.int (5 : Int32)), .val (.ref (A 3)), .val (.int (p2 &&& (3 : Int32))), .val (.int fl), .val (.int (1 : Int32))] [(.int (1 : Int32)), (.int (1 : Int32))])) (fun _ k => XS.iload X31.here hx rfl (hb hby at_113) rfl k) ?_
        refine own_go (B := T31.setTop (mkF m 118 #[.val (.int p0), .val (.int p1), .val (.int p2), .val (.int (5 : Int32)), .val (.ref (A 3)), .val (.int (p2 &&& (3 : Int32))), .val (.int fl), .val (.int (1 : Int32))] [])) (fun _ k => XS.icmpNo X31.here hx rfl (hb hby at_115) rfl (by decide) k) ?_
        refine own_go (B := T31.setTop (mkF m 119 #[.val (.int p0), .val (.int p1), .val (.int p2), .val (.int (5 : Int32)), .val (.ref (A 3)), .val (.int (p2 &&& (3 : Int32))), .val (.int fl), .val (.int (1 : Int32))] [(.int (1 : Int32))])) (fun _ k => XT.iconstV X31.here hx rfl (1 : Int32) (hb hby at_118) rfl k) ?_
        refine own_go (B := T31.setTop (mkF m 123 #[.val (.int p0), .val (.int p1), .val (.int p2), .val (.int (5 : Int32)), .val (.ref (A 3)), .val (.int (p2 &&& (3 : Int32))), .val (.int fl), .val (.int (1 : Int32))] [(.int (1 : Int32))])) (fun _ k => XS.goto X31.here hx rfl (pc0 := 119) (pc' := 123) rfl (hb hby at_119) (by decide) (by decide) k) ?_
        exact own_ret X31 hx (t := .boolean) hrt rfl (Or.inl ⟨rfl, by simp, _, rfl⟩) (hb hby at_123) hlk ⟨rfl, N31⟩ (by decide) (by decide)
      · refine own_go (B := T29.setTop (mkF m 88 #[.val (.int p0), .val (.int p1), .val (.int p2), .val (.int (5 : Int32)), .val (.ref (A 3)), .val (.int (p2 &&& (3 : Int32))), .val (.int fl), .unset] [])) (fun _ k => XS.icmpYes X29.here hx rfl (pc0 := 81) (pc' := 88) rfl (hb hby at_81) rfl (feq hc8130).2 (by decide) (by decide) k) ?_
        refine own_go (B := T29.setTop (mkF m 89 #[.val (.int p0), .val (.int p1), .val (.int p2), .val (.int (5 : Int32)), .val (.ref (A 3)), .val (.int (p2 &&& (3 : Int32))), .val (.int fl), .unset] [(.int (0 : Int32))])) (fun _ k => XT.iconstV X29.here hx rfl (0 : Int32) (hb hby at_88) rfl k) ?_
        refine own_go (B := T29.setTop (mkF m 91 #[.val (.int p0), .val (.int p1), .val (.int p2), .val (.int (5 : Int32)), .val (.ref (A 3)), .val (.int (p2 &&& (3 : Int32))), .val (.int fl), .val (.int (0 : Int32))] [])) (fun _ k => XS.istore X29.here hx rfl (hb hby at_89) rfl (l' := #[.val (.int p0), .val (.int p1), .val (.int p2), .val (.int (5 : Int32)), .val (.ref (A 3)), .val (.int (p2 &&& (3 : Int32))), .val (.int fl), .val (.int (0 : Int32))]) rfl k) ?_
        refine own_go (B := T29.setTop (mkF m 106 #[.val (.int p0), .val (.int p1), .val (.int p2), .val (.int (5 : Int32)), .val (.ref (A 3)), .val (.int (p2 &&& (3 : Int32))), .val (.int fl), .val (.int (0 : Int32))] [])) (fun _ k => XS.goto X29.here hx rfl (pc0 := 91) (pc' := 106) rfl (hb hby at_91) (by decide) (by decide) k) ?_
        refine own_go (B := T29.setTop (mkF m 108 #[.val (.int p0), .val (.int p1), .val (.int p2), .val (.int (5 : Int32)), .val (.ref (A 3)), .val (.int (p2 &&& (3 : Int32))), .val (.int fl), .val (.int (0 : Int32))] [(.ref (A 3))])) (fun _ k => XS.aload X29.here hx rfl (hb hby at_106) rfl rfl k) ?_
        refine own_go (B := T29.setTop (mkF m 110 #[.val (.int p0), .val (.int p1), .val (.int p2), .val (.int (5 : Int32)), .val (.ref (A 3)), .val (.int (p2 &&& (3 : Int32))), .val (.int fl), .val (.int (0 : Int32))] [(.int fl), (.ref (A 3))])) (fun _ k => XS.iload X29.here hx rfl (hb hby at_108) rfl k) ?_
        obtain ⟨cq32, kq32, q32a, q32b, q32c⟩ := isOf hZ e29 (E_PUBREL.ext x0)
        obtain ⟨_, _, ⟨T32, L32, k32, n32⟩, -, X32, ⟨Lc32, hQ32, l32, y32, z32⟩, st32⟩ := X29.virtualBack hx (y := (⟨"com/example/ferrybus/ferrybus/codec/PacketType", "allows", "(I)Z"⟩ : MethodName)) (z := (⟨"com/example/ferrybus/ferrybus/codec/PacketType", "allows", "(I)Z"⟩ : MethodName)) hown (mvT hZ (hw _ (List.mem_of_getElem? (i := 8) rfl))) (mvT hZ (hw _ (List.mem_of_getElem? (i := 9) rfl))) (notFace_of_selects (args := #[]) (mvT hZ (hw _ (List.mem_of_getElem? (i := 11) rfl)))) (mvT hZ (hw _ (List.mem_of_getElem? (i := 11) rfl))) (mvT hZ (hw _ (List.mem_of_getElem? (i := 10) rfl))) (by decide) (own_back (W := 0) (rm2_10 l Z a0 hw [] fl A hW h0 x0 (fun q => hc8130 q.symm)) hZ (hw _ (List.mem_of_getElem? (i := 12) rfl)) (hw _ (List.mem_of_getElem? (i := 6) rfl)) (by decide) (by decide)) q32a q32c (g := (mkF m 110 #[.val (.int p0), .val (.int p1), .val (.int p2), .val (.int (5 : Int32)), .val (.ref (A 3)), .val (.int (p2 &&& (3 : Int32))), .val (.int fl), .val (.int (0 : Int32))] [(.int fl), (.ref (A 3))])) rfl (by rw [hml]; rfl) (Steps.refl _) (argsL := [(.int fl)]) (rest := []) (lenOf pd_1 rfl) rfl (by show 2 * 0 + _ ≤ _; exact Nat.le_of_eq rfl) (hb hby at_110) (fun _ _ => ⟨rfl, e29, (by decide : 0 + 0 ≤ _), (by decide : 0 + 0 ≤ _)⟩)
        dsimp only [Pt.U, Pt.locs, Pt.cells, Pt.slots] at X32 l32 y32 z32 st32 hQ32
        subst l32 y32 z32
        obtain ⟨rfl, N32q, e32⟩ := hQ32
        have N32 := Fr.app N29 N32q
        refine own_go (B := T32.setTop (mkF m 113 #[.val (.int p0), .val (.int p1), .val (.int p2), .val (.int (5 : Int32)), .val (.ref (A 3)), .val (.int (p2 &&& (3 : Int32))), .val (.int fl), .val (.int (0 : Int32))] [(.int (0 : Int32))])) (fun _ k => st32.trans k) ?_
        refine own_go (B := T32.setTop (mkF m 115 #[.val (.int p0), .val (.int p1), .val (.int p2), .val (.int (5 : Int32)), .val (.ref (A 3)), .val (.int (p2 &&& (3 : Int32))), .val (.int fl), .val (.int (0 : Int32))] [(.int (0 : Int32)), (.int (0 : Int32))])) (fun _ k => XS.iload X32.here hx rfl (hb hby at_113) rfl k) ?_
        refine own_go (B := T32.setTop (mkF m 118 #[.val (.int p0), .val (.int p1), .val (.int p2), .val (.int (5 : Int32)), .val (.ref (A 3)), .val (.int (p2 &&& (3 : Int32))), .val (.int fl), .val (.int (0 : Int32))] [])) (fun _ k => XS.icmpNo X32.here hx rfl (hb hby at_115) rfl (by decide) k) ?_
        refine own_go (B := T32.setTop (mkF m 119 #[.val (.int p0), .val (.int p1), .val (.int p2), .val (.int (5 : Int32)), .val (.ref (A 3)), .val (.int (p2 &&& (3 : Int32))), .val (.int fl), .val (.int (0 : Int32))] [(.int (1 : Int32))])) (fun _ k => XT.iconstV X32.here hx rfl (1 : Int32) (hb hby at_118) rfl k) ?_
        refine own_go (B := T32.setTop (mkF m 123 #[.val (.int p0), .val (.int p1), .val (.int p2), .val (.int (5 : Int32)), .val (.ref (A 3)), .val (.int (p2 &&& (3 : Int32))), .val (.int fl), .val (.int (0 : Int32))] [(.int (1 : Int32))])) (fun _ k => XS.goto X32.here hx rfl (pc0 := 119) (pc' := 123) rfl (hb hby at_119) (by decide) (by decide) k) ?_
        exact own_ret X32 hx (t := .boolean) hrt rfl (Or.inl ⟨rfl, by simp, _, rfl⟩) (hb hby at_123) hlk ⟨rfl, N32⟩ (by decide) (by decide)
    refine own_go (B := T29.setTop (mkF m 21 #[.val (.int p0), .val (.int p1), .val (.int p2), .val (.int (5 : Int32)), .val (.ref (A 3)), .val (.int (p2 &&& (3 : Int32))), .unset, .unset] [(.int (p2 &&& (3 : Int32)))])) (fun _ k => XS.iload X29.here hx rfl (hb hby at_19) rfl k) ?_
    by_cases hc2133 : (p2 &&& (3 : Int32)) = (0 : Int32)
    · refine own_go (B := T29.setTop (mkF m 24 #[.val (.int p0), .val (.int p1), .val (.int p2), .val (.int (5 : Int32)), .val (.ref (A 3)), .val (.int (p2 &&& (3 : Int32))), .unset, .unset] [])) (fun _ k => XS.ifNo X29.here hx rfl (hb hby at_21) rfl ((if0 _ _).trans (teq hc2133).2) k) ?_
      refine own_go (B := T29.setTop (mkF m 25 #[.val (.int p0), .val (.int p1), .val (.int p2), .val (.int (5 : Int32)), .val (.ref (A 3)), .val (.int (p2 &&& (3 : Int32))), .unset, .unset] [(.int p1)])) (fun _ k => XS.iloadN X29.here hx rfl (hb hby at_24) rfl k) ?_
      refine own_go (B := T29.setTop (mkF m 27 #[.val (.int p0), .val (.int p1), .val (.int p2), .val (.int (5 : Int32)), .val (.ref (A 3)), .val (.int (p2 &&& (3 : Int32))), .val (.int p1), .unset] [])) (fun _ k => XS.istore X29.here hx rfl (hb hby at_25) rfl (l' := #[.val (.int p0), .val (.int p1), .val (.int p2), .val (.int (5 : Int32)), .val (.ref (A 3)), .val (.int (p2 &&& (3 : Int32))), .val (.int p1), .unset]) rfl k) ?_
      refine own_go (B := T29.setTop (mkF m 50 #[.val (.int p0), .val (.int p1), .val (.int p2), .val (.int (5 : Int32)), .val (.ref (A 3)), .val (.int (p2 &&& (3 : Int32))), .val (.int p1), .unset] [])) (fun _ k => XS.goto X29.here hx rfl (pc0 := 27) (pc' := 50) rfl (hb hby at_27) (by decide) (by decide) k) ?_
      exact tail _
    · refine own_go (B := T29.setTop (mkF m 30 #[.val (.int p0), .val (.int p1), .val (.int p2), .val (.int (5 : Int32)), .val (.ref (A 3)), .val (.int (p2 &&& (3 : Int32))), .unset, .unset] [])) (fun _ k => XS.ifYes X29.here hx rfl (pc0 := 21) (pc' := 30) rfl (hb hby at_21) rfl ((if0 _ _).trans (feq hc2133).2) (by decide) (by decide) k) ?_
      refine own_go (B := T29.setTop (mkF m 32 #[.val (.int p0), .val (.int p1), .val (.int p2), .val (.int (5 : Int32)), .val (.ref (A 3)), .val (.int (p2 &&& (3 : Int32))), .unset, .unset] [(.int (p2 &&& (3 : Int32)))])) (fun _ k => XS.iload X29.here hx rfl (hb hby at_30) rfl k) ?_
      refine own_go (B := T29.setTop (mkF m 33 #[.val (.int p0), .val (.int p1), .val (.int p2), .val (.int (5 : Int32)), .val (.ref (A 3)), .val (.int (p2 &&& (3 : Int32))), .unset, .unset] [(.int (1 : Int32)), (.int (p2 &&& (3 : Int32)))])) (fun _ k => XT.iconstV X29.here hx rfl (1 : Int32) (hb hby at_32) rfl k) ?_
      by_cases hc3334 : (p2 &&& (3 : Int32)) = (1 : Int32)
      · refine own_go (B := T29.setTop (mkF m 36 #[.val (.int p0), .val (.int p1), .val (.int p2), .val (.int (5 : Int32)), .val (.ref (A 3)), .val (.int (p2 &&& (3 : Int32))), .unset, .unset] [])) (fun _ k => XS.icmpNo X29.here hx rfl (hb hby at_33) rfl (teq hc3334).2 k) ?_
        refine own_go (B := T29.setTop (mkF m 37 #[.val (.int p0), .val (.int p1), .val (.int p2), .val (.int (5 : Int32)), .val (.ref (A 3)), .val (.int (p2 &&& (3 : Int32))), .unset, .unset] [(.int p1)])) (fun _ k => XS.iloadN X29.here hx rfl (hb hby at_36) rfl k) ?_
        refine own_go (B := T29.setTop (mkF m 39 #[.val (.int p0), .val (.int p1), .val (.int p2), .val (.int (5 : Int32)), .val (.ref (A 3)), .val (.int (p2 &&& (3 : Int32))), .unset, .unset] [(.int (15 : Int32)), (.int p1)])) (fun _ k => XT.bipushV X29.here hx rfl (15 : Int32) (hb hby at_37) (by decide) k) ?_
        refine own_go (B := T29.setTop (mkF m 40 #[.val (.int p0), .val (.int p1), .val (.int p2), .val (.int (5 : Int32)), .val (.ref (A 3)), .val (.int (p2 &&& (3 : Int32))), .unset, .unset] [(.int (p1 &&& (15 : Int32)))])) (fun _ k => XS.iand X29.here hx rfl (hb hby at_39) rfl k) ?_
        refine own_go (B := T29.setTop (mkF m 42 #[.val (.int p0), .val (.int p1), .val (.int p2), .val (.int (5 : Int32)), .val (.ref (A 3)), .val (.int (p2 &&& (3 : Int32))), .val (.int (p1 &&& (15 : Int32))), .unset] [])) (fun _ k => XS.istore X29.here hx rfl (hb hby at_40) rfl (l' := #[.val (.int p0), .val (.int p1), .val (.int p2), .val (.int (5 : Int32)), .val (.ref (A 3)), .val (.int (p2 &&& (3 : Int32))), .val (.int (p1 &&& (15 : Int32))), .unset]) rfl k) ?_
        refine own_go (B := T29.setTop (mkF m 50 #[.val (.int p0), .val (.int p1), .val (.int p2), .val (.int (5 : Int32)), .val (.ref (A 3)), .val (.int (p2 &&& (3 : Int32))), .val (.int (p1 &&& (15 : Int32))), .unset] [])) (fun _ k => XS.goto X29.here hx rfl (pc0 := 42) (pc' := 50) rfl (hb hby at_42) (by decide) (by decide) k) ?_
        exact tail _
      · refine own_go (B := T29.setTop (mkF m 45 #[.val (.int p0), .val (.int p1), .val (.int p2), .val (.int (5 : Int32)), .val (.ref (A 3)), .val (.int (p2 &&& (3 : Int32))), .unset, .unset] [])) (fun _ k => XS.icmpYes X29.here hx rfl (pc0 := 33) (pc' := 45) rfl (hb hby at_33) rfl (feq hc3334).2 (by decide) (by decide) k) ?_
        refine own_go (B := T29.setTop (mkF m 46 #[.val (.int p0), .val (.int p1), .val (.int p2), .val (.int (5 : Int32)), .val (.ref (A 3)), .val (.int (p2 &&& (3 : Int32))), .unset, .unset] [(.int p1)])) (fun _ k => XS.iloadN X29.here hx rfl (hb hby at_45) rfl k) ?_
        refine own_go (B := T29.setTop (mkF m 47 #[.val (.int p0), .val (.int p1), .val (.int p2), .val (.int (5 : Int32)), .val (.ref (A 3)), .val (.int (p2 &&& (3 : Int32))), .unset, .unset] [(.int (3 : Int32)), (.int p1)])) (fun _ k => XT.iconstV X29.here hx rfl (3 : Int32) (hb hby at_46) rfl k) ?_
        refine own_go (B := T29.setTop (mkF m 48 #[.val (.int p0), .val (.int p1), .val (.int p2), .val (.int (5 : Int32)), .val (.ref (A 3)), .val (.int (p2 &&& (3 : Int32))), .unset, .unset] [(.int (p1 &&& (3 : Int32)))])) (fun _ k => XS.iand X29.here hx rfl (hb hby at_47) rfl k) ?_
        refine own_go (B := T29.setTop (mkF m 50 #[.val (.int p0), .val (.int p1), .val (.int p2), .val (.int (5 : Int32)), .val (.ref (A 3)), .val (.int (p2 &&& (3 : Int32))), .val (.int (p1 &&& (3 : Int32))), .unset] [])) (fun _ k => XS.istore X29.here hx rfl (hb hby at_48) rfl (l' := #[.val (.int p0), .val (.int p1), .val (.int p2), .val (.int (5 : Int32)), .val (.ref (A 3)), .val (.int (p2 &&& (3 : Int32))), .val (.int (p1 &&& (3 : Int32))), .unset]) rfl k) ?_
        exact tail _
  · refine own_go (B := s₁.setTop (mkF m 9 #[.val (.int p0), .val (.int p1), .val (.int p2), .val (.int (6 : Int32)), .unset, .unset, .unset, .unset] [(.int (6 : Int32))])) (fun _ k => XS.iloadN X0.here hx rfl (hb hby at_8) rfl k) ?_
    obtain ⟨_, _, ⟨T35, L35, k35, n35⟩, -, X35, ⟨Lc35, hQ35, l35, y35, z35⟩, st35⟩ := Jvm.LawKit.callS X0 hx (y := (⟨"com/example/ferrybus/ferrybus/codec/PacketTypeAllowsPinLaw", "pick", "(I)Lcom/example/ferrybus/ferrybus/codec/PacketType;"⟩ : MethodName)) hown (mvT hZ (hw _ (List.mem_of_getElem? (i := 1) rfl))) (mvT hZ (hw _ (List.mem_of_getElem? (i := 2) rfl))) (mvT hZ (hw _ (List.mem_of_getElem? (i := 3) rfl))) (mvT hZ (hw _ (List.mem_of_getElem? (i := 4) rfl))) (by decide) (own_back (W := 0) (rm1_6 l Z a0 hw []  A hW h0 x0 ) hZ (hw _ (List.mem_of_getElem? (i := 4) rfl)) (hw _ (List.mem_of_getElem? (i := 3) rfl)) (by decide) (by decide)) (g := (mkF m 9 #[.val (.int p0), .val (.int p1), .val (.int p2), .val (.int (6 : Int32)), .unset, .unset, .unset, .unset] [(.int (6 : Int32))])) rfl (by rw [hml]; rfl) (argsL := [(.int (6 : Int32))]) (rest := []) (lenOf pd_0 rfl) rfl (by show 2 * 0 + _ ≤ _; exact Nat.le_of_eq rfl) (hb hby at_9) (fun _ _ => ⟨rfl, e0, (by decide : 0 + 0 ≤ _), (by decide : 0 + 0 ≤ _)⟩)
    dsimp only [Pt.U, Pt.locs, Pt.cells, Pt.slots] at X35 l35 y35 z35 st35 hQ35
    subst l35 y35 z35
    obtain ⟨rfl, N35q, e35⟩ := hQ35
    have N35 := Fr.app N0 N35q
    refine own_go (B := T35.setTop (mkF m 12 #[.val (.int p0), .val (.int p1), .val (.int p2), .val (.int (6 : Int32)), .unset, .unset, .unset, .unset] [(.ref (A 12))])) st35 ?_
    refine own_go (B := T35.setTop (mkF m 14 #[.val (.int p0), .val (.int p1), .val (.int p2), .val (.int (6 : Int32)), .val (.ref (A 12)), .unset, .unset, .unset] [])) (fun _ k => XS.astore X35.here hx rfl (hb hby at_12) rfl rfl (l' := #[.val (.int p0), .val (.int p1), .val (.int p2), .val (.int (6 : Int32)), .val (.ref (A 12)), .unset, .unset, .unset]) rfl k) ?_
    refine own_go (B := T35.setTop (mkF m 15 #[.val (.int p0), .val (.int p1), .val (.int p2), .val (.int (6 : Int32)), .val (.ref (A 12)), .unset, .unset, .unset] [(.int p2)])) (fun _ k => XS.iloadN X35.here hx rfl (hb hby at_14) rfl k) ?_
    refine own_go (B := T35.setTop (mkF m 16 #[.val (.int p0), .val (.int p1), .val (.int p2), .val (.int (6 : Int32)), .val (.ref (A 12)), .unset, .unset, .unset] [(.int (3 : Int32)), (.int p2)])) (fun _ k => XT.iconstV X35.here hx rfl (3 : Int32) (hb hby at_15) rfl k) ?_
    refine own_go (B := T35.setTop (mkF m 17 #[.val (.int p0), .val (.int p1), .val (.int p2), .val (.int (6 : Int32)), .val (.ref (A 12)), .unset, .unset, .unset] [(.int (p2 &&& (3 : Int32)))])) (fun _ k => XS.iand X35.here hx rfl (hb hby at_16) rfl k) ?_
    refine own_go (B := T35.setTop (mkF m 19 #[.val (.int p0), .val (.int p1), .val (.int p2), .val (.int (6 : Int32)), .val (.ref (A 12)), .val (.int (p2 &&& (3 : Int32))), .unset, .unset] [])) (fun _ k => XS.istore X35.here hx rfl (hb hby at_17) rfl (l' := #[.val (.int p0), .val (.int p1), .val (.int p2), .val (.int (6 : Int32)), .val (.ref (A 12)), .val (.int (p2 &&& (3 : Int32))), .unset, .unset]) rfl k) ?_
    have tail : ∀ fl : Int32, own_G p.tables e below s (fun v_ h_ L_ => v_ = some (.int (1 : Int32)) ∧ Fr Z.heap.size L_) room_1.cells room_1.slots (T35.setTop (mkF m 50 #[.val (.int p0), .val (.int p1), .val (.int p2), .val (.int (6 : Int32)), .val (.ref (A 12)), .val (.int (p2 &&& (3 : Int32))), .val (.int fl), .unset] [])) := by
      intro fl
      refine own_go (B := T35.setTop (mkF m 51 #[.val (.int p0), .val (.int p1), .val (.int p2), .val (.int (6 : Int32)), .val (.ref (A 12)), .val (.int (p2 &&& (3 : Int32))), .val (.int fl), .unset] [(.int (6 : Int32))])) (fun _ k => XS.iloadN X35.here hx rfl (hb hby at_50) rfl k) ?_
      refine own_go (B := T35.setTop (mkF m 52 #[.val (.int p0), .val (.int p1), .val (.int p2), .val (.int (6 : Int32)), .val (.ref (A 12)), .val (.int (p2 &&& (3 : Int32))), .val (.int fl), .unset] [(.int (2 : Int32)), (.int (6 : Int32))])) (fun _ k => XT.iconstV X35.here hx rfl (2 : Int32) (hb hby at_51) rfl k) ?_
      refine own_go (B := T35.setTop (mkF m 61 #[.val (.int p0), .val (.int p1), .val (.int p2), .val (.int (6 : Int32)), .val (.ref (A 12)), .val (.int (p2 &&& (3 : Int32))), .val (.int fl), .unset] [])) (fun _ k => XS.icmpYes X35.here hx rfl (pc0 := 52) (pc' := 61) rfl (hb hby at_52) rfl (by decide) (by decide) (by decide) k) ?_
      refine own_go (B := T35.setTop (mkF m 62 #[.val (.int p0), .val (.int p1), .val (.int p2), .val (.int (6 : Int32)), .val (.ref (A 12)), .val (.int (p2 &&& (3 : Int32))), .val (.int fl), .unset] [(.int (6 : Int32))])) (fun _ k => XS.iloadN X35.here hx rfl (hb hby at_61) rfl k) ?_
      refine own_go (B := T35.setTop (mkF m 63 #[.val (.int p0), .val (.int p1), .val (.int p2), .val (.int (6 : Int32)), .val (.ref (A 12)), .val (.int (p2 &&& (3 : Int32))), .val (.int fl), .unset] [(.int (5 : Int32)), (.int (6 : Int32))])) (fun _ k => XT.iconstV X35.here hx rfl (5 : Int32) (hb hby at_62) rfl k) ?_
      refine own_go (B := T35.setTop (mkF m 66 #[.val (.int p0), .val (.int p1), .val (.int p2), .val (.int (6 : Int32)), .val (.ref (A 12)), .val (.int (p2 &&& (3 : Int32))), .val (.int fl), .unset] [])) (fun _ k => XS.icmpNo X35.here hx rfl (hb hby at_63) rfl (by decide) k) ?_
      refine own_go (B := T35.setTop (mkF m 67 #[.val (.int p0), .val (.int p1), .val (.int p2), .val (.int (6 : Int32)), .val (.ref (A 12)), .val (.int (p2 &&& (3 : Int32))), .val (.int fl), .unset] [(.int (6 : Int32))])) (fun _ k => XS.iloadN X35.here hx rfl (hb hby at_66) rfl k) ?_
      refine own_go (B := T35.setTop (mkF m 69 #[.val (.int p0), .val (.int p1), .val (.int p2), .val (.int (6 : Int32)), .val (.ref (A 12)), .val (.int (p2 &&& (3 : Int32))), .val (.int fl), .unset] [(.int (7 : Int32)), (.int (6 : Int32))])) (fun _ k => XT.bipushV X35.here hx rfl (7 : Int32) (hb hby at_67) (by decide) k) ?_
      refine own_go (B := T35.setTop (mkF m 72 #[.val (.int p0), .val (.int p1), .val (.int p2), .val (.int (6 : Int32)), .val (.ref (A 12)), .val (.int (p2 &&& (3 : Int32))), .val (.int fl), .unset] [])) (fun _ k => XS.icmpNo X35.here hx rfl (hb hby at_69) rfl (by decide) k) ?_
      refine own_go (B := T35.setTop (mkF m 73 #[.val (.int p0), .val (.int p1), .val (.int p2), .val (.int (6 : Int32)), .val (.ref (A 12)), .val (.int (p2 &&& (3 : Int32))), .val (.int fl), .unset] [(.int (6 : Int32))])) (fun _ k => XS.iloadN X35.here hx rfl (hb hby at_72) rfl k) ?_
      refine own_go (B := T35.setTop (mkF m 75 #[.val (.int p0), .val (.int p1), .val (.int p2), .val (.int (6 : Int32)), .val (.ref (A 12)), .val (.int (p2 &&& (3 : Int32))), .val (.int fl), .unset] [(.int (9 : Int32)), (.int (6 : Int32))])) (fun _ k => XT.bipushV X35.here hx rfl (9 : Int32) (hb hby at_73) (by decide) k) ?_
      refine own_go (B := T35.setTop (mkF m 94 #[.val (.int p0), .val (.int p1), .val (.int p2), .val (.int (6 : Int32)), .val (.ref (A 12)), .val (.int (p2 &&& (3 : Int32))), .val (.int fl), .unset] [])) (fun _ k => XS.icmpYes X35.here hx rfl (pc0 := 75) (pc' := 94) rfl (hb hby at_75) rfl (by decide) (by decide) (by decide) k) ?_
      refine own_go (B := T35.setTop (mkF m 96 #[.val (.int p0), .val (.int p1), .val (.int p2), .val (.int (6 : Int32)), .val (.ref (A 12)), .val (.int (p2 &&& (3 : Int32))), .val (.int fl), .unset] [(.int fl)])) (fun _ k => XS.iload X35.here hx rfl (hb hby at_94) rfl k) ?_
      by_cases hc9636 : fl = (0 : Int32)
      · refine own_go (B := T35.setTop (mkF m 99 #[.val (.int p0), .val (.int p1), .val (.int p2), .val (.int (6 : Int32)), .val (.ref (A 12)), .val (.int (p2 &&& (3 : Int32))), .val (.int fl), .unset] [])) (fun _ k => XS.ifNo X35.here hx rfl (hb hby at_96) rfl ((if0 _ _).trans (teq hc9636).2) k) ?_
        refine own_go (B := T35.setTop (mkF m 100 #[.val (.int p0), .val (.int p1), .val (.int p2), .val (.int (6 : Int32)), .val (.ref (A 12)), .val (.int (p2 &&& (3 : Int32))), .val (.int fl), .unset] [(.int (1 : Int32))])) (fun _ k => XT.iconstV X35.here hx rfl (1 : Int32) (hb hby at_99) rfl k) ?_
        refine own_go (B := T35.setTop (mkF m 104 #[.val (.int p0), .val (.int p1), .val (.int p2), .val (.int (6 : Int32)), .val (.ref (A 12)), .val (.int (p2 &&& (3 : Int32))), .val (.int fl), .unset] [(.int (1 : Int32))])) (fun _ k => XS.goto X35.here hx rfl (pc0 := 100) (pc' := 104) rfl (hb hby at_100) (by decide) (by decide) k) ?_
        refine own_go (B := T35.setTop (mkF m 106 #[.val (.int p0), .val (.int p1), .val (.int p2), .val (.int (6 : Int32)), .val (.ref (A 12)), .val (.int (p2 &&& (3 : Int32))), .val (.int fl), .val (.int (1 : Int32))] [])) (fun _ k => XS.istore X35.here hx rfl (hb hby at_104) rfl (l' := #[.val (.int p0), .val (.int p1), .val (.int p2), .val (.int (6 : Int32)), .val (.ref (A 12)), .val (.int (p2 &&& (3 : Int32))), .val (.int fl), .val (.int (1 : Int32))]) rfl k) ?_
        refine own_go (B := T35.setTop (mkF m 108 #[.val (.int p0), .val (.int p1), .val (.int p2), .val (.int (6 : Int32)), .val (.ref (A 12)), .val (.int (p2 &&& (3 : Int32))), .val (.int fl), .val (.int (1 : Int32))] [(.ref (A 12))])) (fun _ k => XS.aload X35.here hx rfl (hb hby at_106) rfl rfl k) ?_
        refine own_go (B := T35.setTop (mkF m 110 #[.val (.int p0), .val (.int p1), .val (.int p2), .val (.int (6 : Int32)), .val (.ref (A 12)), .val (.int (p2 &&& (3 : Int32))), .val (.int fl), .val (.int (1 : Int32))] [(.int fl), (.ref (A 12))])) (fun _ k => XS.iload X35.here hx rfl (hb hby at_108) rfl k) ?_
        obtain ⟨cq37, kq37, q37a, q37b, q37c⟩ := isOf hZ e35 (E_PUBCOMP.ext x0)
        obtain ⟨_, _, ⟨T37, L37, k37, n37⟩, -, X37, ⟨Lc37, hQ37, l37, y37, z37⟩, st37⟩ := X35.virtualBack hx (y := (⟨"com/example/ferrybus/ferrybus/codec/PacketType", "allows", "(I)Z"⟩ : MethodName)) (z := (⟨"com/example/ferrybus/ferrybus/codec/PacketType", "allows", "(I)Z"⟩ : MethodName)) hown (mvT hZ (hw _ (List.mem_of_getElem? (i := 8) rfl))) (mvT hZ (hw _ (List.mem_of_getElem? (i := 9) rfl))) (notFace_of_selects (args := #[]) (mvT hZ (hw _ (List.mem_of_getElem? (i := 11) rfl)))) (mvT hZ (hw _ (List.mem_of_getElem? (i := 11) rfl))) (mvT hZ (hw _ (List.mem_of_getElem? (i := 10) rfl))) (by decide) (own_back (W := 0) (rm2_11 l Z a0 hw [] fl A hW h0 x0 hc9636.symm) hZ (hw _ (List.mem_of_getElem? (i := 12) rfl)) (hw _ (List.mem_of_getElem? (i := 6) rfl)) (by decide) (by decide)) q37a q37c (g := (mkF m 110 #[.val (.int p0), .val (.int p1), .val (.int p2), .val (.int (6 : Int32)), .val (.ref (A 12)), .val (.int (p2 &&& (3 : Int32))), .val (.int fl), .val (.int (1 : Int32))] [(.int fl), (.ref (A 12))])) rfl (by rw [hml]; rfl) (Steps.refl _) (argsL := [(.int fl)]) (rest := []) (lenOf pd_1 rfl) rfl (by show 2 * 0 + _ ≤ _; exact Nat.le_of_eq rfl) (hb hby at_110) (fun _ _ => ⟨rfl, e35, (by decide : 0 + 0 ≤ _), (by decide : 0 + 0 ≤ _)⟩)
        dsimp only [Pt.U, Pt.locs, Pt.cells, Pt.slots] at X37 l37 y37 z37 st37 hQ37
        subst l37 y37 z37
        obtain ⟨rfl, N37q, e37⟩ := hQ37
        have N37 := Fr.app N35 N37q
        refine own_go (B := T37.setTop (mkF m 113 #[.val (.int p0), .val (.int p1), .val (.int p2), .val (.int (6 : Int32)), .val (.ref (A 12)), .val (.int (p2 &&& (3 : Int32))), .val (.int fl), .val (.int (1 : Int32))] [(.int (1 : Int32))])) (fun _ k => st37.trans k) ?_
        refine own_go (B := T37.setTop (mkF m 115 #[.val (.int p0), .val (.int p1), .val (.int p2), .val (.int (6 : Int32)), .val (.ref (A 12)), .val (.int (p2 &&& (3 : Int32))), .val (.int fl), .val (.int (1 : Int32))] [(.int (1 : Int32)), (.int (1 : Int32))])) (fun _ k => XS.iload X37.here hx rfl (hb hby at_113) rfl k) ?_
        refine own_go (B := T37.setTop (mkF m 118 #[.val (.int p0), .val (.int p1), .val (.int p2), .val (.int (6 : Int32)), .val (.ref (A 12)), .val (.int (p2 &&& (3 : Int32))), .val (.int fl), .val (.int (1 : Int32))] [])) (fun _ k => XS.icmpNo X37.here hx rfl (hb hby at_115) rfl (by decide) k) ?_
        refine own_go (B := T37.setTop (mkF m 119 #[.val (.int p0), .val (.int p1), .val (.int p2), .val (.int (6 : Int32)), .val (.ref (A 12)), .val (.int (p2 &&& (3 : Int32))), .val (.int fl), .val (.int (1 : Int32))] [(.int (1 : Int32))])) (fun _ k => XT.iconstV X37.here hx rfl (1 : Int32) (hb hby at_118) rfl k) ?_
        refine own_go (B := T37.setTop (mkF m 123 #[.val (.int p0), .val (.int p1), .val (.int p2), .val (.int (6 : Int32)), .val (.ref (A 12)), .val (.int (p2 &&& (3 : Int32))), .val (.int fl), .val (.int (1 : Int32))] [(.int (1 : Int32))])) (fun _ k => XS.goto X37.here hx rfl (pc0 := 119) (pc' := 123) rfl (hb hby at_119) (by decide) (by decide) k) ?_
        exact own_ret X37 hx (t := .boolean) hrt rfl (Or.inl ⟨rfl, by simp, _, rfl⟩) (hb hby at_123) hlk ⟨rfl, N37⟩ (by decide) (by decide)
      · refine own_go (B := T35.setTop (mkF m 103 #[.val (.int p0), .val (.int p1), .val (.int p2), .val (.int (6 : Int32)), .val (.ref (A 12)), .val (.int (p2 &&& (3 : Int32))), .val (.int fl), .unset] [])) (fun _ k => XS.ifYes X35.here hx rfl (pc0 := 96) (pc' := 103) rfl (hb hby at_96) rfl ((if0 _ _).trans (feq hc9636).2) (by decide) (by decide) k) ?_
        refine own_go (B := T35.setTop (mkF m 104 #[.val (.int p0), .val (.int p1), .val (.int p2), .val (.int (6 : Int32)), .val (.ref (A 12)), .val (.int (p2 &&& (3 : Int32))), .val (.int fl), .unset] [(.int (0 : Int32))])) (fun _ k => XT.iconstV X35.here hx rfl (0 : Int32) (hb hby at_103) rfl k) ?_
        refine own_go (B := T35.setTop (mkF m 106 #[.val (.int p0), .val (.int p1), .val (.int p2), .val (.int (6 : Int32)), .val (.ref (A 12)), .val (.int (p2 &&& (3 : Int32))), .val (.int fl), .val (.int (0 : Int32))] [])) (fun _ k => XS.istore X35.here hx rfl (hb hby at_104) rfl (l' := #[.val (.int p0), .val (.int p1), .val (.int p2), .val (.int (6 : Int32)), .val (.ref (A 12)), .val (.int (p2 &&& (3 : Int32))), .val (.int fl), .val (.int (0 : Int32))]) rfl k) ?_
        refine own_go (B := T35.setTop (mkF m 108 #[.val (.int p0), .val (.int p1), .val (.int p2), .val (.int (6 : Int32)), .val (.ref (A 12)), .val (.int (p2 &&& (3 : Int32))), .val (.int fl), .val (.int (0 : Int32))] [(.ref (A 12))])) (fun _ k => XS.aload X35.here hx rfl (hb hby at_106) rfl rfl k) ?_
        refine own_go (B := T35.setTop (mkF m 110 #[.val (.int p0), .val (.int p1), .val (.int p2), .val (.int (6 : Int32)), .val (.ref (A 12)), .val (.int (p2 &&& (3 : Int32))), .val (.int fl), .val (.int (0 : Int32))] [(.int fl), (.ref (A 12))])) (fun _ k => XS.iload X35.here hx rfl (hb hby at_108) rfl k) ?_
        obtain ⟨cq38, kq38, q38a, q38b, q38c⟩ := isOf hZ e35 (E_PUBCOMP.ext x0)
        obtain ⟨_, _, ⟨T38, L38, k38, n38⟩, -, X38, ⟨Lc38, hQ38, l38, y38, z38⟩, st38⟩ := X35.virtualBack hx (y := (⟨"com/example/ferrybus/ferrybus/codec/PacketType", "allows", "(I)Z"⟩ : MethodName)) (z := (⟨"com/example/ferrybus/ferrybus/codec/PacketType", "allows", "(I)Z"⟩ : MethodName)) hown (mvT hZ (hw _ (List.mem_of_getElem? (i := 8) rfl))) (mvT hZ (hw _ (List.mem_of_getElem? (i := 9) rfl))) (notFace_of_selects (args := #[]) (mvT hZ (hw _ (List.mem_of_getElem? (i := 11) rfl)))) (mvT hZ (hw _ (List.mem_of_getElem? (i := 11) rfl))) (mvT hZ (hw _ (List.mem_of_getElem? (i := 10) rfl))) (by decide) (own_back (W := 0) (rm2_12 l Z a0 hw [] fl A hW h0 x0 (fun q => hc9636 q.symm)) hZ (hw _ (List.mem_of_getElem? (i := 12) rfl)) (hw _ (List.mem_of_getElem? (i := 6) rfl)) (by decide) (by decide)) q38a q38c (g := (mkF m 110 #[.val (.int p0), .val (.int p1), .val (.int p2), .val (.int (6 : Int32)), .val (.ref (A 12)), .val (.int (p2 &&& (3 : Int32))), .val (.int fl), .val (.int (0 : Int32))] [(.int fl), (.ref (A 12))])) rfl (by rw [hml]; rfl) (Steps.refl _) (argsL := [(.int fl)]) (rest := []) (lenOf pd_1 rfl) rfl (by show 2 * 0 + _ ≤ _; exact Nat.le_of_eq rfl) (hb hby at_110) (fun _ _ => ⟨rfl, e35, (by decide : 0 + 0 ≤ _), (by decide : 0 + 0 ≤ _)⟩)
        dsimp only [Pt.U, Pt.locs, Pt.cells, Pt.slots] at X38 l38 y38 z38 st38 hQ38
        subst l38 y38 z38
        obtain ⟨rfl, N38q, e38⟩ := hQ38
        have N38 := Fr.app N35 N38q
        refine own_go (B := T38.setTop (mkF m 113 #[.val (.int p0), .val (.int p1), .val (.int p2), .val (.int (6 : Int32)), .val (.ref (A 12)), .val (.int (p2 &&& (3 : Int32))), .val (.int fl), .val (.int (0 : Int32))] [(.int (0 : Int32))])) (fun _ k => st38.trans k) ?_
        refine own_go (B := T38.setTop (mkF m 115 #[.val (.int p0), .val (.int p1), .val (.int p2), .val (.int (6 : Int32)), .val (.ref (A 12)), .val (.int (p2 &&& (3 : Int32))), .val (.int fl), .val (.int (0 : Int32))] [(.int (0 : Int32)), (.int (0 : Int32))])) (fun _ k => XS.iload X38.here hx rfl (hb hby at_113) rfl k) ?_
        refine own_go (B := T38.setTop (mkF m 118 #[.val (.int p0), .val (.int p1), .val (.int p2), .val (.int (6 : Int32)), .val (.ref (A 12)), .val (.int (p2 &&& (3 : Int32))), .val (.int fl), .val (.int (0 : Int32))] [])) (fun _ k => XS.icmpNo X38.here hx rfl (hb hby at_115) rfl (by decide) k) ?_
        refine own_go (B := T38.setTop (mkF m 119 #[.val (.int p0), .val (.int p1), .val (.int p2), .val (.int (6 : Int32)), .val (.ref (A 12)), .val (.int (p2 &&& (3 : Int32))), .val (.int fl), .val (.int (0 : Int32))] [(.int (1 : Int32))])) (fun _ k => XT.iconstV X38.here hx rfl (1 : Int32) (hb hby at_118) rfl k) ?_
        refine own_go (B := T38.setTop (mkF m 123 #[.val (.int p0), .val (.int p1), .val (.int p2), .val (.int (6 : Int32)), .val (.ref (A 12)), .val (.int (p2 &&& (3 : Int32))), .val (.int fl), .val (.int (0 : Int32))] [(.int (1 : Int32))])) (fun _ k => XS.goto X38.here hx rfl (pc0 := 119) (pc' := 123) rfl (hb hby at_119) (by decide) (by decide) k) ?_
        exact own_ret X38 hx (t := .boolean) hrt rfl (Or.inl ⟨rfl, by simp, _, rfl⟩) (hb hby at_123) hlk ⟨rfl, N38⟩ (by decide) (by decide)
    refine own_go (B := T35.setTop (mkF m 21 #[.val (.int p0), .val (.int p1), .val (.int p2), .val (.int (6 : Int32)), .val (.ref (A 12)), .val (.int (p2 &&& (3 : Int32))), .unset, .unset] [(.int (p2 &&& (3 : Int32)))])) (fun _ k => XS.iload X35.here hx rfl (hb hby at_19) rfl k) ?_
    by_cases hc2139 : (p2 &&& (3 : Int32)) = (0 : Int32)
    · refine own_go (B := T35.setTop (mkF m 24 #[.val (.int p0), .val (.int p1), .val (.int p2), .val (.int (6 : Int32)), .val (.ref (A 12)), .val (.int (p2 &&& (3 : Int32))), .unset, .unset] [])) (fun _ k => XS.ifNo X35.here hx rfl (hb hby at_21) rfl ((if0 _ _).trans (teq hc2139).2) k) ?_
      refine own_go (B := T35.setTop (mkF m 25 #[.val (.int p0), .val (.int p1), .val (.int p2), .val (.int (6 : Int32)), .val (.ref (A 12)), .val (.int (p2 &&& (3 : Int32))), .unset, .unset] [(.int p1)])) (fun _ k => XS.iloadN X35.here hx rfl (hb hby at_24) rfl k) ?_
      refine own_go (B := T35.setTop (mkF m 27 #[.val (.int p0), .val (.int p1), .val (.int p2), .val (.int (6 : Int32)), .val (.ref (A 12)), .val (.int (p2 &&& (3 : Int32))), .val (.int p1), .unset] [])) (fun _ k => XS.istore X35.here hx rfl (hb hby at_25) rfl (l' := #[.val (.int p0), .val (.int p1), .val (.int p2), .val (.int (6 : Int32)), .val (.ref (A 12)), .val (.int (p2 &&& (3 : Int32))), .val (.int p1), .unset]) rfl k) ?_
      refine own_go (B := T35.setTop (mkF m 50 #[.val (.int p0), .val (.int p1), .val (.int p2), .val (.int (6 : Int32)), .val (.ref (A 12)), .val (.int (p2 &&& (3 : Int32))), .val (.int p1), .unset] [])) (fun _ k => XS.goto X35.here hx rfl (pc0 := 27) (pc' := 50) rfl (hb hby at_27) (by decide) (by decide) k) ?_
      exact tail _
    · refine own_go (B := T35.setTop (mkF m 30 #[.val (.int p0), .val (.int p1), .val (.int p2), .val (.int (6 : Int32)), .val (.ref (A 12)), .val (.int (p2 &&& (3 : Int32))), .unset, .unset] [])) (fun _ k => XS.ifYes X35.here hx rfl (pc0 := 21) (pc' := 30) rfl (hb hby at_21) rfl ((if0 _ _).trans (feq hc2139).2) (by decide) (by decide) k) ?_
      refine own_go (B := T35.setTop (mkF m 32 #[.val (.int p0), .val (.int p1), .val (.int p2), .val (.int (6 : Int32)), .val (.ref (A 12)), .val (.int (p2 &&& (3 : Int32))), .unset, .unset] [(.int (p2 &&& (3 : Int32)))])) (fun _ k => XS.iload X35.here hx rfl (hb hby at_30) rfl k) ?_
      refine own_go (B := T35.setTop (mkF m 33 #[.val (.int p0), .val (.int p1), .val (.int p2), .val (.int (6 : Int32)), .val (.ref (A 12)), .val (.int (p2 &&& (3 : Int32))), .unset, .unset] [(.int (1 : Int32)), (.int (p2 &&& (3 : Int32)))])) (fun _ k => XT.iconstV X35.here hx rfl (1 : Int32) (hb hby at_32) rfl k) ?_
      by_cases hc3340 : (p2 &&& (3 : Int32)) = (1 : Int32)
      · refine own_go (B := T35.setTop (mkF m 36 #[.val (.int p0), .val (.int p1), .val (.int p2), .val (.int (6 : Int32)), .val (.ref (A 12)), .val (.int (p2 &&& (3 : Int32))), .unset, .unset] [])) (fun _ k => XS.icmpNo X35.here hx rfl (hb hby at_33) rfl (teq hc3340).2 k) ?_
        refine own_go (B := T35.setTop (mkF m 37 #[.val (.int p0), .val (.int p1), .val (.int p2), .val (.int (6 : Int32)), .val (.ref (A 12)), .val (.int (p2 &&& (3 : Int32))), .unset, .unset] [(.int p1)])) (fun _ k => XS.iloadN X35.here hx rfl (hb hby at_36) rfl k) ?_
        refine own_go (B := T35.setTop (mkF m 39 #[.val (.int p0), .val (.int p1), .val (.int p2), .val (.int (6 : Int32)), .val (.ref (A 12)), .val (.int (p2 &&& (3 : Int32))), .unset, .unset] [(.int (15 : Int32)), (.int p1)])) (fun _ k => XT.bipushV X35.here hx rfl (15 : Int32) (hb hby at_37) (by decide) k) ?_
        refine own_go (B := T35.setTop (mkF m 40 #[.val (.int p0), .val (.int p1), .val (.int p2), .val (.int (6 : Int32)), .val (.ref (A 12)), .val (.int (p2 &&& (3 : Int32))), .unset, .unset] [(.int (p1 &&& (15 : Int32)))])) (fun _ k => XS.iand X35.here hx rfl (hb hby at_39) rfl k) ?_
        refine own_go (B := T35.setTop (mkF m 42 #[.val (.int p0), .val (.int p1), .val (.int p2), .val (.int (6 : Int32)), .val (.ref (A 12)), .val (.int (p2 &&& (3 : Int32))), .val (.int (p1 &&& (15 : Int32))), .unset] [])) (fun _ k => XS.istore X35.here hx rfl (hb hby at_40) rfl (l' := #[.val (.int p0), .val (.int p1), .val (.int p2), .val (.int (6 : Int32)), .val (.ref (A 12)), .val (.int (p2 &&& (3 : Int32))), .val (.int (p1 &&& (15 : Int32))), .unset]) rfl k) ?_
        refine own_go (B := T35.setTop (mkF m 50 #[.val (.int p0), .val (.int p1), .val (.int p2), .val (.int (6 : Int32)), .val (.ref (A 12)), .val (.int (p2 &&& (3 : Int32))), .val (.int (p1 &&& (15 : Int32))), .unset] [])) (fun _ k => XS.goto X35.here hx rfl (pc0 := 42) (pc' := 50) rfl (hb hby at_42) (by decide) (by decide) k) ?_
        exact tail _
      · refine own_go (B := T35.setTop (mkF m 45 #[.val (.int p0), .val (.int p1), .val (.int p2), .val (.int (6 : Int32)), .val (.ref (A 12)), .val (.int (p2 &&& (3 : Int32))), .unset, .unset] [])) (fun _ k => XS.icmpYes X35.here hx rfl (pc0 := 33) (pc' := 45) rfl (hb hby at_33) rfl (feq hc3340).2 (by decide) (by decide) k) ?_
        refine own_go (B := T35.setTop (mkF m 46 #[.val (.int p0), .val (.int p1), .val (.int p2), .val (.int (6 : Int32)), .val (.ref (A 12)), .val (.int (p2 &&& (3 : Int32))), .unset, .unset] [(.int p1)])) (fun _ k => XS.iloadN X35.here hx rfl (hb hby at_45) rfl k) ?_
        refine own_go (B := T35.setTop (mkF m 47 #[.val (.int p0), .val (.int p1), .val (.int p2), .val (.int (6 : Int32)), .val (.ref (A 12)), .val (.int (p2 &&& (3 : Int32))), .unset, .unset] [(.int (3 : Int32)), (.int p1)])) (fun _ k => XT.iconstV X35.here hx rfl (3 : Int32) (hb hby at_46) rfl k) ?_
        refine own_go (B := T35.setTop (mkF m 48 #[.val (.int p0), .val (.int p1), .val (.int p2), .val (.int (6 : Int32)), .val (.ref (A 12)), .val (.int (p2 &&& (3 : Int32))), .unset, .unset] [(.int (p1 &&& (3 : Int32)))])) (fun _ k => XS.iand X35.here hx rfl (hb hby at_47) rfl k) ?_
        refine own_go (B := T35.setTop (mkF m 50 #[.val (.int p0), .val (.int p1), .val (.int p2), .val (.int (6 : Int32)), .val (.ref (A 12)), .val (.int (p2 &&& (3 : Int32))), .val (.int (p1 &&& (3 : Int32))), .unset] [])) (fun _ k => XS.istore X35.here hx rfl (hb hby at_48) rfl (l' := #[.val (.int p0), .val (.int p1), .val (.int p2), .val (.int (6 : Int32)), .val (.ref (A 12)), .val (.int (p2 &&& (3 : Int32))), .val (.int (p1 &&& (3 : Int32))), .unset]) rfl k) ?_
        exact tail _
  · refine own_go (B := s₁.setTop (mkF m 9 #[.val (.int p0), .val (.int p1), .val (.int p2), .val (.int (7 : Int32)), .unset, .unset, .unset, .unset] [(.int (7 : Int32))])) (fun _ k => XS.iloadN X0.here hx rfl (hb hby at_8) rfl k) ?_
    obtain ⟨_, _, ⟨T41, L41, k41, n41⟩, -, X41, ⟨Lc41, hQ41, l41, y41, z41⟩, st41⟩ := Jvm.LawKit.callS X0 hx (y := (⟨"com/example/ferrybus/ferrybus/codec/PacketTypeAllowsPinLaw", "pick", "(I)Lcom/example/ferrybus/ferrybus/codec/PacketType;"⟩ : MethodName)) hown (mvT hZ (hw _ (List.mem_of_getElem? (i := 1) rfl))) (mvT hZ (hw _ (List.mem_of_getElem? (i := 2) rfl))) (mvT hZ (hw _ (List.mem_of_getElem? (i := 3) rfl))) (mvT hZ (hw _ (List.mem_of_getElem? (i := 4) rfl))) (by decide) (own_back (W := 0) (rm1_7 l Z a0 hw []  A hW h0 x0 ) hZ (hw _ (List.mem_of_getElem? (i := 4) rfl)) (hw _ (List.mem_of_getElem? (i := 3) rfl)) (by decide) (by decide)) (g := (mkF m 9 #[.val (.int p0), .val (.int p1), .val (.int p2), .val (.int (7 : Int32)), .unset, .unset, .unset, .unset] [(.int (7 : Int32))])) rfl (by rw [hml]; rfl) (argsL := [(.int (7 : Int32))]) (rest := []) (lenOf pd_0 rfl) rfl (by show 2 * 0 + _ ≤ _; exact Nat.le_of_eq rfl) (hb hby at_9) (fun _ _ => ⟨rfl, e0, (by decide : 0 + 0 ≤ _), (by decide : 0 + 0 ≤ _)⟩)
    dsimp only [Pt.U, Pt.locs, Pt.cells, Pt.slots] at X41 l41 y41 z41 st41 hQ41
    subst l41 y41 z41
    obtain ⟨rfl, N41q, e41⟩ := hQ41
    have N41 := Fr.app N0 N41q
    refine own_go (B := T41.setTop (mkF m 12 #[.val (.int p0), .val (.int p1), .val (.int p2), .val (.int (7 : Int32)), .unset, .unset, .unset, .unset] [(.ref (A 11))])) st41 ?_
    refine own_go (B := T41.setTop (mkF m 14 #[.val (.int p0), .val (.int p1), .val (.int p2), .val (.int (7 : Int32)), .val (.ref (A 11)), .unset, .unset, .unset] [])) (fun _ k => XS.astore X41.here hx rfl (hb hby at_12) rfl rfl (l' := #[.val (.int p0), .val (.int p1), .val (.int p2), .val (.int (7 : Int32)), .val (.ref (A 11)), .unset, .unset, .unset]) rfl k) ?_
    refine own_go (B := T41.setTop (mkF m 15 #[.val (.int p0), .val (.int p1), .val (.int p2), .val (.int (7 : Int32)), .val (.ref (A 11)), .unset, .unset, .unset] [(.int p2)])) (fun _ k => XS.iloadN X41.here hx rfl (hb hby at_14) rfl k) ?_
    refine own_go (B := T41.setTop (mkF m 16 #[.val (.int p0), .val (.int p1), .val (.int p2), .val (.int (7 : Int32)), .val (.ref (A 11)), .unset, .unset, .unset] [(.int (3 : Int32)), (.int p2)])) (fun _ k => XT.iconstV X41.here hx rfl (3 : Int32) (hb hby at_15) rfl k) ?_
    refine own_go (B := T41.setTop (mkF m 17 #[.val (.int p0), .val (.int p1), .val (.int p2), .val (.int (7 : Int32)), .val (.ref (A 11)), .unset, .unset, .unset] [(.int (p2 &&& (3 : Int32)))])) (fun _ k => XS.iand X41.here hx rfl (hb hby at_16) rfl k) ?_
    refine own_go (B := T41.setTop (mkF m 19 #[.val (.int p0), .val (.int p1), .val (.int p2), .val (.int (7 : Int32)), .val (.ref (A 11)), .val (.int (p2 &&& (3 : Int32))), .unset, .unset] [])) (fun _ k => XS.istore X41.here hx rfl (hb hby at_17) rfl (l' := #[.val (.int p0), .val (.int p1), .val (.int p2), .val (.int (7 : Int32)), .val (.ref (A 11)), .val (.int (p2 &&& (3 : Int32))), .unset, .unset]) rfl k) ?_
    have tail : ∀ fl : Int32, own_G p.tables e below s (fun v_ h_ L_ => v_ = some (.int (1 : Int32)) ∧ Fr Z.heap.size L_) room_1.cells room_1.slots (T41.setTop (mkF m 50 #[.val (.int p0), .val (.int p1), .val (.int p2), .val (.int (7 : Int32)), .val (.ref (A 11)), .val (.int (p2 &&& (3 : Int32))), .val (.int fl), .unset] [])) := by
      intro fl
      refine own_go (B := T41.setTop (mkF m 51 #[.val (.int p0), .val (.int p1), .val (.int p2), .val (.int (7 : Int32)), .val (.ref (A 11)), .val (.int (p2 &&& (3 : Int32))), .val (.int fl), .unset] [(.int (7 : Int32))])) (fun _ k => XS.iloadN X41.here hx rfl (hb hby at_50) rfl k) ?_
      refine own_go (B := T41.setTop (mkF m 52 #[.val (.int p0), .val (.int p1), .val (.int p2), .val (.int (7 : Int32)), .val (.ref (A 11)), .val (.int (p2 &&& (3 : Int32))), .val (.int fl), .unset] [(.int (2 : Int32)), (.int (7 : Int32))])) (fun _ k => XT.iconstV X41.here hx rfl (2 : Int32) (hb hby at_51) rfl k) ?_
      refine own_go (B := T41.setTop (mkF m 61 #[.val (.int p0), .val (.int p1), .val (.int p2), .val (.int (7 : Int32)), .val (.ref (A 11)), .val (.int (p2 &&& (3 : Int32))), .val (.int fl), .unset] [])) (fun _ k => XS.icmpYes X41.here hx rfl (pc0 := 52) (pc' := 61) rfl (hb hby at_52) rfl (by decide) (by decide) (by decide) k) ?_
      refine own_go (B := T41.setTop (mkF m 62 #[.val (.int p0), .val (.int p1), .val (.int p2), .val (.int (7 : Int32)), .val (.ref (A 11)), .val (.int (p2 &&& (3 : Int32))), .val (.int fl), .unset] [(.int (7 : Int32))])) (fun _ k => XS.iloadN X41.here hx rfl (hb hby at_61) rfl k) ?_
      refine own_go (B := T41.setTop (mkF m 63 #[.val (.int p0), .val (.int p1), .val (.int p2), .val (.int (7 : Int32)), .val (.ref (A 11)), .val (.int (p2 &&& (3 : Int32))), .val (.int fl), .unset] [(.int (5 : Int32)), (.int (7 : Int32))])) (fun _ k => XT.iconstV X41.here hx rfl (5 : Int32) (hb hby at_62) rfl k) ?_
      refine own_go (B := T41.setTop (mkF m 66 #[.val (.int p0), .val (.int p1), .val (.int p2), .val (.int (7 : Int32)), .val (.ref (A 11)), .val (.int (p2 &&& (3 : Int32))), .val (.int fl), .unset] [])) (fun _ k => XS.icmpNo X41.here hx rfl (hb hby at_63) rfl (by decide) k) ?_
      refine own_go (B := T41.setTop (mkF m 67 #[.val (.int p0), .val (.int p1), .val (.int p2), .val (.int (7 : Int32)), .val (.ref (A 11)), .val (.int (p2 &&& (3 : Int32))), .val (.int fl), .unset] [(.int (7 : Int32))])) (fun _ k => XS.iloadN X41.here hx rfl (hb hby at_66) rfl k) ?_
      refine own_go (B := T41.setTop (mkF m 69 #[.val (.int p0), .val (.int p1), .val (.int p2), .val (.int (7 : Int32)), .val (.ref (A 11)), .val (.int (p2 &&& (3 : Int32))), .val (.int fl), .unset] [(.int (7 : Int32)), (.int (7 : Int32))])) (fun _ k => XT.bipushV X41.here hx rfl (7 : Int32) (hb hby at_67) (by decide) k) ?_
      refine own_go (B := T41.setTop (mkF m 78 #[.val (.int p0), .val (.int p1), .val (.int p2), .val (.int (7 : Int32)), .val (.ref (A 11)), .val (.int (p2 &&& (3 : Int32))), .val (.int fl), .unset] [])) (fun _ k => XS.icmpYes X41.here hx rfl (pc0 := 69) (pc' := 78) rfl (hb hby at_69) rfl (by decide) (by decide) (by decide) k) ?_
      refine own_go (B := T41.setTop (mkF m 80 #[.val (.int p0), .val (.int p1), .val (.int p2), .val (.int (7 : Int32)), .val (.ref (A 11)), .val (.int (p2 &&& (3 : Int32))), .val (.int fl), .unset] [(.int fl)])) (fun _ k => XS.iload X41.here hx rfl (hb hby at_78) rfl k) ?_
      refine own_go (B := T41.setTop (mkF m 81 #[.val (.int p0), .val (.int p1), .val (.int p2), .val (.int (7 : Int32)), .val (.ref (A 11)), .val (.int (p2 &&& (3 : Int32))), .val (.int fl), .unset] [(.int (2 : Int32)), (.int fl)])) (fun _ k => XT.iconstV X41.here hx rfl (2 : Int32) (hb hby at_80) rfl k) ?_
      by_cases hc8142 : fl = (2 : Int32)
      · refine own_go (B := T41.setTop (mkF m 84 #[.val (.int p0), .val (.int p1), .val (.int p2), .val (.int (7 : Int32)), .val (.ref (A 11)), .val (.int (p2 &&& (3 : Int32))), .val (.int fl), .unset] [])) (fun _ k => XS.icmpNo X41.here hx rfl (hb hby at_81) rfl (teq hc8142).2 k) ?_
        refine own_go (B := T41.setTop (mkF m 85 #[.val (.int p0), .val (.int p1), .val (.int p2), .val (.int (7 : Int32)), .val (.ref (A 11)), .val (.int (p2 &&& (3 : Int32))), .val (.int fl), .unset] [(.int (1 : Int32))])) (fun _ k => XT.iconstV X41.here hx rfl (1 : Int32) (hb hby at_84) rfl k) ?_
        refine own_go (B := T41.setTop (mkF m 89 #[.val (.int p0), .val (.int p1), .val (.int p2), .val (.int (7 : Int32)), .val (.ref (A 11)), .val (.int (p2 &&& (3 : Int32))), .val (.int fl), .unset] [(.int (1 : Int32))])) (fun _ k => XS.goto X41.here hx rfl (pc0 := 85) (pc' := 89) rfl (hb hby at_85) (by decide) (by decide) k) ?_
        refine own_go (B := T41.setTop (mkF m 91 #[.val (.int p0), .val (.int p1), .val (.int p2), .val (.int (7 : Int32)), .val (.ref (A 11)), .val (.int (p2 &&& (3 : Int32))), .val (.int fl), .val (.int (1 : Int32))] [])) (fun _ k => XS.istore X41.here hx rfl (hb hby at_89) rfl (l' := #[.val (.int p0), .val (.int p1), .val (.int p2), .val (.int (7 : Int32)), .val (.ref (A 11)), .val (.int (p2 &&& (3 : Int32))), .val (.int fl), .val (.int (1 : Int32))]) rfl k) ?_
        refine own_go (B := T41.setTop (mkF m 106 #[.val (.int p0), .val (.int p1), .val (.int p2), .val (.int (7 : Int32)), .val (.ref (A 11)), .val (.int (p2 &&& (3 : Int32))), .val (.int fl), .val (.int (1 : Int32))] [])) (fun _ k => XS.goto X41.here hx rfl (pc0 := 91) (pc' := 106) rfl (hb hby at_91) (by decide) (by decide) k) ?_
        refine own_go (B := T41.setTop (mkF m 108 #[.val (.int p0), .val (.int p1), .val (.int p2), .val (.int (7 : Int32)), .val (.ref (A 11)), .val (.int (p2 &&& (3 : Int32))), .val (.int fl), .val (.int (1 : Int32))] [(.ref (A 11))])) (fun _ k => XS.aload X41.here hx rfl (hb hby at_106) rfl rfl k) ?_
        refine own_go (B := T41.setTop (mkF m 110 #[.val (.int p0), .val (.int p1), .val (.int p2), .val (.int (7 : Int32)), .val (.ref (A 11)), .val (.int (p2 &&& (3 : Int32))), .val (.int fl), .val (.int (1 : Int32))] [(.int fl), (.ref (A 11))])) (fun _ k => XS.iload X41.here hx rfl (hb hby at_108) rfl k) ?_
        obtain ⟨cq43, kq43, q43a, q43b, q43c⟩ := isOf hZ e41 (E_SUBSCRIBE.ext x0)
        obtain ⟨_, _, ⟨T43, L43, k43, n43⟩, -, X43, ⟨Lc43, hQ43, l43, y43, z43⟩, st43⟩ := X41.virtualBack hx (y := (⟨"com/example/ferrybus/ferrybus/codec/PacketType", "allows", "(I)Z"⟩ : MethodName)) (z := (⟨"com/example/ferrybus/ferrybus/codec/PacketType", "allows", "(I)Z"⟩ : MethodName)) hown (mvT hZ (hw _ (List.mem_of_getElem? (i := 8) rfl))) (mvT hZ (hw _ (List.mem_of_getElem? (i := 9) rfl))) (notFace_of_selects (args := #[]) (mvT hZ (hw _ (List.mem_of_getElem? (i := 11) rfl)))) (mvT hZ (hw _ (List.mem_of_getElem? (i := 11) rfl))) (mvT hZ (hw _ (List.mem_of_getElem? (i := 10) rfl))) (by decide) (own_back (W := 0) (rm2_13 l Z a0 hw [] fl A hW h0 x0 hc8142.symm) hZ (hw _ (List.mem_of_getElem? (i := 12) rfl)) (hw _ (List.mem_of_getElem? (i := 6) rfl)) (by decide) (by decide)) q43a q43c (g := (mkF m 110 #[.val (.int p0), .val (.int p1), .val (.int p2), .val (.int (7 : Int32)), .val (.ref (A 11)), .val (.int (p2 &&& (3 : Int32))), .val (.int fl), .val (.int (1 : Int32))] [(.int fl), (.ref (A 11))])) rfl (by rw [hml]; rfl) (Steps.refl _) (argsL := [(.int fl)]) (rest := []) (lenOf pd_1 rfl) rfl (by show 2 * 0 + _ ≤ _; exact Nat.le_of_eq rfl) (hb hby at_110) (fun _ _ => ⟨rfl, e41, (by decide : 0 + 0 ≤ _), (by decide : 0 + 0 ≤ _)⟩)
        dsimp only [Pt.U, Pt.locs, Pt.cells, Pt.slots] at X43 l43 y43 z43 st43 hQ43
        subst l43 y43 z43
        obtain ⟨rfl, N43q, e43⟩ := hQ43
        have N43 := Fr.app N41 N43q
        refine own_go (B := T43.setTop (mkF m 113 #[.val (.int p0), .val (.int p1), .val (.int p2), .val (.int (7 : Int32)), .val (.ref (A 11)), .val (.int (p2 &&& (3 : Int32))), .val (.int fl), .val (.int (1 : Int32))] [(.int (1 : Int32))])) (fun _ k => st43.trans k) ?_
        refine own_go (B := T43.setTop (mkF m 115 #[.val (.int p0), .val (.int p1), .val (.int p2), .val (.int (7 : Int32)), .val (.ref (A 11)), .val (.int (p2 &&& (3 : Int32))), .val (.int fl), .val (.int (1 : Int32))] [(.int (1 : Int32)), (.int (1 : Int32))])) (fun _ k => XS.iload X43.here hx rfl (hb hby at_113) rfl k) ?_
        refine own_go (B := T43.setTop (mkF m 118 #[.val (.int p0), .val (.int p1), .val (.int p2), .val (.int (7 : Int32)), .val (.ref (A 11)), .val (.int (p2 &&& (3 : Int32))), .val (.int fl), .val (.int (1 : Int32))] [])) (fun _ k => XS.icmpNo X43.here hx rfl (hb hby at_115) rfl (by decide) k) ?_
        refine own_go (B := T43.setTop (mkF m 119 #[.val (.int p0), .val (.int p1), .val (.int p2), .val (.int (7 : Int32)), .val (.ref (A 11)), .val (.int (p2 &&& (3 : Int32))), .val (.int fl), .val (.int (1 : Int32))] [(.int (1 : Int32))])) (fun _ k => XT.iconstV X43.here hx rfl (1 : Int32) (hb hby at_118) rfl k) ?_
        refine own_go (B := T43.setTop (mkF m 123 #[.val (.int p0), .val (.int p1), .val (.int p2), .val (.int (7 : Int32)), .val (.ref (A 11)), .val (.int (p2 &&& (3 : Int32))), .val (.int fl), .val (.int (1 : Int32))] [(.int (1 : Int32))])) (fun _ k => XS.goto X43.here hx rfl (pc0 := 119) (pc' := 123) rfl (hb hby at_119) (by decide) (by decide) k) ?_
        exact own_ret X43 hx (t := .boolean) hrt rfl (Or.inl ⟨rfl, by simp, _, rfl⟩) (hb hby at_123) hlk ⟨rfl, N43⟩ (by decide) (by decide)
      · refine own_go (B := T41.setTop (mkF m 88 #[.val (.int p0), .val (.int p1), .val (.int p2), .val (.int (7 : Int32)), .val (.ref (A 11)), .val (.int (p2 &&& (3 : Int32))), .val (.int fl), .unset] [])) (fun _ k => XS.icmpYes X41.here hx rfl (pc0 := 81) (pc' := 88) rfl (hb hby at_81) rfl (feq hc8142).2 (by decide) (by decide) k) ?_
        refine own_go (B := T41.setTop (mkF m 89 #[.val (.int p0), .val (.int p1), .val (.int p2), .val (.int (7 : Int32)), .val (.ref (A 11)), .val (.int (p2 &&& (3 : Int32))), .val (.int fl), .unset] [(.int (0 : Int32))])) (fun _ k => XT.iconstV X41.here hx rfl (0 : Int32) (hb hby at_88) rfl k) ?_
        refine own_go (B := T41.setTop (mkF m 91 #[.val (.int p0), .val (.int p1), .val (.int p2), .val (.int (7 : Int32)), .val (.ref (A 11)), .val (.int (p2 &&& (3 : Int32))), .val (.int fl), .val (.int (0 : Int32))] [])) (fun _ k => XS.istore X41.here hx rfl (hb hby at_89) rfl (l' := #[.val (.int p0), .val (.int p1), .val (.int p2), .val (.int (7 : Int32)), .val (.ref (A 11)), .val (.int (p2 &&& (3 : Int32))), .val (.int fl), .val (.int (0 : Int32))]) rfl k) ?_
        refine own_go (B := T41.setTop (mkF m 106 #[.val (.int p0), .val (.int p1), .val (.int p2), .val (.int (7 : Int32)), .val (.ref (A 11)), .val (.int (p2 &&& (3 : Int32))), .val (.int fl), .val (.int (0 : Int32))] [])) (fun _ k => XS.goto X41.here hx rfl (pc0 := 91) (pc' := 106) rfl (hb hby at_91) (by decide) (by decide) k) ?_
        refine own_go (B := T41.setTop (mkF m 108 #[.val (.int p0), .val (.int p1), .val (.int p2), .val (.int (7 : Int32)), .val (.ref (A 11)), .val (.int (p2 &&& (3 : Int32))), .val (.int fl), .val (.int (0 : Int32))] [(.ref (A 11))])) (fun _ k => XS.aload X41.here hx rfl (hb hby at_106) rfl rfl k) ?_
        refine own_go (B := T41.setTop (mkF m 110 #[.val (.int p0), .val (.int p1), .val (.int p2), .val (.int (7 : Int32)), .val (.ref (A 11)), .val (.int (p2 &&& (3 : Int32))), .val (.int fl), .val (.int (0 : Int32))] [(.int fl), (.ref (A 11))])) (fun _ k => XS.iload X41.here hx rfl (hb hby at_108) rfl k) ?_
        obtain ⟨cq44, kq44, q44a, q44b, q44c⟩ := isOf hZ e41 (E_SUBSCRIBE.ext x0)
        obtain ⟨_, _, ⟨T44, L44, k44, n44⟩, -, X44, ⟨Lc44, hQ44, l44, y44, z44⟩, st44⟩ := X41.virtualBack hx (y := (⟨"com/example/ferrybus/ferrybus/codec/PacketType", "allows", "(I)Z"⟩ : MethodName)) (z := (⟨"com/example/ferrybus/ferrybus/codec/PacketType", "allows", "(I)Z"⟩ : MethodName)) hown (mvT hZ (hw _ (List.mem_of_getElem? (i := 8) rfl))) (mvT hZ (hw _ (List.mem_of_getElem? (i := 9) rfl))) (notFace_of_selects (args := #[]) (mvT hZ (hw _ (List.mem_of_getElem? (i := 11) rfl)))) (mvT hZ (hw _ (List.mem_of_getElem? (i := 11) rfl))) (mvT hZ (hw _ (List.mem_of_getElem? (i := 10) rfl))) (by decide) (own_back (W := 0) (rm2_14 l Z a0 hw [] fl A hW h0 x0 (fun q => hc8142 q.symm)) hZ (hw _ (List.mem_of_getElem? (i := 12) rfl)) (hw _ (List.mem_of_getElem? (i := 6) rfl)) (by decide) (by decide)) q44a q44c (g := (mkF m 110 #[.val (.int p0), .val (.int p1), .val (.int p2), .val (.int (7 : Int32)), .val (.ref (A 11)), .val (.int (p2 &&& (3 : Int32))), .val (.int fl), .val (.int (0 : Int32))] [(.int fl), (.ref (A 11))])) rfl (by rw [hml]; rfl) (Steps.refl _) (argsL := [(.int fl)]) (rest := []) (lenOf pd_1 rfl) rfl (by show 2 * 0 + _ ≤ _; exact Nat.le_of_eq rfl) (hb hby at_110) (fun _ _ => ⟨rfl, e41, (by decide : 0 + 0 ≤ _), (by decide : 0 + 0 ≤ _)⟩)
        dsimp only [Pt.U, Pt.locs, Pt.cells, Pt.slots] at X44 l44 y44 z44 st44 hQ44
        subst l44 y44 z44
        obtain ⟨rfl, N44q, e44⟩ := hQ44
        have N44 := Fr.app N41 N44q
        refine own_go (B := T44.setTop (mkF m 113 #[.val (.int p0), .val (.int p1), .val (.int p2), .val (.int (7 : Int32)), .val (.ref (A 11)), .val (.int (p2 &&& (3 : Int32))), .val (.int fl), .val (.int (0 : Int32))] [(.int (0 : Int32))])) (fun _ k => st44.trans k) ?_
        refine own_go (B := T44.setTop (mkF m 115 #[.val (.int p0), .val (.int p1), .val (.int p2), .val (.int (7 : Int32)), .val (.ref (A 11)), .val (.int (p2 &&& (3 : Int32))), .val (.int fl), .val (.int (0 : Int32))] [(.int (0 : Int32)), (.int (0 : Int32))])) (fun _ k => XS.iload X44.here hx rfl (hb hby at_113) rfl k) ?_
        refine own_go (B := T44.setTop (mkF m 118 #[.val (.int p0), .val (.int p1), .val (.int p2), .val (.int (7 : Int32)), .val (.ref (A 11)), .val (.int (p2 &&& (3 : Int32))), .val (.int fl), .val (.int (0 : Int32))] [])) (fun _ k => XS.icmpNo X44.here hx rfl (hb hby at_115) rfl (by decide) k) ?_
        refine own_go (B := T44.setTop (mkF m 119 #[.val (.int p0), .val (.int p1), .val (.int p2), .val (.int (7 : Int32)), .val (.ref (A 11)), .val (.int (p2 &&& (3 : Int32))), .val (.int fl), .val (.int (0 : Int32))] [(.int (1 : Int32))])) (fun _ k => XT.iconstV X44.here hx rfl (1 : Int32) (hb hby at_118) rfl k) ?_
        refine own_go (B := T44.setTop (mkF m 123 #[.val (.int p0), .val (.int p1), .val (.int p2), .val (.int (7 : Int32)), .val (.ref (A 11)), .val (.int (p2 &&& (3 : Int32))), .val (.int fl), .val (.int (0 : Int32))] [(.int (1 : Int32))])) (fun _ k => XS.goto X44.here hx rfl (pc0 := 119) (pc' := 123) rfl (hb hby at_119) (by decide) (by decide) k) ?_
        exact own_ret X44 hx (t := .boolean) hrt rfl (Or.inl ⟨rfl, by simp, _, rfl⟩) (hb hby at_123) hlk ⟨rfl, N44⟩ (by decide) (by decide)
    refine own_go (B := T41.setTop (mkF m 21 #[.val (.int p0), .val (.int p1), .val (.int p2), .val (.int (7 : Int32)), .val (.ref (A 11)), .val (.int (p2 &&& (3 : Int32))), .unset, .unset] [(.int (p2 &&& (3 : Int32)))])) (fun _ k => XS.iload X41.here hx rfl (hb hby at_19) rfl k) ?_
    by_cases hc2145 : (p2 &&& (3 : Int32)) = (0 : Int32)
    · refine own_go (B := T41.setTop (mkF m 24 #[.val (.int p0), .val (.int p1), .val (.int p2), .val (.int (7 : Int32)), .val (.ref (A 11)), .val (.int (p2 &&& (3 : Int32))), .unset, .unset] [])) (fun _ k => XS.ifNo X41.here hx rfl (hb hby at_21) rfl ((if0 _ _).trans (teq hc2145).2) k) ?_
      refine own_go (B := T41.setTop (mkF m 25 #[.val (.int p0), .val (.int p1), .val (.int p2), .val (.int (7 : Int32)), .val (.ref (A 11)), .val (.int (p2 &&& (3 : Int32))), .unset, .unset] [(.int p1)])) (fun _ k => XS.iloadN X41.here hx rfl (hb hby at_24) rfl k) ?_
      refine own_go (B := T41.setTop (mkF m 27 #[.val (.int p0), .val (.int p1), .val (.int p2), .val (.int (7 : Int32)), .val (.ref (A 11)), .val (.int (p2 &&& (3 : Int32))), .val (.int p1), .unset] [])) (fun _ k => XS.istore X41.here hx rfl (hb hby at_25) rfl (l' := #[.val (.int p0), .val (.int p1), .val (.int p2), .val (.int (7 : Int32)), .val (.ref (A 11)), .val (.int (p2 &&& (3 : Int32))), .val (.int p1), .unset]) rfl k) ?_
      refine own_go (B := T41.setTop (mkF m 50 #[.val (.int p0), .val (.int p1), .val (.int p2), .val (.int (7 : Int32)), .val (.ref (A 11)), .val (.int (p2 &&& (3 : Int32))), .val (.int p1), .unset] [])) (fun _ k => XS.goto X41.here hx rfl (pc0 := 27) (pc' := 50) rfl (hb hby at_27) (by decide) (by decide) k) ?_
      exact tail _
    · refine own_go (B := T41.setTop (mkF m 30 #[.val (.int p0), .val (.int p1), .val (.int p2), .val (.int (7 : Int32)), .val (.ref (A 11)), .val (.int (p2 &&& (3 : Int32))), .unset, .unset] [])) (fun _ k => XS.ifYes X41.here hx rfl (pc0 := 21) (pc' := 30) rfl (hb hby at_21) rfl ((if0 _ _).trans (feq hc2145).2) (by decide) (by decide) k) ?_
      refine own_go (B := T41.setTop (mkF m 32 #[.val (.int p0), .val (.int p1), .val (.int p2), .val (.int (7 : Int32)), .val (.ref (A 11)), .val (.int (p2 &&& (3 : Int32))), .unset, .unset] [(.int (p2 &&& (3 : Int32)))])) (fun _ k => XS.iload X41.here hx rfl (hb hby at_30) rfl k) ?_
      refine own_go (B := T41.setTop (mkF m 33 #[.val (.int p0), .val (.int p1), .val (.int p2), .val (.int (7 : Int32)), .val (.ref (A 11)), .val (.int (p2 &&& (3 : Int32))), .unset, .unset] [(.int (1 : Int32)), (.int (p2 &&& (3 : Int32)))])) (fun _ k => XT.iconstV X41.here hx rfl (1 : Int32) (hb hby at_32) rfl k) ?_
      by_cases hc3346 : (p2 &&& (3 : Int32)) = (1 : Int32)
      · refine own_go (B := T41.setTop (mkF m 36 #[.val (.int p0), .val (.int p1), .val (.int p2), .val (.int (7 : Int32)), .val (.ref (A 11)), .val (.int (p2 &&& (3 : Int32))), .unset, .unset] [])) (fun _ k => XS.icmpNo X41.here hx rfl (hb hby at_33) rfl (teq hc3346).2 k) ?_
        refine own_go (B := T41.setTop (mkF m 37 #[.val (.int p0), .val (.int p1), .val (.int p2), .val (.int (7 : Int32)), .val (.ref (A 11)), .val (.int (p2 &&& (3 : Int32))), .unset, .unset] [(.int p1)])) (fun _ k => XS.iloadN X41.here hx rfl (hb hby at_36) rfl k) ?_
        refine own_go (B := T41.setTop (mkF m 39 #[.val (.int p0), .val (.int p1), .val (.int p2), .val (.int (7 : Int32)), .val (.ref (A 11)), .val (.int (p2 &&& (3 : Int32))), .unset, .unset] [(.int (15 : Int32)), (.int p1)])) (fun _ k => XT.bipushV X41.here hx rfl (15 : Int32) (hb hby at_37) (by decide) k) ?_
        refine own_go (B := T41.setTop (mkF m 40 #[.val (.int p0), .val (.int p1), .val (.int p2), .val (.int (7 : Int32)), .val (.ref (A 11)), .val (.int (p2 &&& (3 : Int32))), .unset, .unset] [(.int (p1 &&& (15 : Int32)))])) (fun _ k => XS.iand X41.here hx rfl (hb hby at_39) rfl k) ?_
        refine own_go (B := T41.setTop (mkF m 42 #[.val (.int p0), .val (.int p1), .val (.int p2), .val (.int (7 : Int32)), .val (.ref (A 11)), .val (.int (p2 &&& (3 : Int32))), .val (.int (p1 &&& (15 : Int32))), .unset] [])) (fun _ k => XS.istore X41.here hx rfl (hb hby at_40) rfl (l' := #[.val (.int p0), .val (.int p1), .val (.int p2), .val (.int (7 : Int32)), .val (.ref (A 11)), .val (.int (p2 &&& (3 : Int32))), .val (.int (p1 &&& (15 : Int32))), .unset]) rfl k) ?_
        refine own_go (B := T41.setTop (mkF m 50 #[.val (.int p0), .val (.int p1), .val (.int p2), .val (.int (7 : Int32)), .val (.ref (A 11)), .val (.int (p2 &&& (3 : Int32))), .val (.int (p1 &&& (15 : Int32))), .unset] [])) (fun _ k => XS.goto X41.here hx rfl (pc0 := 42) (pc' := 50) rfl (hb hby at_42) (by decide) (by decide) k) ?_
        exact tail _
      · refine own_go (B := T41.setTop (mkF m 45 #[.val (.int p0), .val (.int p1), .val (.int p2), .val (.int (7 : Int32)), .val (.ref (A 11)), .val (.int (p2 &&& (3 : Int32))), .unset, .unset] [])) (fun _ k => XS.icmpYes X41.here hx rfl (pc0 := 33) (pc' := 45) rfl (hb hby at_33) rfl (feq hc3346).2 (by decide) (by decide) k) ?_
        refine own_go (B := T41.setTop (mkF m 46 #[.val (.int p0), .val (.int p1), .val (.int p2), .val (.int (7 : Int32)), .val (.ref (A 11)), .val (.int (p2 &&& (3 : Int32))), .unset, .unset] [(.int p1)])) (fun _ k => XS.iloadN X41.here hx rfl (hb hby at_45) rfl k) ?_
        refine own_go (B := T41.setTop (mkF m 47 #[.val (.int p0), .val (.int p1), .val (.int p2), .val (.int (7 : Int32)), .val (.ref (A 11)), .val (.int (p2 &&& (3 : Int32))), .unset, .unset] [(.int (3 : Int32)), (.int p1)])) (fun _ k => XT.iconstV X41.here hx rfl (3 : Int32) (hb hby at_46) rfl k) ?_
        refine own_go (B := T41.setTop (mkF m 48 #[.val (.int p0), .val (.int p1), .val (.int p2), .val (.int (7 : Int32)), .val (.ref (A 11)), .val (.int (p2 &&& (3 : Int32))), .unset, .unset] [(.int (p1 &&& (3 : Int32)))])) (fun _ k => XS.iand X41.here hx rfl (hb hby at_47) rfl k) ?_
        refine own_go (B := T41.setTop (mkF m 50 #[.val (.int p0), .val (.int p1), .val (.int p2), .val (.int (7 : Int32)), .val (.ref (A 11)), .val (.int (p2 &&& (3 : Int32))), .val (.int (p1 &&& (3 : Int32))), .unset] [])) (fun _ k => XS.istore X41.here hx rfl (hb hby at_48) rfl (l' := #[.val (.int p0), .val (.int p1), .val (.int p2), .val (.int (7 : Int32)), .val (.ref (A 11)), .val (.int (p2 &&& (3 : Int32))), .val (.int (p1 &&& (3 : Int32))), .unset]) rfl k) ?_
        exact tail _
  · refine own_go (B := s₁.setTop (mkF m 9 #[.val (.int p0), .val (.int p1), .val (.int p2), .val (.int (8 : Int32)), .unset, .unset, .unset, .unset] [(.int (8 : Int32))])) (fun _ k => XS.iloadN X0.here hx rfl (hb hby at_8) rfl k) ?_
    obtain ⟨_, _, ⟨T47, L47, k47, n47⟩, -, X47, ⟨Lc47, hQ47, l47, y47, z47⟩, st47⟩ := Jvm.LawKit.callS X0 hx (y := (⟨"com/example/ferrybus/ferrybus/codec/PacketTypeAllowsPinLaw", "pick", "(I)Lcom/example/ferrybus/ferrybus/codec/PacketType;"⟩ : MethodName)) hown (mvT hZ (hw _ (List.mem_of_getElem? (i := 1) rfl))) (mvT hZ (hw _ (List.mem_of_getElem? (i := 2) rfl))) (mvT hZ (hw _ (List.mem_of_getElem? (i := 3) rfl))) (mvT hZ (hw _ (List.mem_of_getElem? (i := 4) rfl))) (by decide) (own_back (W := 0) (rm1_8 l Z a0 hw []  A hW h0 x0 ) hZ (hw _ (List.mem_of_getElem? (i := 4) rfl)) (hw _ (List.mem_of_getElem? (i := 3) rfl)) (by decide) (by decide)) (g := (mkF m 9 #[.val (.int p0), .val (.int p1), .val (.int p2), .val (.int (8 : Int32)), .unset, .unset, .unset, .unset] [(.int (8 : Int32))])) rfl (by rw [hml]; rfl) (argsL := [(.int (8 : Int32))]) (rest := []) (lenOf pd_0 rfl) rfl (by show 2 * 0 + _ ≤ _; exact Nat.le_of_eq rfl) (hb hby at_9) (fun _ _ => ⟨rfl, e0, (by decide : 0 + 0 ≤ _), (by decide : 0 + 0 ≤ _)⟩)
    dsimp only [Pt.U, Pt.locs, Pt.cells, Pt.slots] at X47 l47 y47 z47 st47 hQ47
    subst l47 y47 z47
    obtain ⟨rfl, N47q, e47⟩ := hQ47
    have N47 := Fr.app N0 N47q
    refine own_go (B := T47.setTop (mkF m 12 #[.val (.int p0), .val (.int p1), .val (.int p2), .val (.int (8 : Int32)), .unset, .unset, .unset, .unset] [(.ref (A 4))])) st47 ?_
    refine own_go (B := T47.setTop (mkF m 14 #[.val (.int p0), .val (.int p1), .val (.int p2), .val (.int (8 : Int32)), .val (.ref (A 4)), .unset, .unset, .unset] [])) (fun _ k => XS.astore X47.here hx rfl (hb hby at_12) rfl rfl (l' := #[.val (.int p0), .val (.int p1), .val (.int p2), .val (.int (8 : Int32)), .val (.ref (A 4)), .unset, .unset, .unset]) rfl k) ?_
    refine own_go (B := T47.setTop (mkF m 15 #[.val (.int p0), .val (.int p1), .val (.int p2), .val (.int (8 : Int32)), .val (.ref (A 4)), .unset, .unset, .unset] [(.int p2)])) (fun _ k => XS.iloadN X47.here hx rfl (hb hby at_14) rfl k) ?_
    refine own_go (B := T47.setTop (mkF m 16 #[.val (.int p0), .val (.int p1), .val (.int p2), .val (.int (8 : Int32)), .val (.ref (A 4)), .unset, .unset, .unset] [(.int (3 : Int32)), (.int p2)])) (fun _ k => XT.iconstV X47.here hx rfl (3 : Int32) (hb hby at_15) rfl k) ?_
    refine own_go (B := T47.setTop (mkF m 17 #[.val (.int p0), .val (.int p1), .val (.int p2), .val (.int (8 : Int32)), .val (.ref (A 4)), .unset, .unset, .unset] [(.int (p2 &&& (3 : Int32)))])) (fun _ k => XS.iand X47.here hx rfl (hb hby at_16) rfl k) ?_
    refine own_go (B := T47.setTop (mkF m 19 #[.val (.int p0), .val (.int p1), .val (.int p2), .val (.int (8 : Int32)), .val (.ref (A 4)), .val (.int (p2 &&& (3 : Int32))), .unset, .unset] [])) (fun _ k => XS.istore X47.here hx rfl (hb hby at_17) rfl (l' := #[.val (.int p0), .val (.int p1), .val (.int p2), .val (.int (8 : Int32)), .val (.ref (A 4)), .val (.int (p2 &&& (3 : Int32))), .unset, .unset]) rfl k) ?_
    have tail : ∀ fl : Int32, own_G p.tables e below s (fun v_ h_ L_ => v_ = some (.int (1 : Int32)) ∧ Fr Z.heap.size L_) room_1.cells room_1.slots (T47.setTop (mkF m 50 #[.val (.int p0), .val (.int p1), .val (.int p2), .val (.int (8 : Int32)), .val (.ref (A 4)), .val (.int (p2 &&& (3 : Int32))), .val (.int fl), .unset] [])) := by
      intro fl
      refine own_go (B := T47.setTop (mkF m 51 #[.val (.int p0), .val (.int p1), .val (.int p2), .val (.int (8 : Int32)), .val (.ref (A 4)), .val (.int (p2 &&& (3 : Int32))), .val (.int fl), .unset] [(.int (8 : Int32))])) (fun _ k => XS.iloadN X47.here hx rfl (hb hby at_50) rfl k) ?_
      refine own_go (B := T47.setTop (mkF m 52 #[.val (.int p0), .val (.int p1), .val (.int p2), .val (.int (8 : Int32)), .val (.ref (A 4)), .val (.int (p2 &&& (3 : Int32))), .val (.int fl), .unset] [(.int (2 : Int32)), (.int (8 : Int32))])) (fun _ k => XT.iconstV X47.here hx rfl (2 : Int32) (hb hby at_51) rfl k) ?_
      refine own_go (B := T47.setTop (mkF m 61 #[.val (.int p0), .val (.int p1), .val (.int p2), .val (.int (8 : Int32)), .val (.ref (A 4)), .val (.int (p2 &&& (3 : Int32))), .val (.int fl), .unset] [])) (fun _ k => XS.icmpYes X47.here hx rfl (pc0 := 52) (pc' := 61) rfl (hb hby at_52) rfl (by decide) (by decide) (by decide) k) ?_
      refine own_go (B := T47.setTop (mkF m 62 #[.val (.int p0), .val (.int p1), .val (.int p2), .val (.int (8 : Int32)), .val (.ref (A 4)), .val (.int (p2 &&& (3 : Int32))), .val (.int fl), .unset] [(.int (8 : Int32))])) (fun _ k => XS.iloadN X47.here hx rfl (hb hby at_61) rfl k) ?_
      refine own_go (B := T47.setTop (mkF m 63 #[.val (.int p0), .val (.int p1), .val (.int p2), .val (.int (8 : Int32)), .val (.ref (A 4)), .val (.int (p2 &&& (3 : Int32))), .val (.int fl), .unset] [(.int (5 : Int32)), (.int (8 : Int32))])) (fun _ k => XT.iconstV X47.here hx rfl (5 : Int32) (hb hby at_62) rfl k) ?_
      refine own_go (B := T47.setTop (mkF m 66 #[.val (.int p0), .val (.int p1), .val (.int p2), .val (.int (8 : Int32)), .val (.ref (A 4)), .val (.int (p2 &&& (3 : Int32))), .val (.int fl), .unset] [])) (fun _ k => XS.icmpNo X47.here hx rfl (hb hby at_63) rfl (by decide) k) ?_
      refine own_go (B := T47.setTop (mkF m 67 #[.val (.int p0), .val (.int p1), .val (.int p2), .val (.int (8 : Int32)), .val (.ref (A 4)), .val (.int (p2 &&& (3 : Int32))), .val (.int fl), .unset] [(.int (8 : Int32))])) (fun _ k => XS.iloadN X47.here hx rfl (hb hby at_66) rfl k) ?_
      refine own_go (B := T47.setTop (mkF m 69 #[.val (.int p0), .val (.int p1), .val (.int p2), .val (.int (8 : Int32)), .val (.ref (A 4)), .val (.int (p2 &&& (3 : Int32))), .val (.int fl), .unset] [(.int (7 : Int32)), (.int (8 : Int32))])) (fun _ k => XT.bipushV X47.here hx rfl (7 : Int32) (hb hby at_67) (by decide) k) ?_
      refine own_go (B := T47.setTop (mkF m 72 #[.val (.int p0), .val (.int p1), .val (.int p2), .val (.int (8 : Int32)), .val (.ref (A 4)), .val (.int (p2 &&& (3 : Int32))), .val (.int fl), .unset] [])) (fun _ k => XS.icmpNo X47.here hx rfl (hb hby at_69) rfl (by decide) k) ?_
      refine own_go (B := T47.setTop (mkF m 73 #[.val (.int p0), .val (.int p1), .val (.int p2), .val (.int (8 : Int32)), .val (.ref (A 4)), .val (.int (p2 &&& (3 : Int32))), .val (.int fl), .unset] [(.int (8 : Int32))])) (fun _ k => XS.iloadN X47.here hx rfl (hb hby at_72) rfl k) ?_
      refine own_go (B := T47.setTop (mkF m 75 #[.val (.int p0), .val (.int p1), .val (.int p2), .val (.int (8 : Int32)), .val (.ref (A 4)), .val (.int (p2 &&& (3 : Int32))), .val (.int fl), .unset] [(.int (9 : Int32)), (.int (8 : Int32))])) (fun _ k => XT.bipushV X47.here hx rfl (9 : Int32) (hb hby at_73) (by decide) k) ?_
      refine own_go (B := T47.setTop (mkF m 94 #[.val (.int p0), .val (.int p1), .val (.int p2), .val (.int (8 : Int32)), .val (.ref (A 4)), .val (.int (p2 &&& (3 : Int32))), .val (.int fl), .unset] [])) (fun _ k => XS.icmpYes X47.here hx rfl (pc0 := 75) (pc' := 94) rfl (hb hby at_75) rfl (by decide) (by decide) (by decide) k) ?_
      refine own_go (B := T47.setTop (mkF m 96 #[.val (.int p0), .val (.int p1), .val (.int p2), .val (.int (8 : Int32)), .val (.ref (A 4)), .val (.int (p2 &&& (3 : Int32))), .val (.int fl), .unset] [(.int fl)])) (fun _ k => XS.iload X47.here hx rfl (hb hby at_94) rfl k) ?_
      by_cases hc9648 : fl = (0 : Int32)
      · refine own_go (B := T47.setTop (mkF m 99 #[.val (.int p0), .val (.int p1), .val (.int p2), .val (.int (8 : Int32)), .val (.ref (A 4)), .val (.int (p2 &&& (3 : Int32))), .val (.int fl), .unset] [])) (fun _ k => XS.ifNo X47.here hx rfl (hb hby at_96) rfl ((if0 _ _).trans (teq hc9648).2) k) ?_
        refine own_go (B := T47.setTop (mkF m 100 #[.val (.int p0), .val (.int p1), .val (.int p2), .val (.int (8 : Int32)), .val (.ref (A 4)), .val (.int (p2 &&& (3 : Int32))), .val (.int fl), .unset] [(.int (1 : Int32))])) (fun _ k => XT.iconstV X47.here hx rfl (1 : Int32) (hb hby at_99) rfl k) ?_
        refine own_go (B := T47.setTop (mkF m 104 #[.val (.int p0), .val (.int p1), .val (.int p2), .val (.int (8 : Int32)), .val (.ref (A 4)), .val (.int (p2 &&& (3 : Int32))), .val (.int fl), .unset] [(.int (1 : Int32))])) (fun _ k => XS.goto X47.here hx rfl (pc0 := 100) (pc' := 104) rfl (hb hby at_100) (by decide) (by decide) k) ?_
        refine own_go (B := T47.setTop (mkF m 106 #[.val (.int p0), .val (.int p1), .val (.int p2), .val (.int (8 : Int32)), .val (.ref (A 4)), .val (.int (p2 &&& (3 : Int32))), .val (.int fl), .val (.int (1 : Int32))] [])) (fun _ k => XS.istore X47.here hx rfl (hb hby at_104) rfl (l' := #[.val (.int p0), .val (.int p1), .val (.int p2), .val (.int (8 : Int32)), .val (.ref (A 4)), .val (.int (p2 &&& (3 : Int32))), .val (.int fl), .val (.int (1 : Int32))]) rfl k) ?_
        refine own_go (B := T47.setTop (mkF m 108 #[.val (.int p0), .val (.int p1), .val (.int p2), .val (.int (8 : Int32)), .val (.ref (A 4)), .val (.int (p2 &&& (3 : Int32))), .val (.int fl), .val (.int (1 : Int32))] [(.ref (A 4))])) (fun _ k => XS.aload X47.here hx rfl (hb hby at_106) rfl rfl k) ?_
        refine own_go (B := T47.setTop (mkF m 110 #[.val (.int p0), .val (.int p1), .val (.int p2), .val (.int (8 : Int32)), .val (.ref (A 4)), .val (.int (p2 &&& (3 : Int32))), .val (.int fl), .val (.int (1 : Int32))] [(.int fl), (.ref (A 4))])) (fun _ k => XS.iload X47.here hx rfl (hb hby at_108) rfl k) ?_
        obtain ⟨cq49, kq49, q49a, q49b, q49c⟩ := isOf hZ e47 (E_SUBACK.ext x0)
        obtain ⟨_, _, ⟨T49, L49, k49, n49⟩, -, X49, ⟨Lc49, hQ49, l49, y49, z49⟩, st49⟩ := X47.virtualBack hx (y := (⟨"com/example/ferrybus/ferrybus/codec/PacketType", "allows", "(I)Z"⟩ : MethodName)) (z := (⟨"com/example/ferrybus/ferrybus/codec/PacketType", "allows", "(I)Z"⟩ : MethodName)) hown (mvT hZ (hw _ (List.mem_of_getElem? (i := 8) rfl))) (mvT hZ (hw _ (List.mem_of_getElem? (i := 9) rfl))) (notFace_of_selects (args := #[]) (mvT hZ (hw _ (List.mem_of_getElem? (i := 11) rfl)))) (mvT hZ (hw _ (List.mem_of_getElem? (i := 11) rfl))) (mvT hZ (hw _ (List.mem_of_getElem? (i := 10) rfl))) (by decide) (own_back (W := 0) (rm2_15 l Z a0 hw [] fl A hW h0 x0 hc9648.symm) hZ (hw _ (List.mem_of_getElem? (i := 12) rfl)) (hw _ (List.mem_of_getElem? (i := 6) rfl)) (by decide) (by decide)) q49a q49c (g := (mkF m 110 #[.val (.int p0), .val (.int p1), .val (.int p2), .val (.int (8 : Int32)), .val (.ref (A 4)), .val (.int (p2 &&& (3 : Int32))), .val (.int fl), .val (.int (1 : Int32))] [(.int fl), (.ref (A 4))])) rfl (by rw [hml]; rfl) (Steps.refl _) (argsL := [(.int fl)]) (rest := []) (lenOf pd_1 rfl) rfl (by show 2 * 0 + _ ≤ _; exact Nat.le_of_eq rfl) (hb hby at_110) (fun _ _ => ⟨rfl, e47, (by decide : 0 + 0 ≤ _), (by decide : 0 + 0 ≤ _)⟩)
        dsimp only [Pt.U, Pt.locs, Pt.cells, Pt.slots] at X49 l49 y49 z49 st49 hQ49
        subst l49 y49 z49
        obtain ⟨rfl, N49q, e49⟩ := hQ49
        have N49 := Fr.app N47 N49q
        refine own_go (B := T49.setTop (mkF m 113 #[.val (.int p0), .val (.int p1), .val (.int p2), .val (.int (8 : Int32)), .val (.ref (A 4)), .val (.int (p2 &&& (3 : Int32))), .val (.int fl), .val (.int (1 : Int32))] [(.int (1 : Int32))])) (fun _ k => st49.trans k) ?_
        refine own_go (B := T49.setTop (mkF m 115 #[.val (.int p0), .val (.int p1), .val (.int p2), .val (.int (8 : Int32)), .val (.ref (A 4)), .val (.int (p2 &&& (3 : Int32))), .val (.int fl), .val (.int (1 : Int32))] [(.int (1 : Int32)), (.int (1 : Int32))])) (fun _ k => XS.iload X49.here hx rfl (hb hby at_113) rfl k) ?_
        refine own_go (B := T49.setTop (mkF m 118 #[.val (.int p0), .val (.int p1), .val (.int p2), .val (.int (8 : Int32)), .val (.ref (A 4)), .val (.int (p2 &&& (3 : Int32))), .val (.int fl), .val (.int (1 : Int32))] [])) (fun _ k => XS.icmpNo X49.here hx rfl (hb hby at_115) rfl (by decide) k) ?_
        refine own_go (B := T49.setTop (mkF m 119 #[.val (.int p0), .val (.int p1), .val (.int p2), .val (.int (8 : Int32)), .val (.ref (A 4)), .val (.int (p2 &&& (3 : Int32))), .val (.int fl), .val (.int (1 : Int32))] [(.int (1 : Int32))])) (fun _ k => XT.iconstV X49.here hx rfl (1 : Int32) (hb hby at_118) rfl k) ?_
        refine own_go (B := T49.setTop (mkF m 123 #[.val (.int p0), .val (.int p1), .val (.int p2), .val (.int (8 : Int32)), .val (.ref (A 4)), .val (.int (p2 &&& (3 : Int32))), .val (.int fl), .val (.int (1 : Int32))] [(.int (1 : Int32))])) (fun _ k => XS.goto X49.here hx rfl (pc0 := 119) (pc' := 123) rfl (hb hby at_119) (by decide) (by decide) k) ?_
        exact own_ret X49 hx (t := .boolean) hrt rfl (Or.inl ⟨rfl, by simp, _, rfl⟩) (hb hby at_123) hlk ⟨rfl, N49⟩ (by decide) (by decide)
      · refine own_go (B := T47.setTop (mkF m 103 #[.val (.int p0), .val (.int p1), .val (.int p2), .val (.int (8 : Int32)), .val (.ref (A 4)), .val (.int (p2 &&& (3 : Int32))), .val (.int fl), .unset] [])) (fun _ k => XS.ifYes X47.here hx rfl (pc0 := 96) (pc' := 103) rfl (hb hby at_96) rfl ((if0 _ _).trans (feq hc9648).2) (by decide) (by decide) k) ?_
        refine own_go (B := T47.setTop (mkF m 104 #[.val (.int p0), .val (.int p1), .val (.int p2), .val (.int (8 : Int32)), .val (.ref (A 4)), .val (.int (p2 &&& (3 : Int32))), .val (.int fl), .unset] [(.int (0 : Int32))])) (fun _ k => XT.iconstV X47.here hx rfl (0 : Int32) (hb hby at_103) rfl k) ?_
        refine own_go (B := T47.setTop (mkF m 106 #[.val (.int p0), .val (.int p1), .val (.int p2), .val (.int (8 : Int32)), .val (.ref (A 4)), .val (.int (p2 &&& (3 : Int32))), .val (.int fl), .val (.int (0 : Int32))] [])) (fun _ k => XS.istore X47.here hx rfl (hb hby at_104) rfl (l' := #[.val (.int p0), .val (.int p1), .val (.int p2), .val (.int (8 : Int32)), .val (.ref (A 4)), .val (.int (p2 &&& (3 : Int32))), .val (.int fl), .val (.int (0 : Int32))]) rfl k) ?_
        refine own_go (B := T47.setTop (mkF m 108 #[.val (.int p0), .val (.int p1), .val (.int p2), .val (.int (8 : Int32)), .val (.ref (A 4)), .val (.int (p2 &&& (3 : Int32))), .val (.int fl), .val (.int (0 : Int32))] [(.ref (A 4))])) (fun _ k => XS.aload X47.here hx rfl (hb hby at_106) rfl rfl k) ?_
        refine own_go (B := T47.setTop (mkF m 110 #[.val (.int p0), .val (.int p1), .val (.int p2), .val (.int (8 : Int32)), .val (.ref (A 4)), .val (.int (p2 &&& (3 : Int32))), .val (.int fl), .val (.int (0 : Int32))] [(.int fl), (.ref (A 4))])) (fun _ k => XS.iload X47.here hx rfl (hb hby at_108) rfl k) ?_
        obtain ⟨cq50, kq50, q50a, q50b, q50c⟩ := isOf hZ e47 (E_SUBACK.ext x0)
        obtain ⟨_, _, ⟨T50, L50, k50, n50⟩, -, X50, ⟨Lc50, hQ50, l50, y50, z50⟩, st50⟩ := X47.virtualBack hx (y := (⟨"com/example/ferrybus/ferrybus/codec/PacketType", "allows", "(I)Z"⟩ : MethodName)) (z := (⟨"com/example/ferrybus/ferrybus/codec/PacketType", "allows", "(I)Z"⟩ : MethodName)) hown (mvT hZ (hw _ (List.mem_of_getElem? (i := 8) rfl))) (mvT hZ (hw _ (List.mem_of_getElem? (i := 9) rfl))) (notFace_of_selects (args := #[]) (mvT hZ (hw _ (List.mem_of_getElem? (i := 11) rfl)))) (mvT hZ (hw _ (List.mem_of_getElem? (i := 11) rfl))) (mvT hZ (hw _ (List.mem_of_getElem? (i := 10) rfl))) (by decide) (own_back (W := 0) (rm2_16 l Z a0 hw [] fl A hW h0 x0 (fun q => hc9648 q.symm)) hZ (hw _ (List.mem_of_getElem? (i := 12) rfl)) (hw _ (List.mem_of_getElem? (i := 6) rfl)) (by decide) (by decide)) q50a q50c (g := (mkF m 110 #[.val (.int p0), .val (.int p1), .val (.int p2), .val (.int (8 : Int32)), .val (.ref (A 4)), .val (.int (p2 &&& (3 : Int32))), .val (.int fl), .val (.int (0 : Int32))] [(.int fl), (.ref (A 4))])) rfl (by rw [hml]; rfl) (Steps.refl _) (argsL := [(.int fl)]) (rest := []) (lenOf pd_1 rfl) rfl (by show 2 * 0 + _ ≤ _; exact Nat.le_of_eq rfl) (hb hby at_110) (fun _ _ => ⟨rfl, e47, (by decide : 0 + 0 ≤ _), (by decide : 0 + 0 ≤ _)⟩)
        dsimp only [Pt.U, Pt.locs, Pt.cells, Pt.slots] at X50 l50 y50 z50 st50 hQ50
        subst l50 y50 z50
        obtain ⟨rfl, N50q, e50⟩ := hQ50
        have N50 := Fr.app N47 N50q
        refine own_go (B := T50.setTop (mkF m 113 #[.val (.int p0), .val (.int p1), .val (.int p2), .val (.int (8 : Int32)), .val (.ref (A 4)), .val (.int (p2 &&& (3 : Int32))), .val (.int fl), .val (.int (0 : Int32))] [(.int (0 : Int32))])) (fun _ k => st50.trans k) ?_
        refine own_go (B := T50.setTop (mkF m 115 #[.val (.int p0), .val (.int p1), .val (.int p2), .val (.int (8 : Int32)), .val (.ref (A 4)), .val (.int (p2 &&& (3 : Int32))), .val (.int fl), .val (.int (0 : Int32))] [(.int (0 : Int32)), (.int (0 : Int32))])) (fun _ k => XS.iload X50.here hx rfl (hb hby at_113) rfl k) ?_
        refine own_go (B := T50.setTop (mkF m 118 #[.val (.int p0), .val (.int p1), .val (.int p2), .val (.int (8 : Int32)), .val (.ref (A 4)), .val (.int (p2 &&& (3 : Int32))), .val (.int fl), .val (.int (0 : Int32))] [])) (fun _ k => XS.icmpNo X50.here hx rfl (hb hby at_115) rfl (by decide) k) ?_
        refine own_go (B := T50.setTop (mkF m 119 #[.val (.int p0), .val (.int p1), .val (.int p2), .val (.int (8 : Int32)), .val (.ref (A 4)), .val (.int (p2 &&& (3 : Int32))), .val (.int fl), .val (.int (0 : Int32))] [(.int (1 : Int32))])) (fun _ k => XT.iconstV X50.here hx rfl (1 : Int32) (hb hby at_118) rfl k) ?_
        refine own_go (B := T50.setTop (mkF m 123 #[.val (.int p0), .val (.int p1), .val (.int p2), .val (.int (8 : Int32)), .val (.ref (A 4)), .val (.int (p2 &&& (3 : Int32))), .val (.int fl), .val (.int (0 : Int32))] [(.int (1 : Int32))])) (fun _ k => XS.goto X50.here hx rfl (pc0 := 119) (pc' := 123) rfl (hb hby at_119) (by decide) (by decide) k) ?_
        exact own_ret X50 hx (t := .boolean) hrt rfl (Or.inl ⟨rfl, by simp, _, rfl⟩) (hb hby at_123) hlk ⟨rfl, N50⟩ (by decide) (by decide)
    refine own_go (B := T47.setTop (mkF m 21 #[.val (.int p0), .val (.int p1), .val (.int p2), .val (.int (8 : Int32)), .val (.ref (A 4)), .val (.int (p2 &&& (3 : Int32))), .unset, .unset] [(.int (p2 &&& (3 : Int32)))])) (fun _ k => XS.iload X47.here hx rfl (hb hby at_19) rfl k) ?_
    by_cases hc2151 : (p2 &&& (3 : Int32)) = (0 : Int32)
    · refine own_go (B := T47.setTop (mkF m 24 #[.val (.int p0), .val (.int p1), .val (.int p2), .val (.int (8 : Int32)), .val (.ref (A 4)), .val (.int (p2 &&& (3 : Int32))), .unset, .unset] [])) (fun _ k => XS.ifNo X47.here hx rfl (hb hby at_21) rfl ((if0 _ _).trans (teq hc2151).2) k) ?_
      refine own_go (B := T47.setTop (mkF m 25 #[.val (.int p0), .val (.int p1), .val (.int p2), .val (.int (8 : Int32)), .val (.ref (A 4)), .val (.int (p2 &&& (3 : Int32))), .unset, .unset] [(.int p1)])) (fun _ k => XS.iloadN X47.here hx rfl (hb hby at_24) rfl k) ?_
      refine own_go (B := T47.setTop (mkF m 27 #[.val (.int p0), .val (.int p1), .val (.int p2), .val (.int (8 : Int32)), .val (.ref (A 4)), .val (.int (p2 &&& (3 : Int32))), .val (.int p1), .unset] [])) (fun _ k => XS.istore X47.here hx rfl (hb hby at_25) rfl (l' := #[.val (.int p0), .val (.int p1), .val (.int p2), .val (.int (8 : Int32)), .val (.ref (A 4)), .val (.int (p2 &&& (3 : Int32))), .val (.int p1), .unset]) rfl k) ?_
      refine own_go (B := T47.setTop (mkF m 50 #[.val (.int p0), .val (.int p1), .val (.int p2), .val (.int (8 : Int32)), .val (.ref (A 4)), .val (.int (p2 &&& (3 : Int32))), .val (.int p1), .unset] [])) (fun _ k => XS.goto X47.here hx rfl (pc0 := 27) (pc' := 50) rfl (hb hby at_27) (by decide) (by decide) k) ?_
      exact tail _
    · refine own_go (B := T47.setTop (mkF m 30 #[.val (.int p0), .val (.int p1), .val (.int p2), .val (.int (8 : Int32)), .val (.ref (A 4)), .val (.int (p2 &&& (3 : Int32))), .unset, .unset] [])) (fun _ k => XS.ifYes X47.here hx rfl (pc0 := 21) (pc' := 30) rfl (hb hby at_21) rfl ((if0 _ _).trans (feq hc2151).2) (by decide) (by decide) k) ?_
      refine own_go (B := T47.setTop (mkF m 32 #[.val (.int p0), .val (.int p1), .val (.int p2), .val (.int (8 : Int32)), .val (.ref (A 4)), .val (.int (p2 &&& (3 : Int32))), .unset, .unset] [(.int (p2 &&& (3 : Int32)))])) (fun _ k => XS.iload X47.here hx rfl (hb hby at_30) rfl k) ?_
      refine own_go (B := T47.setTop (mkF m 33 #[.val (.int p0), .val (.int p1), .val (.int p2), .val (.int (8 : Int32)), .val (.ref (A 4)), .val (.int (p2 &&& (3 : Int32))), .unset, .unset] [(.int (1 : Int32)), (.int (p2 &&& (3 : Int32)))])) (fun _ k => XT.iconstV X47.here hx rfl (1 : Int32) (hb hby at_32) rfl k) ?_
      by_cases hc3352 : (p2 &&& (3 : Int32)) = (1 : Int32)
      · refine own_go (B := T47.setTop (mkF m 36 #[.val (.int p0), .val (.int p1), .val (.int p2), .val (.int (8 : Int32)), .val (.ref (A 4)), .val (.int (p2 &&& (3 : Int32))), .unset, .unset] [])) (fun _ k => XS.icmpNo X47.here hx rfl (hb hby at_33) rfl (teq hc3352).2 k) ?_
        refine own_go (B := T47.setTop (mkF m 37 #[.val (.int p0), .val (.int p1), .val (.int p2), .val (.int (8 : Int32)), .val (.ref (A 4)), .val (.int (p2 &&& (3 : Int32))), .unset, .unset] [(.int p1)])) (fun _ k => XS.iloadN X47.here hx rfl (hb hby at_36) rfl k) ?_
        refine own_go (B := T47.setTop (mkF m 39 #[.val (.int p0), .val (.int p1), .val (.int p2), .val (.int (8 : Int32)), .val (.ref (A 4)), .val (.int (p2 &&& (3 : Int32))), .unset, .unset] [(.int (15 : Int32)), (.int p1)])) (fun _ k => XT.bipushV X47.here hx rfl (15 : Int32) (hb hby at_37) (by decide) k) ?_
        refine own_go (B := T47.setTop (mkF m 40 #[.val (.int p0), .val (.int p1), .val (.int p2), .val (.int (8 : Int32)), .val (.ref (A 4)), .val (.int (p2 &&& (3 : Int32))), .unset, .unset] [(.int (p1 &&& (15 : Int32)))])) (fun _ k => XS.iand X47.here hx rfl (hb hby at_39) rfl k) ?_
        refine own_go (B := T47.setTop (mkF m 42 #[.val (.int p0), .val (.int p1), .val (.int p2), .val (.int (8 : Int32)), .val (.ref (A 4)), .val (.int (p2 &&& (3 : Int32))), .val (.int (p1 &&& (15 : Int32))), .unset] [])) (fun _ k => XS.istore X47.here hx rfl (hb hby at_40) rfl (l' := #[.val (.int p0), .val (.int p1), .val (.int p2), .val (.int (8 : Int32)), .val (.ref (A 4)), .val (.int (p2 &&& (3 : Int32))), .val (.int (p1 &&& (15 : Int32))), .unset]) rfl k) ?_
        refine own_go (B := T47.setTop (mkF m 50 #[.val (.int p0), .val (.int p1), .val (.int p2), .val (.int (8 : Int32)), .val (.ref (A 4)), .val (.int (p2 &&& (3 : Int32))), .val (.int (p1 &&& (15 : Int32))), .unset] [])) (fun _ k => XS.goto X47.here hx rfl (pc0 := 42) (pc' := 50) rfl (hb hby at_42) (by decide) (by decide) k) ?_
        exact tail _
      · refine own_go (B := T47.setTop (mkF m 45 #[.val (.int p0), .val (.int p1), .val (.int p2), .val (.int (8 : Int32)), .val (.ref (A 4)), .val (.int (p2 &&& (3 : Int32))), .unset, .unset] [])) (fun _ k => XS.icmpYes X47.here hx rfl (pc0 := 33) (pc' := 45) rfl (hb hby at_33) rfl (feq hc3352).2 (by decide) (by decide) k) ?_
        refine own_go (B := T47.setTop (mkF m 46 #[.val (.int p0), .val (.int p1), .val (.int p2), .val (.int (8 : Int32)), .val (.ref (A 4)), .val (.int (p2 &&& (3 : Int32))), .unset, .unset] [(.int p1)])) (fun _ k => XS.iloadN X47.here hx rfl (hb hby at_45) rfl k) ?_
        refine own_go (B := T47.setTop (mkF m 47 #[.val (.int p0), .val (.int p1), .val (.int p2), .val (.int (8 : Int32)), .val (.ref (A 4)), .val (.int (p2 &&& (3 : Int32))), .unset, .unset] [(.int (3 : Int32)), (.int p1)])) (fun _ k => XT.iconstV X47.here hx rfl (3 : Int32) (hb hby at_46) rfl k) ?_
        refine own_go (B := T47.setTop (mkF m 48 #[.val (.int p0), .val (.int p1), .val (.int p2), .val (.int (8 : Int32)), .val (.ref (A 4)), .val (.int (p2 &&& (3 : Int32))), .unset, .unset] [(.int (p1 &&& (3 : Int32)))])) (fun _ k => XS.iand X47.here hx rfl (hb hby at_47) rfl k) ?_
        refine own_go (B := T47.setTop (mkF m 50 #[.val (.int p0), .val (.int p1), .val (.int p2), .val (.int (8 : Int32)), .val (.ref (A 4)), .val (.int (p2 &&& (3 : Int32))), .val (.int (p1 &&& (3 : Int32))), .unset] [])) (fun _ k => XS.istore X47.here hx rfl (hb hby at_48) rfl (l' := #[.val (.int p0), .val (.int p1), .val (.int p2), .val (.int (8 : Int32)), .val (.ref (A 4)), .val (.int (p2 &&& (3 : Int32))), .val (.int (p1 &&& (3 : Int32))), .unset]) rfl k) ?_
        exact tail _
  · refine own_go (B := s₁.setTop (mkF m 9 #[.val (.int p0), .val (.int p1), .val (.int p2), .val (.int (9 : Int32)), .unset, .unset, .unset, .unset] [(.int (9 : Int32))])) (fun _ k => XS.iloadN X0.here hx rfl (hb hby at_8) rfl k) ?_
    obtain ⟨_, _, ⟨T53, L53, k53, n53⟩, -, X53, ⟨Lc53, hQ53, l53, y53, z53⟩, st53⟩ := Jvm.LawKit.callS X0 hx (y := (⟨"com/example/ferrybus/ferrybus/codec/PacketTypeAllowsPinLaw", "pick", "(I)Lcom/example/ferrybus/ferrybus/codec/PacketType;"⟩ : MethodName)) hown (mvT hZ (hw _ (List.mem_of_getElem? (i := 1) rfl))) (mvT hZ (hw _ (List.mem_of_getElem? (i := 2) rfl))) (mvT hZ (hw _ (List.mem_of_getElem? (i := 3) rfl))) (mvT hZ (hw _ (List.mem_of_getElem? (i := 4) rfl))) (by decide) (own_back (W := 0) (rm1_9 l Z a0 hw []  A hW h0 x0 ) hZ (hw _ (List.mem_of_getElem? (i := 4) rfl)) (hw _ (List.mem_of_getElem? (i := 3) rfl)) (by decide) (by decide)) (g := (mkF m 9 #[.val (.int p0), .val (.int p1), .val (.int p2), .val (.int (9 : Int32)), .unset, .unset, .unset, .unset] [(.int (9 : Int32))])) rfl (by rw [hml]; rfl) (argsL := [(.int (9 : Int32))]) (rest := []) (lenOf pd_0 rfl) rfl (by show 2 * 0 + _ ≤ _; exact Nat.le_of_eq rfl) (hb hby at_9) (fun _ _ => ⟨rfl, e0, (by decide : 0 + 0 ≤ _), (by decide : 0 + 0 ≤ _)⟩)
    dsimp only [Pt.U, Pt.locs, Pt.cells, Pt.slots] at X53 l53 y53 z53 st53 hQ53
    subst l53 y53 z53
    obtain ⟨rfl, N53q, e53⟩ := hQ53
    have N53 := Fr.app N0 N53q
    refine own_go (B := T53.setTop (mkF m 12 #[.val (.int p0), .val (.int p1), .val (.int p2), .val (.int (9 : Int32)), .unset, .unset, .unset, .unset] [(.ref (A 5))])) st53 ?_
    refine own_go (B := T53.setTop (mkF m 14 #[.val (.int p0), .val (.int p1), .val (.int p2), .val (.int (9 : Int32)), .val (.ref (A 5)), .unset, .unset, .unset] [])) (fun _ k => XS.astore X53.here hx rfl (hb hby at_12) rfl rfl (l' := #[.val (.int p0), .val (.int p1), .val (.int p2), .val (.int (9 : Int32)), .val (.ref (A 5)), .unset, .unset, .unset]) rfl k) ?_
    refine own_go (B := T53.setTop (mkF m 15 #[.val (.int p0), .val (.int p1), .val (.int p2), .val (.int (9 : Int32)), .val (.ref (A 5)), .unset, .unset, .unset] [(.int p2)])) (fun _ k => XS.iloadN X53.here hx rfl (hb hby at_14) rfl k) ?_
    refine own_go (B := T53.setTop (mkF m 16 #[.val (.int p0), .val (.int p1), .val (.int p2), .val (.int (9 : Int32)), .val (.ref (A 5)), .unset, .unset, .unset] [(.int (3 : Int32)), (.int p2)])) (fun _ k => XT.iconstV X53.here hx rfl (3 : Int32) (hb hby at_15) rfl k) ?_
    refine own_go (B := T53.setTop (mkF m 17 #[.val (.int p0), .val (.int p1), .val (.int p2), .val (.int (9 : Int32)), .val (.ref (A 5)), .unset, .unset, .unset] [(.int (p2 &&& (3 : Int32)))])) (fun _ k => XS.iand X53.here hx rfl (hb hby at_16) rfl k) ?_
    refine own_go (B := T53.setTop (mkF m 19 #[.val (.int p0), .val (.int p1), .val (.int p2), .val (.int (9 : Int32)), .val (.ref (A 5)), .val (.int (p2 &&& (3 : Int32))), .unset, .unset] [])) (fun _ k => XS.istore X53.here hx rfl (hb hby at_17) rfl (l' := #[.val (.int p0), .val (.int p1), .val (.int p2), .val (.int (9 : Int32)), .val (.ref (A 5)), .val (.int (p2 &&& (3 : Int32))), .unset, .unset]) rfl k) ?_
    have tail : ∀ fl : Int32, own_G p.tables e below s (fun v_ h_ L_ => v_ = some (.int (1 : Int32)) ∧ Fr Z.heap.size L_) room_1.cells room_1.slots (T53.setTop (mkF m 50 #[.val (.int p0), .val (.int p1), .val (.int p2), .val (.int (9 : Int32)), .val (.ref (A 5)), .val (.int (p2 &&& (3 : Int32))), .val (.int fl), .unset] [])) := by
      intro fl
      refine own_go (B := T53.setTop (mkF m 51 #[.val (.int p0), .val (.int p1), .val (.int p2), .val (.int (9 : Int32)), .val (.ref (A 5)), .val (.int (p2 &&& (3 : Int32))), .val (.int fl), .unset] [(.int (9 : Int32))])) (fun _ k => XS.iloadN X53.here hx rfl (hb hby at_50) rfl k) ?_
      refine own_go (B := T53.setTop (mkF m 52 #[.val (.int p0), .val (.int p1), .val (.int p2), .val (.int (9 : Int32)), .val (.ref (A 5)), .val (.int (p2 &&& (3 : Int32))), .val (.int fl), .unset] [(.int (2 : Int32)), (.int (9 : Int32))])) (fun _ k => XT.iconstV X53.here hx rfl (2 : Int32) (hb hby at_51) rfl k) ?_
      refine own_go (B := T53.setTop (mkF m 61 #[.val (.int p0), .val (.int p1), .val (.int p2), .val (.int (9 : Int32)), .val (.ref (A 5)), .val (.int (p2 &&& (3 : Int32))), .val (.int fl), .unset] [])) (fun _ k => XS.icmpYes X53.here hx rfl (pc0 := 52) (pc' := 61) rfl (hb hby at_52) rfl (by decide) (by decide) (by decide) k) ?_
      refine own_go (B := T53.setTop (mkF m 62 #[.val (.int p0), .val (.int p1), .val (.int p2), .val (.int (9 : Int32)), .val (.ref (A 5)), .val (.int (p2 &&& (3 : Int32))), .val (.int fl), .unset] [(.int (9 : Int32))])) (fun _ k => XS.iloadN X53.here hx rfl (hb hby at_61) rfl k) ?_
      refine own_go (B := T53.setTop (mkF m 63 #[.val (.int p0), .val (.int p1), .val (.int p2), .val (.int (9 : Int32)), .val (.ref (A 5)), .val (.int (p2 &&& (3 : Int32))), .val (.int fl), .unset] [(.int (5 : Int32)), (.int (9 : Int32))])) (fun _ k => XT.iconstV X53.here hx rfl (5 : Int32) (hb hby at_62) rfl k) ?_
      refine own_go (B := T53.setTop (mkF m 66 #[.val (.int p0), .val (.int p1), .val (.int p2), .val (.int (9 : Int32)), .val (.ref (A 5)), .val (.int (p2 &&& (3 : Int32))), .val (.int fl), .unset] [])) (fun _ k => XS.icmpNo X53.here hx rfl (hb hby at_63) rfl (by decide) k) ?_
      refine own_go (B := T53.setTop (mkF m 67 #[.val (.int p0), .val (.int p1), .val (.int p2), .val (.int (9 : Int32)), .val (.ref (A 5)), .val (.int (p2 &&& (3 : Int32))), .val (.int fl), .unset] [(.int (9 : Int32))])) (fun _ k => XS.iloadN X53.here hx rfl (hb hby at_66) rfl k) ?_
      refine own_go (B := T53.setTop (mkF m 69 #[.val (.int p0), .val (.int p1), .val (.int p2), .val (.int (9 : Int32)), .val (.ref (A 5)), .val (.int (p2 &&& (3 : Int32))), .val (.int fl), .unset] [(.int (7 : Int32)), (.int (9 : Int32))])) (fun _ k => XT.bipushV X53.here hx rfl (7 : Int32) (hb hby at_67) (by decide) k) ?_
      refine own_go (B := T53.setTop (mkF m 72 #[.val (.int p0), .val (.int p1), .val (.int p2), .val (.int (9 : Int32)), .val (.ref (A 5)), .val (.int (p2 &&& (3 : Int32))), .val (.int fl), .unset] [])) (fun _ k => XS.icmpNo X53.here hx rfl (hb hby at_69) rfl (by decide) k) ?_
      refine own_go (B := T53.setTop (mkF m 73 #[.val (.int p0), .val (.int p1), .val (.int p2), .val (.int (9 : Int32)), .val (.ref (A 5)), .val (.int (p2 &&& (3 : Int32))), .val (.int fl), .unset] [(.int (9 : Int32))])) (fun _ k => XS.iloadN X53.here hx rfl (hb hby at_72) rfl k) ?_
      refine own_go (B := T53.setTop (mkF m 75 #[.val (.int p0), .val (.int p1), .val (.int p2), .val (.int (9 : Int32)), .val (.ref (A 5)), .val (.int (p2 &&& (3 : Int32))), .val (.int fl), .unset] [(.int (9 : Int32)), (.int (9 : Int32))])) (fun _ k => XT.bipushV X53.here hx rfl (9 : Int32) (hb hby at_73) (by decide) k) ?_
      refine own_go (B := T53.setTop (mkF m 78 #[.val (.int p0), .val (.int p1), .val (.int p2), .val (.int (9 : Int32)), .val (.ref (A 5)), .val (.int (p2 &&& (3 : Int32))), .val (.int fl), .unset] [])) (fun _ k => XS.icmpNo X53.here hx rfl (hb hby at_75) rfl (by decide) k) ?_
      refine own_go (B := T53.setTop (mkF m 80 #[.val (.int p0), .val (.int p1), .val (.int p2), .val (.int (9 : Int32)), .val (.ref (A 5)), .val (.int (p2 &&& (3 : Int32))), .val (.int fl), .unset] [(.int fl)])) (fun _ k => XS.iload X53.here hx rfl (hb hby at_78) rfl k) ?_
      refine own_go (B := T53.setTop (mkF m 81 #[.val (.int p0), .val (.int p1), .val (.int p2), .val (.int (9 : Int32)), .val (.ref (A 5)), .val (.int (p2 &&& (3 : Int32))), .val (.int fl), .unset] [(.int (2 : Int32)), (.int fl)])) (fun _ k => XT.iconstV X53.here hx rfl (2 : Int32) (hb hby at_80) rfl k) ?_
      by_cases hc8154 : fl = (2 : Int32)
      · refine own_go (B := T53.setTop (mkF m 84 #[.val (.int p0), .val (.int p1), .val (.int p2), .val (.int (9 : Int32)), .val (.ref (A 5)), .val (.int (p2 &&& (3 : Int32))), .val (.int fl), .unset] [])) (fun _ k => XS.icmpNo X53.here hx rfl (hb hby at_81) rfl (teq hc8154).2 k) ?_
        refine own_go (B := T53.setTop (mkF m 85 #[.val (.int p0), .val (.int p1), .val (.int p2), .val (.int (9 : Int32)), .val (.ref (A 5)), .val (.int (p2 &&& (3 : Int32))), .val (.int fl), .unset] [(.int (1 : Int32))])) (fun _ k => XT.iconstV X53.here hx rfl (1 : Int32) (hb hby at_84) rfl k) ?_
        refine own_go (B := T53.setTop (mkF m 89 #[.val (.int p0), .val (.int p1), .val (.int p2), .val (.int (9 : Int32)), .val (.ref (A 5)), .val (.int (p2 &&& (3 : Int32))), .val (.int fl), .unset] [(.int (1 : Int32))])) (fun _ k => XS.goto X53.here hx rfl (pc0 := 85) (pc' := 89) rfl (hb hby at_85) (by decide) (by decide) k) ?_
        refine own_go (B := T53.setTop (mkF m 91 #[.val (.int p0), .val (.int p1), .val (.int p2), .val (.int (9 : Int32)), .val (.ref (A 5)), .val (.int (p2 &&& (3 : Int32))), .val (.int fl), .val (.int (1 : Int32))] [])) (fun _ k => XS.istore X53.here hx rfl (hb hby at_89) rfl (l' := #[.val (.int p0), .val (.int p1), .val (.int p2), .val (.int (9 : Int32)), .val (.ref (A 5)), .val (.int (p2 &&& (3 : Int32))), .val (.int fl), .val (.int (1 : Int32))]) rfl k) ?_
        refine own_go (B := T53.setTop (mkF m 106 #[.val (.int p0), .val (.int p1), .val (.int p2), .val (.int (9 : Int32)), .val (.ref (A 5)), .val (.int (p2 &&& (3 : Int32))), .val (.int fl), .val (.int (1 : Int32))] [])) (fun _ k => XS.goto X53.here hx rfl (pc0 := 91) (pc' := 106) rfl (hb hby at_91) (by decide) (by decide) k) ?_
        refine own_go (B := T53.setTop (mkF m 108 #[.val (.int p0), .val (.int p1), .val (.int p2), .val (.int (9 : Int32)), .val (.ref (A 5)), .val (.int (p2 &&& (3 : Int32))), .val (.int fl), .val (.int (1 : Int32))] [(.ref (A 5))])) (fun _ k => XS.aload X53.here hx rfl (hb hby at_106) rfl rfl k) ?_
        refine own_go (B := T53.setTop (mkF m 110 #[.val (.int p0), .val (.int p1), .val (.int p2), .val (.int (9 : Int32)), .val (.ref (A 5)), .val (.int (p2 &&& (3 : Int32))), .val (.int fl), .val (.int (1 : Int32))] [(.int fl), (.ref (A 5))])) (fun _ k => XS.iload X53.here hx rfl (hb hby at_108) rfl k) ?_
        obtain ⟨cq55, kq55, q55a, q55b, q55c⟩ := isOf hZ e53 (E_UNSUBSCRIBE.ext x0)
        obtain ⟨_, _, ⟨T55, L55, k55, n55⟩, -, X55, ⟨Lc55, hQ55, l55, y55, z55⟩, st55⟩ := X53.virtualBack hx (y := (⟨"com/example/ferrybus/ferrybus/codec/PacketType", "allows", "(I)Z"⟩ : MethodName)) (z := (⟨"com/example/ferrybus/ferrybus/codec/PacketType", "allows", "(I)Z"⟩ : MethodName)) hown (mvT hZ (hw _ (List.mem_of_getElem? (i := 8) rfl))) (mvT hZ (hw _ (List.mem_of_getElem? (i := 9) rfl))) (notFace_of_selects (args := #[]) (mvT hZ (hw _ (List.mem_of_getElem? (i := 11) rfl)))) (mvT hZ (hw _ (List.mem_of_getElem? (i := 11) rfl))) (mvT hZ (hw _ (List.mem_of_getElem? (i := 10) rfl))) (by decide) (own_back (W := 0) (rm2_17 l Z a0 hw [] fl A hW h0 x0 hc8154.symm) hZ (hw _ (List.mem_of_getElem? (i := 12) rfl)) (hw _ (List.mem_of_getElem? (i := 6) rfl)) (by decide) (by decide)) q55a q55c (g := (mkF m 110 #[.val (.int p0), .val (.int p1), .val (.int p2), .val (.int (9 : Int32)), .val (.ref (A 5)), .val (.int (p2 &&& (3 : Int32))), .val (.int fl), .val (.int (1 : Int32))] [(.int fl), (.ref (A 5))])) rfl (by rw [hml]; rfl) (Steps.refl _) (argsL := [(.int fl)]) (rest := []) (lenOf pd_1 rfl) rfl (by show 2 * 0 + _ ≤ _; exact Nat.le_of_eq rfl) (hb hby at_110) (fun _ _ => ⟨rfl, e53, (by decide : 0 + 0 ≤ _), (by decide : 0 + 0 ≤ _)⟩)
        dsimp only [Pt.U, Pt.locs, Pt.cells, Pt.slots] at X55 l55 y55 z55 st55 hQ55
        subst l55 y55 z55
        obtain ⟨rfl, N55q, e55⟩ := hQ55
        have N55 := Fr.app N53 N55q
        refine own_go (B := T55.setTop (mkF m 113 #[.val (.int p0), .val (.int p1), .val (.int p2), .val (.int (9 : Int32)), .val (.ref (A 5)), .val (.int (p2 &&& (3 : Int32))), .val (.int fl), .val (.int (1 : Int32))] [(.int (1 : Int32))])) (fun _ k => st55.trans k) ?_
        refine own_go (B := T55.setTop (mkF m 115 #[.val (.int p0), .val (.int p1), .val (.int p2), .val (.int (9 : Int32)), .val (.ref (A 5)), .val (.int (p2 &&& (3 : Int32))), .val (.int fl), .val (.int (1 : Int32))] [(.int (1 : Int32)), (.int (1 : Int32))])) (fun _ k => XS.iload X55.here hx rfl (hb hby at_113) rfl k) ?_
        refine own_go (B := T55.setTop (mkF m 118 #[.val (.int p0), .val (.int p1), .val (.int p2), .val (.int (9 : Int32)), .val (.ref (A 5)), .val (.int (p2 &&& (3 : Int32))), .val (.int fl), .val (.int (1 : Int32))] [])) (fun _ k => XS.icmpNo X55.here hx rfl (hb hby at_115) rfl (by decide) k) ?_
        refine own_go (B := T55.setTop (mkF m 119 #[.val (.int p0), .val (.int p1), .val (.int p2), .val (.int (9 : Int32)), .val (.ref (A 5)), .val (.int (p2 &&& (3 : Int32))), .val (.int fl), .val (.int (1 : Int32))] [(.int (1 : Int32))])) (fun _ k => XT.iconstV X55.here hx rfl (1 : Int32) (hb hby at_118) rfl k) ?_
        refine own_go (B := T55.setTop (mkF m 123 #[.val (.int p0), .val (.int p1), .val (.int p2), .val (.int (9 : Int32)), .val (.ref (A 5)), .val (.int (p2 &&& (3 : Int32))), .val (.int fl), .val (.int (1 : Int32))] [(.int (1 : Int32))])) (fun _ k => XS.goto X55.here hx rfl (pc0 := 119) (pc' := 123) rfl (hb hby at_119) (by decide) (by decide) k) ?_
        exact own_ret X55 hx (t := .boolean) hrt rfl (Or.inl ⟨rfl, by simp, _, rfl⟩) (hb hby at_123) hlk ⟨rfl, N55⟩ (by decide) (by decide)
      · refine own_go (B := T53.setTop (mkF m 88 #[.val (.int p0), .val (.int p1), .val (.int p2), .val (.int (9 : Int32)), .val (.ref (A 5)), .val (.int (p2 &&& (3 : Int32))), .val (.int fl), .unset] [])) (fun _ k => XS.icmpYes X53.here hx rfl (pc0 := 81) (pc' := 88) rfl (hb hby at_81) rfl (feq hc8154).2 (by decide) (by decide) k) ?_
        refine own_go (B := T53.setTop (mkF m 89 #[.val (.int p0), .val (.int p1), .val (.int p2), .val (.int (9 : Int32)), .val (.ref (A 5)), .val (.int (p2 &&& (3 : Int32))), .val (.int fl), .unset] [(.int (0 : Int32))])) (fun _ k => XT.iconstV X53.here hx rfl (0 : Int32) (hb hby at_88) rfl k) ?_
        refine own_go (B := T53.setTop (mkF m 91 #[.val (.int p0), .val (.int p1), .val (.int p2), .val (.int (9 : Int32)), .val (.ref (A 5)), .val (.int (p2 &&& (3 : Int32))), .val (.int fl), .val (.int (0 : Int32))] [])) (fun _ k => XS.istore X53.here hx rfl (hb hby at_89) rfl (l' := #[.val (.int p0), .val (.int p1), .val (.int p2), .val (.int (9 : Int32)), .val (.ref (A 5)), .val (.int (p2 &&& (3 : Int32))), .val (.int fl), .val (.int (0 : Int32))]) rfl k) ?_
        refine own_go (B := T53.setTop (mkF m 106 #[.val (.int p0), .val (.int p1), .val (.int p2), .val (.int (9 : Int32)), .val (.ref (A 5)), .val (.int (p2 &&& (3 : Int32))), .val (.int fl), .val (.int (0 : Int32))] [])) (fun _ k => XS.goto X53.here hx rfl (pc0 := 91) (pc' := 106) rfl (hb hby at_91) (by decide) (by decide) k) ?_
        refine own_go (B := T53.setTop (mkF m 108 #[.val (.int p0), .val (.int p1), .val (.int p2), .val (.int (9 : Int32)), .val (.ref (A 5)), .val (.int (p2 &&& (3 : Int32))), .val (.int fl), .val (.int (0 : Int32))] [(.ref (A 5))])) (fun _ k => XS.aload X53.here hx rfl (hb hby at_106) rfl rfl k) ?_
        refine own_go (B := T53.setTop (mkF m 110 #[.val (.int p0), .val (.int p1), .val (.int p2), .val (.int (9 : Int32)), .val (.ref (A 5)), .val (.int (p2 &&& (3 : Int32))), .val (.int fl), .val (.int (0 : Int32))] [(.int fl), (.ref (A 5))])) (fun _ k => XS.iload X53.here hx rfl (hb hby at_108) rfl k) ?_
        obtain ⟨cq56, kq56, q56a, q56b, q56c⟩ := isOf hZ e53 (E_UNSUBSCRIBE.ext x0)
        obtain ⟨_, _, ⟨T56, L56, k56, n56⟩, -, X56, ⟨Lc56, hQ56, l56, y56, z56⟩, st56⟩ := X53.virtualBack hx (y := (⟨"com/example/ferrybus/ferrybus/codec/PacketType", "allows", "(I)Z"⟩ : MethodName)) (z := (⟨"com/example/ferrybus/ferrybus/codec/PacketType", "allows", "(I)Z"⟩ : MethodName)) hown (mvT hZ (hw _ (List.mem_of_getElem? (i := 8) rfl))) (mvT hZ (hw _ (List.mem_of_getElem? (i := 9) rfl))) (notFace_of_selects (args := #[]) (mvT hZ (hw _ (List.mem_of_getElem? (i := 11) rfl)))) (mvT hZ (hw _ (List.mem_of_getElem? (i := 11) rfl))) (mvT hZ (hw _ (List.mem_of_getElem? (i := 10) rfl))) (by decide) (own_back (W := 0) (rm2_18 l Z a0 hw [] fl A hW h0 x0 (fun q => hc8154 q.symm)) hZ (hw _ (List.mem_of_getElem? (i := 12) rfl)) (hw _ (List.mem_of_getElem? (i := 6) rfl)) (by decide) (by decide)) q56a q56c (g := (mkF m 110 #[.val (.int p0), .val (.int p1), .val (.int p2), .val (.int (9 : Int32)), .val (.ref (A 5)), .val (.int (p2 &&& (3 : Int32))), .val (.int fl), .val (.int (0 : Int32))] [(.int fl), (.ref (A 5))])) rfl (by rw [hml]; rfl) (Steps.refl _) (argsL := [(.int fl)]) (rest := []) (lenOf pd_1 rfl) rfl (by show 2 * 0 + _ ≤ _; exact Nat.le_of_eq rfl) (hb hby at_110) (fun _ _ => ⟨rfl, e53, (by decide : 0 + 0 ≤ _), (by decide : 0 + 0 ≤ _)⟩)
        dsimp only [Pt.U, Pt.locs, Pt.cells, Pt.slots] at X56 l56 y56 z56 st56 hQ56
        subst l56 y56 z56
        obtain ⟨rfl, N56q, e56⟩ := hQ56
        have N56 := Fr.app N53 N56q
        refine own_go (B := T56.setTop (mkF m 113 #[.val (.int p0), .val (.int p1), .val (.int p2), .val (.int (9 : Int32)), .val (.ref (A 5)), .val (.int (p2 &&& (3 : Int32))), .val (.int fl), .val (.int (0 : Int32))] [(.int (0 : Int32))])) (fun _ k => st56.trans k) ?_
        refine own_go (B := T56.setTop (mkF m 115 #[.val (.int p0), .val (.int p1), .val (.int p2), .val (.int (9 : Int32)), .val (.ref (A 5)), .val (.int (p2 &&& (3 : Int32))), .val (.int fl), .val (.int (0 : Int32))] [(.int (0 : Int32)), (.int (0 : Int32))])) (fun _ k => XS.iload X56.here hx rfl (hb hby at_113) rfl k) ?_
        refine own_go (B := T56.setTop (mkF m 118 #[.val (.int p0), .val (.int p1), .val (.int p2), .val (.int (9 : Int32)), .val (.ref (A 5)), .val (.int (p2 &&& (3 : Int32))), .val (.int fl), .val (.int (0 : Int32))] [])) (fun _ k => XS.icmpNo X56.here hx rfl (hb hby at_115) rfl (by decide) k) ?_
        refine own_go (B := T56.setTop (mkF m 119 #[.val (.int p0), .val (.int p1), .val (.int p2), .val (.int (9 : Int32)), .val (.ref (A 5)), .val (.int (p2 &&& (3 : Int32))), .val (.int fl), .val (.int (0 : Int32))] [(.int (1 : Int32))])) (fun _ k => XT.iconstV X56.here hx rfl (1 : Int32) (hb hby at_118) rfl k) ?_
        refine own_go (B := T56.setTop (mkF m 123 #[.val (.int p0), .val (.int p1), .val (.int p2), .val (.int (9 : Int32)), .val (.ref (A 5)), .val (.int (p2 &&& (3 : Int32))), .val (.int fl), .val (.int (0 : Int32))] [(.int (1 : Int32))])) (fun _ k => XS.goto X56.here hx rfl (pc0 := 119) (pc' := 123) rfl (hb hby at_119) (by decide) (by decide) k) ?_
        exact own_ret X56 hx (t := .boolean) hrt rfl (Or.inl ⟨rfl, by simp, _, rfl⟩) (hb hby at_123) hlk ⟨rfl, N56⟩ (by decide) (by decide)
    refine own_go (B := T53.setTop (mkF m 21 #[.val (.int p0), .val (.int p1), .val (.int p2), .val (.int (9 : Int32)), .val (.ref (A 5)), .val (.int (p2 &&& (3 : Int32))), .unset, .unset] [(.int (p2 &&& (3 : Int32)))])) (fun _ k => XS.iload X53.here hx rfl (hb hby at_19) rfl k) ?_
    by_cases hc2157 : (p2 &&& (3 : Int32)) = (0 : Int32)
    · refine own_go (B := T53.setTop (mkF m 24 #[.val (.int p0), .val (.int p1), .val (.int p2), .val (.int (9 : Int32)), .val (.ref (A 5)), .val (.int (p2 &&& (3 : Int32))), .unset, .unset] [])) (fun _ k => XS.ifNo X53.here hx rfl (hb hby at_21) rfl ((if0 _ _).trans (teq hc2157).2) k) ?_
      refine own_go (B := T53.setTop (mkF m 25 #[.val (.int p0), .val (.int p1), .val (.int p2), .val (.int (9 : Int32)), .val (.ref (A 5)), .val (.int (p2 &&& (3 : Int32))), .unset, .unset] [(.int p1)])) (fun _ k => XS.iloadN X53.here hx rfl (hb hby at_24) rfl k) ?_
      refine own_go (B := T53.setTop (mkF m 27 #[.val (.int p0), .val (.int p1), .val (.int p2), .val (.int (9 : Int32)), .val (.ref (A 5)), .val (.int (p2 &&& (3 : Int32))), .val (.int p1), .unset] [])) (fun _ k => XS.istore X53.here hx rfl (hb hby at_25) rfl (l' := #[.val (.int p0), .val (.int p1), .val (.int p2), .val (.int (9 : Int32)), .val (.ref (A 5)), .val (.int (p2 &&& (3 : Int32))), .val (.int p1), .unset]) rfl k) ?_
      refine own_go (B := T53.setTop (mkF m 50 #[.val (.int p0), .val (.int p1), .val (.int p2), .val (.int (9 : Int32)), .val (.ref (A 5)), .val (.int (p2 &&& (3 : Int32))), .val (.int p1), .unset] [])) (fun _ k => XS.goto X53.here hx rfl (pc0 := 27) (pc' := 50) rfl (hb hby at_27) (by decide) (by decide) k) ?_
      exact tail _
    · refine own_go (B := T53.setTop (mkF m 30 #[.val (.int p0), .val (.int p1), .val (.int p2), .val (.int (9 : Int32)), .val (.ref (A 5)), .val (.int (p2 &&& (3 : Int32))), .unset, .unset] [])) (fun _ k => XS.ifYes X53.here hx rfl (pc0 := 21) (pc' := 30) rfl (hb hby at_21) rfl ((if0 _ _).trans (feq hc2157).2) (by decide) (by decide) k) ?_
      refine own_go (B := T53.setTop (mkF m 32 #[.val (.int p0), .val (.int p1), .val (.int p2), .val (.int (9 : Int32)), .val (.ref (A 5)), .val (.int (p2 &&& (3 : Int32))), .unset, .unset] [(.int (p2 &&& (3 : Int32)))])) (fun _ k => XS.iload X53.here hx rfl (hb hby at_30) rfl k) ?_
      refine own_go (B := T53.setTop (mkF m 33 #[.val (.int p0), .val (.int p1), .val (.int p2), .val (.int (9 : Int32)), .val (.ref (A 5)), .val (.int (p2 &&& (3 : Int32))), .unset, .unset] [(.int (1 : Int32)), (.int (p2 &&& (3 : Int32)))])) (fun _ k => XT.iconstV X53.here hx rfl (1 : Int32) (hb hby at_32) rfl k) ?_
      by_cases hc3358 : (p2 &&& (3 : Int32)) = (1 : Int32)
      · refine own_go (B := T53.setTop (mkF m 36 #[.val (.int p0), .val (.int p1), .val (.int p2), .val (.int (9 : Int32)), .val (.ref (A 5)), .val (.int (p2 &&& (3 : Int32))), .unset, .unset] [])) (fun _ k => XS.icmpNo X53.here hx rfl (hb hby at_33) rfl (teq hc3358).2 k) ?_
        refine own_go (B := T53.setTop (mkF m 37 #[.val (.int p0), .val (.int p1), .val (.int p2), .val (.int (9 : Int32)), .val (.ref (A 5)), .val (.int (p2 &&& (3 : Int32))), .unset, .unset] [(.int p1)])) (fun _ k => XS.iloadN X53.here hx rfl (hb hby at_36) rfl k) ?_
        refine own_go (B := T53.setTop (mkF m 39 #[.val (.int p0), .val (.int p1), .val (.int p2), .val (.int (9 : Int32)), .val (.ref (A 5)), .val (.int (p2 &&& (3 : Int32))), .unset, .unset] [(.int (15 : Int32)), (.int p1)])) (fun _ k => XT.bipushV X53.here hx rfl (15 : Int32) (hb hby at_37) (by decide) k) ?_
        refine own_go (B := T53.setTop (mkF m 40 #[.val (.int p0), .val (.int p1), .val (.int p2), .val (.int (9 : Int32)), .val (.ref (A 5)), .val (.int (p2 &&& (3 : Int32))), .unset, .unset] [(.int (p1 &&& (15 : Int32)))])) (fun _ k => XS.iand X53.here hx rfl (hb hby at_39) rfl k) ?_
        refine own_go (B := T53.setTop (mkF m 42 #[.val (.int p0), .val (.int p1), .val (.int p2), .val (.int (9 : Int32)), .val (.ref (A 5)), .val (.int (p2 &&& (3 : Int32))), .val (.int (p1 &&& (15 : Int32))), .unset] [])) (fun _ k => XS.istore X53.here hx rfl (hb hby at_40) rfl (l' := #[.val (.int p0), .val (.int p1), .val (.int p2), .val (.int (9 : Int32)), .val (.ref (A 5)), .val (.int (p2 &&& (3 : Int32))), .val (.int (p1 &&& (15 : Int32))), .unset]) rfl k) ?_
        refine own_go (B := T53.setTop (mkF m 50 #[.val (.int p0), .val (.int p1), .val (.int p2), .val (.int (9 : Int32)), .val (.ref (A 5)), .val (.int (p2 &&& (3 : Int32))), .val (.int (p1 &&& (15 : Int32))), .unset] [])) (fun _ k => XS.goto X53.here hx rfl (pc0 := 42) (pc' := 50) rfl (hb hby at_42) (by decide) (by decide) k) ?_
        exact tail _
      · refine own_go (B := T53.setTop (mkF m 45 #[.val (.int p0), .val (.int p1), .val (.int p2), .val (.int (9 : Int32)), .val (.ref (A 5)), .val (.int (p2 &&& (3 : Int32))), .unset, .unset] [])) (fun _ k => XS.icmpYes X53.here hx rfl (pc0 := 33) (pc' := 45) rfl (hb hby at_33) rfl (feq hc3358).2 (by decide) (by decide) k) ?_
        refine own_go (B := T53.setTop (mkF m 46 #[.val (.int p0), .val (.int p1), .val (.int p2), .val (.int (9 : Int32)), .val (.ref (A 5)), .val (.int (p2 &&& (3 : Int32))), .unset, .unset] [(.int p1)])) (fun _ k => XS.iloadN X53.here hx rfl (hb hby at_45) rfl k) ?_
        refine own_go (B := T53.setTop (mkF m 47 #[.val (.int p0), .val (.int p1), .val (.int p2), .val (.int (9 : Int32)), .val (.ref (A 5)), .val (.int (p2 &&& (3 : Int32))), .unset, .unset] [(.int (3 : Int32)), (.int p1)])) (fun _ k => XT.iconstV X53.here hx rfl (3 : Int32) (hb hby at_46) rfl k) ?_
        refine own_go (B := T53.setTop (mkF m 48 #[.val (.int p0), .val (.int p1), .val (.int p2), .val (.int (9 : Int32)), .val (.ref (A 5)), .val (.int (p2 &&& (3 : Int32))), .unset, .unset] [(.int (p1 &&& (3 : Int32)))])) (fun _ k => XS.iand X53.here hx rfl (hb hby at_47) rfl k) ?_
        refine own_go (B := T53.setTop (mkF m 50 #[.val (.int p0), .val (.int p1), .val (.int p2), .val (.int (9 : Int32)), .val (.ref (A 5)), .val (.int (p2 &&& (3 : Int32))), .val (.int (p1 &&& (3 : Int32))), .unset] [])) (fun _ k => XS.istore X53.here hx rfl (hb hby at_48) rfl (l' := #[.val (.int p0), .val (.int p1), .val (.int p2), .val (.int (9 : Int32)), .val (.ref (A 5)), .val (.int (p2 &&& (3 : Int32))), .val (.int (p1 &&& (3 : Int32))), .unset]) rfl k) ?_
        exact tail _
  · refine own_go (B := s₁.setTop (mkF m 9 #[.val (.int p0), .val (.int p1), .val (.int p2), .val (.int (10 : Int32)), .unset, .unset, .unset, .unset] [(.int (10 : Int32))])) (fun _ k => XS.iloadN X0.here hx rfl (hb hby at_8) rfl k) ?_
    obtain ⟨_, _, ⟨T59, L59, k59, n59⟩, -, X59, ⟨Lc59, hQ59, l59, y59, z59⟩, st59⟩ := Jvm.LawKit.callS X0 hx (y := (⟨"com/example/ferrybus/ferrybus/codec/PacketTypeAllowsPinLaw", "pick", "(I)Lcom/example/ferrybus/ferrybus/codec/PacketType;"⟩ : MethodName)) hown (mvT hZ (hw _ (List.mem_of_getElem? (i := 1) rfl))) (mvT hZ (hw _ (List.mem_of_getElem? (i := 2) rfl))) (mvT hZ (hw _ (List.mem_of_getElem? (i := 3) rfl))) (mvT hZ (hw _ (List.mem_of_getElem? (i := 4) rfl))) (by decide) (own_back (W := 0) (rm1_10 l Z a0 hw []  A hW h0 x0 ) hZ (hw _ (List.mem_of_getElem? (i := 4) rfl)) (hw _ (List.mem_of_getElem? (i := 3) rfl)) (by decide) (by decide)) (g := (mkF m 9 #[.val (.int p0), .val (.int p1), .val (.int p2), .val (.int (10 : Int32)), .unset, .unset, .unset, .unset] [(.int (10 : Int32))])) rfl (by rw [hml]; rfl) (argsL := [(.int (10 : Int32))]) (rest := []) (lenOf pd_0 rfl) rfl (by show 2 * 0 + _ ≤ _; exact Nat.le_of_eq rfl) (hb hby at_9) (fun _ _ => ⟨rfl, e0, (by decide : 0 + 0 ≤ _), (by decide : 0 + 0 ≤ _)⟩)
    dsimp only [Pt.U, Pt.locs, Pt.cells, Pt.slots] at X59 l59 y59 z59 st59 hQ59
    subst l59 y59 z59
    obtain ⟨rfl, N59q, e59⟩ := hQ59
    have N59 := Fr.app N0 N59q
    refine own_go (B := T59.setTop (mkF m 12 #[.val (.int p0), .val (.int p1), .val (.int p2), .val (.int (10 : Int32)), .unset, .unset, .unset, .unset] [(.ref (A 6))])) st59 ?_
    refine own_go (B := T59.setTop (mkF m 14 #[.val (.int p0), .val (.int p1), .val (.int p2), .val (.int (10 : Int32)), .val (.ref (A 6)), .unset, .unset, .unset] [])) (fun _ k => XS.astore X59.here hx rfl (hb hby at_12) rfl rfl (l' := #[.val (.int p0), .val (.int p1), .val (.int p2), .val (.int (10 : Int32)), .val (.ref (A 6)), .unset, .unset, .unset]) rfl k) ?_
    refine own_go (B := T59.setTop (mkF m 15 #[.val (.int p0), .val (.int p1), .val (.int p2), .val (.int (10 : Int32)), .val (.ref (A 6)), .unset, .unset, .unset] [(.int p2)])) (fun _ k => XS.iloadN X59.here hx rfl (hb hby at_14) rfl k) ?_
    refine own_go (B := T59.setTop (mkF m 16 #[.val (.int p0), .val (.int p1), .val (.int p2), .val (.int (10 : Int32)), .val (.ref (A 6)), .unset, .unset, .unset] [(.int (3 : Int32)), (.int p2)])) (fun _ k => XT.iconstV X59.here hx rfl (3 : Int32) (hb hby at_15) rfl k) ?_
    refine own_go (B := T59.setTop (mkF m 17 #[.val (.int p0), .val (.int p1), .val (.int p2), .val (.int (10 : Int32)), .val (.ref (A 6)), .unset, .unset, .unset] [(.int (p2 &&& (3 : Int32)))])) (fun _ k => XS.iand X59.here hx rfl (hb hby at_16) rfl k) ?_
    refine own_go (B := T59.setTop (mkF m 19 #[.val (.int p0), .val (.int p1), .val (.int p2), .val (.int (10 : Int32)), .val (.ref (A 6)), .val (.int (p2 &&& (3 : Int32))), .unset, .unset] [])) (fun _ k => XS.istore X59.here hx rfl (hb hby at_17) rfl (l' := #[.val (.int p0), .val (.int p1), .val (.int p2), .val (.int (10 : Int32)), .val (.ref (A 6)), .val (.int (p2 &&& (3 : Int32))), .unset, .unset]) rfl k) ?_
    have tail : ∀ fl : Int32, own_G p.tables e below s (fun v_ h_ L_ => v_ = some (.int (1 : Int32)) ∧ Fr Z.heap.size L_) room_1.cells room_1.slots (T59.setTop (mkF m 50 #[.val (.int p0), .val (.int p1), .val (.int p2), .val (.int (10 : Int32)), .val (.ref (A 6)), .val (.int (p2 &&& (3 : Int32))), .val (.int fl), .unset] [])) := by
      intro fl
      refine own_go (B := T59.setTop (mkF m 51 #[.val (.int p0), .val (.int p1), .val (.int p2), .val (.int (10 : Int32)), .val (.ref (A 6)), .val (.int (p2 &&& (3 : Int32))), .val (.int fl), .unset] [(.int (10 : Int32))])) (fun _ k => XS.iloadN X59.here hx rfl (hb hby at_50) rfl k) ?_
      refine own_go (B := T59.setTop (mkF m 52 #[.val (.int p0), .val (.int p1), .val (.int p2), .val (.int (10 : Int32)), .val (.ref (A 6)), .val (.int (p2 &&& (3 : Int32))), .val (.int fl), .unset] [(.int (2 : Int32)), (.int (10 : Int32))])) (fun _ k => XT.iconstV X59.here hx rfl (2 : Int32) (hb hby at_51) rfl k) ?_
      refine own_go (B := T59.setTop (mkF m 61 #[.val (.int p0), .val (.int p1), .val (.int p2), .val (.int (10 : Int32)), .val (.ref (A 6)), .val (.int (p2 &&& (3 : Int32))), .val (.int fl), .unset] [])) (fun _ k => XS.icmpYes X59.here hx rfl (pc0 := 52) (pc' := 61) rfl (hb hby at_52) rfl (by decide) (by decide) (by decide) k) ?_
      refine own_go (B := T59.setTop (mkF m 62 #[.val (.int p0), .val (.int p1), .val (.int p2), .val (.int (10 : Int32)), .val (.ref (A 6)), .val (.int (p2 &&& (3 : Int32))), .val (.int fl), .unset] [(.int (10 : Int32))])) (fun _ k => XS.iloadN X59.here hx rfl (hb hby at_61) rfl k) ?_
      refine own_go (B := T59.setTop (mkF m 63 #[.val (.int p0), .val (.int p1), .val (.int p2), .val (.int (10 : Int32)), .val (.ref (A 6)), .val (.int (p2 &&& (3 : Int32))), .val (.int fl), .unset] [(.int (5 : Int32)), (.int (10 : Int32))])) (fun _ k => XT.iconstV X59.here hx rfl (5 : Int32) (hb hby at_62) rfl k) ?_
      refine own_go (B := T59.setTop (mkF m 66 #[.val (.int p0), .val (.int p1), .val (.int p2), .val (.int (10 : Int32)), .val (.ref (A 6)), .val (.int (p2 &&& (3 : Int32))), .val (.int fl), .unset] [])) (fun _ k => XS.icmpNo X59.here hx rfl (hb hby at_63) rfl (by decide) k) ?_
      refine own_go (B := T59.setTop (mkF m 67 #[.val (.int p0), .val (.int p1), .val (.int p2), .val (.int (10 : Int32)), .val (.ref (A 6)), .val (.int (p2 &&& (3 : Int32))), .val (.int fl), .unset] [(.int (10 : Int32))])) (fun _ k => XS.iloadN X59.here hx rfl (hb hby at_66) rfl k) ?_
      refine own_go (B := T59.setTop (mkF m 69 #[.val (.int p0), .val (.int p1), .val (.int p2), .val (.int (10 : Int32)), .val (.ref (A 6)), .val (.int (p2 &&& (3 : Int32))), .val (.int fl), .unset] [(.int (7 : Int32)), (.int (10 : Int32))])) (fun _ k => XT.bipushV X59.here hx rfl (7 : Int32) (hb hby at_67) (by decide) k) ?_
      refine own_go (B := T59.setTop (mkF m 72 #[.val (.int p0), .val (.int p1), .val (.int p2), .val (.int (10 : Int32)), .val (.ref (A 6)), .val (.int (p2 &&& (3 : Int32))), .val (.int fl), .unset] [])) (fun _ k => XS.icmpNo X59.here hx rfl (hb hby at_69) rfl (by decide) k) ?_
      refine own_go (B := T59.setTop (mkF m 73 #[.val (.int p0), .val (.int p1), .val (.int p2), .val (.int (10 : Int32)), .val (.ref (A 6)), .val (.int (p2 &&& (3 : Int32))), .val (.int fl), .unset] [(.int (10 : Int32))])) (fun _ k => XS.iloadN X59.here hx rfl (hb hby at_72) rfl k) ?_
      refine own_go (B := T59.setTop (mkF m 75 #[.val (.int p0), .val (.int p1), .val (.int p2), .val (.int (10 : Int32)), .val (.ref (A 6)), .val (.int (p2 &&& (3 : Int32))), .val (.int fl), .unset] [(.int (9 : Int32)), (.int (10 : Int32))])) (fun _ k => XT.bipushV X59.here hx rfl (9 : Int32) (hb hby at_73) (by decide) k) ?_
      refine own_go (B := T59.setTop (mkF m 94 #[.val (.int p0), .val (.int p1), .val (.int p2), .val (.int (10 : Int32)), .val (.ref (A 6)), .val (.int (p2 &&& (3 : Int32))), .val (.int fl), .unset] [])) (fun _ k => XS.icmpYes X59.here hx rfl (pc0 := 75) (pc' := 94) rfl (hb hby at_75) rfl (by decide) (by decide) (by decide) k) ?_
      refine own_go (B := T59.setTop (mkF m 96 #[.val (.int p0), .val (.int p1), .val (.int p2), .val (.int (10 : Int32)), .val (.ref (A 6)), .val (.int (p2 &&& (3 : Int32))), .val (.int fl), .unset] [(.int fl)])) (fun _ k => XS.iload X59.here hx rfl (hb hby at_94) rfl k) ?_
      by_cases hc9660 : fl = (0 : Int32)
      · refine own_go (B := T59.setTop (mkF m 99 #[.val (.int p0), .val (.int p1), .val (.int p2), .val (.int (10 : Int32)), .val (.ref (A 6)), .val (.int (p2 &&& (3 : Int32))), .val (.int fl), .unset] [])) (fun _ k => XS.ifNo X59.here hx rfl (hb hby at_96) rfl ((if0 _ _).trans (teq hc9660).2) k) ?_
        refine own_go (B := T59.setTop (mkF m 100 #[.val (.int p0), .val (.int p1), .val (.int p2), .val (.int (10 : Int32)), .val (.ref (A 6)), .val (.int (p2 &&& (3 : Int32))), .val (.int fl), .unset] [(.int (1 : Int32))])) (fun _ k => XT.iconstV X59.here hx rfl (1 : Int32) (hb hby at_99) rfl k) ?_
        refine own_go (B := T59.setTop (mkF m 104 #[.val (.int p0), .val (.int p1), .val (.int p2), .val (.int (10 : Int32)), .val (.ref (A 6)), .val (.int (p2 &&& (3 : Int32))), .val (.int fl), .unset] [(.int (1 : Int32))])) (fun _ k => XS.goto X59.here hx rfl (pc0 := 100) (pc' := 104) rfl (hb hby at_100) (by decide) (by decide) k) ?_
        refine own_go (B := T59.setTop (mkF m 106 #[.val (.int p0), .val (.int p1), .val (.int p2), .val (.int (10 : Int32)), .val (.ref (A 6)), .val (.int (p2 &&& (3 : Int32))), .val (.int fl), .val (.int (1 : Int32))] [])) (fun _ k => XS.istore X59.here hx rfl (hb hby at_104) rfl (l' := #[.val (.int p0), .val (.int p1), .val (.int p2), .val (.int (10 : Int32)), .val (.ref (A 6)), .val (.int (p2 &&& (3 : Int32))), .val (.int fl), .val (.int (1 : Int32))]) rfl k) ?_
        refine own_go (B := T59.setTop (mkF m 108 #[.val (.int p0), .val (.int p1), .val (.int p2), .val (.int (10 : Int32)), .val (.ref (A 6)), .val (.int (p2 &&& (3 : Int32))), .val (.int fl), .val (.int (1 : Int32))] [(.ref (A 6))])) (fun _ k => XS.aload X59.here hx rfl (hb hby at_106) rfl rfl k) ?_
        refine own_go (B := T59.setTop (mkF m 110 #[.val (.int p0), .val (.int p1), .val (.int p2), .val (.int (10 : Int32)), .val (.ref (A 6)), .val (.int (p2 &&& (3 : Int32))), .val (.int fl), .val (.int (1 : Int32))] [(.int fl), (.ref (A 6))])) (fun _ k => XS.iload X59.here hx rfl (hb hby at_108) rfl k) ?_
        obtain ⟨cq61, kq61, q61a, q61b, q61c⟩ := isOf hZ e59 (E_UNSUBACK.ext x0)
        obtain ⟨_, _, ⟨T61, L61, k61, n61⟩, -, X61, ⟨Lc61, hQ61, l61, y61, z61⟩, st61⟩ := X59.virtualBack hx (y := (⟨"com/example/ferrybus/ferrybus/codec/PacketType", "allows", "(I)Z"⟩ : MethodName)) (z := (⟨"com/example/ferrybus/ferrybus/codec/PacketType", "allows", "(I)Z"⟩ : MethodName)) hown (mvT hZ (hw _ (List.mem_of_getElem? (i := 8) rfl))) (mvT hZ (hw _ (List.mem_of_getElem? (i := 9) rfl))) (notFace_of_selects (args := #[]) (mvT hZ (hw _ (List.mem_of_getElem? (i := 11) rfl)))) (mvT hZ (hw _ (List.mem_of_getElem? (i := 11) rfl))) (mvT hZ (hw _ (List.mem_of_getElem? (i := 10) rfl))) (by decide) (own_back (W := 0) (rm2_19 l Z a0 hw [] fl A hW h0 x0 hc9660.symm) hZ (hw _ (List.mem_of_getElem? (i := 12) rfl)) (hw _ (List.mem_of_getElem? (i := 6) rfl)) (by decide) (by decide)) q61a q61c (g := (mkF m 110 #[.val (.int p0), .val (.int p1), .val (.int p2), .val (.int (10 : Int32)), .val (.ref (A 6)), .val (.int (p2 &&& (3 : Int32))), .val (.int fl), .val (.int (1 : Int32))] [(.int fl), (.ref (A 6))])) rfl (by rw [hml]; rfl) (Steps.refl _) (argsL := [(.int fl)]) (rest := []) (lenOf pd_1 rfl) rfl (by show 2 * 0 + _ ≤ _; exact Nat.le_of_eq rfl) (hb hby at_110) (fun _ _ => ⟨rfl, e59, (by decide : 0 + 0 ≤ _), (by decide : 0 + 0 ≤ _)⟩)
        dsimp only [Pt.U, Pt.locs, Pt.cells, Pt.slots] at X61 l61 y61 z61 st61 hQ61
        subst l61 y61 z61
        obtain ⟨rfl, N61q, e61⟩ := hQ61
        have N61 := Fr.app N59 N61q
        refine own_go (B := T61.setTop (mkF m 113 #[.val (.int p0), .val (.int p1), .val (.int p2), .val (.int (10 : Int32)), .val (.ref (A 6)), .val (.int (p2 &&& (3 : Int32))), .val (.int fl), .val (.int (1 : Int32))] [(.int (1 : Int32))])) (fun _ k => st61.trans k) ?_
        refine own_go (B := T61.setTop (mkF m 115 #[.val (.int p0), .val (.int p1), .val (.int p2), .val (.int (10 : Int32)), .val (.ref (A 6)), .val (.int (p2 &&& (3 : Int32))), .val (.int fl), .val (.int (1 : Int32))] [(.int (1 : Int32)), (.int (1 : Int32))])) (fun _ k => XS.iload X61.here hx rfl (hb hby at_113) rfl k) ?_
        refine own_go (B := T61.setTop (mkF m 118 #[.val (.int p0), .val (.int p1), .val (.int p2), .val (.int (10 : Int32)), .val (.ref (A 6)), .val (.int (p2 &&& (3 : Int32))), .val (.int fl), .val (.int (1 : Int32))] [])) (fun _ k => XS.icmpNo X61.here hx rfl (hb hby at_115) rfl (by decide) k) ?_
        refine own_go (B := T61.setTop (mkF m 119 #[.val (.int p0), .val (.int p1), .val (.int p2), .val (.int (10 : Int32)), .val (.ref (A 6)), .val (.int (p2 &&& (3 : Int32))), .val (.int fl), .val (.int (1 : Int32))] [(.int (1 : Int32))])) (fun _ k => XT.iconstV X61.here hx rfl (1 : Int32) (hb hby at_118) rfl k) ?_
        refine own_go (B := T61.setTop (mkF m 123 #[.val (.int p0), .val (.int p1), .val (.int p2), .val (.int (10 : Int32)), .val (.ref (A 6)), .val (.int (p2 &&& (3 : Int32))), .val (.int fl), .val (.int (1 : Int32))] [(.int (1 : Int32))])) (fun _ k => XS.goto X61.here hx rfl (pc0 := 119) (pc' := 123) rfl (hb hby at_119) (by decide) (by decide) k) ?_
        exact own_ret X61 hx (t := .boolean) hrt rfl (Or.inl ⟨rfl, by simp, _, rfl⟩) (hb hby at_123) hlk ⟨rfl, N61⟩ (by decide) (by decide)
      · refine own_go (B := T59.setTop (mkF m 103 #[.val (.int p0), .val (.int p1), .val (.int p2), .val (.int (10 : Int32)), .val (.ref (A 6)), .val (.int (p2 &&& (3 : Int32))), .val (.int fl), .unset] [])) (fun _ k => XS.ifYes X59.here hx rfl (pc0 := 96) (pc' := 103) rfl (hb hby at_96) rfl ((if0 _ _).trans (feq hc9660).2) (by decide) (by decide) k) ?_
        refine own_go (B := T59.setTop (mkF m 104 #[.val (.int p0), .val (.int p1), .val (.int p2), .val (.int (10 : Int32)), .val (.ref (A 6)), .val (.int (p2 &&& (3 : Int32))), .val (.int fl), .unset] [(.int (0 : Int32))])) (fun _ k => XT.iconstV X59.here hx rfl (0 : Int32) (hb hby at_103) rfl k) ?_
        refine own_go (B := T59.setTop (mkF m 106 #[.val (.int p0), .val (.int p1), .val (.int p2), .val (.int (10 : Int32)), .val (.ref (A 6)), .val (.int (p2 &&& (3 : Int32))), .val (.int fl), .val (.int (0 : Int32))] [])) (fun _ k => XS.istore X59.here hx rfl (hb hby at_104) rfl (l' := #[.val (.int p0), .val (.int p1), .val (.int p2), .val (.int (10 : Int32)), .val (.ref (A 6)), .val (.int (p2 &&& (3 : Int32))), .val (.int fl), .val (.int (0 : Int32))]) rfl k) ?_
        refine own_go (B := T59.setTop (mkF m 108 #[.val (.int p0), .val (.int p1), .val (.int p2), .val (.int (10 : Int32)), .val (.ref (A 6)), .val (.int (p2 &&& (3 : Int32))), .val (.int fl), .val (.int (0 : Int32))] [(.ref (A 6))])) (fun _ k => XS.aload X59.here hx rfl (hb hby at_106) rfl rfl k) ?_
        refine own_go (B := T59.setTop (mkF m 110 #[.val (.int p0), .val (.int p1), .val (.int p2), .val (.int (10 : Int32)), .val (.ref (A 6)), .val (.int (p2 &&& (3 : Int32))), .val (.int fl), .val (.int (0 : Int32))] [(.int fl), (.ref (A 6))])) (fun _ k => XS.iload X59.here hx rfl (hb hby at_108) rfl k) ?_
        obtain ⟨cq62, kq62, q62a, q62b, q62c⟩ := isOf hZ e59 (E_UNSUBACK.ext x0)
        obtain ⟨_, _, ⟨T62, L62, k62, n62⟩, -, X62, ⟨Lc62, hQ62, l62, y62, z62⟩, st62⟩ := X59.virtualBack hx (y := (⟨"com/example/ferrybus/ferrybus/codec/PacketType", "allows", "(I)Z"⟩ : MethodName)) (z := (⟨"com/example/ferrybus/ferrybus/codec/PacketType", "allows", "(I)Z"⟩ : MethodName)) hown (mvT hZ (hw _ (List.mem_of_getElem? (i := 8) rfl))) (mvT hZ (hw _ (List.mem_of_getElem? (i := 9) rfl))) (notFace_of_selects (args := #[]) (mvT hZ (hw _ (List.mem_of_getElem? (i := 11) rfl)))) (mvT hZ (hw _ (List.mem_of_getElem? (i := 11) rfl))) (mvT hZ (hw _ (List.mem_of_getElem? (i := 10) rfl))) (by decide) (own_back (W := 0) (rm2_20 l Z a0 hw [] fl A hW h0 x0 (fun q => hc9660 q.symm)) hZ (hw _ (List.mem_of_getElem? (i := 12) rfl)) (hw _ (List.mem_of_getElem? (i := 6) rfl)) (by decide) (by decide)) q62a q62c (g := (mkF m 110 #[.val (.int p0), .val (.int p1), .val (.int p2), .val (.int (10 : Int32)), .val (.ref (A 6)), .val (.int (p2 &&& (3 : Int32))), .val (.int fl), .val (.int (0 : Int32))] [(.int fl), (.ref (A 6))])) rfl (by rw [hml]; rfl) (Steps.refl _) (argsL := [(.int fl)]) (rest := []) (lenOf pd_1 rfl) rfl (by show 2 * 0 + _ ≤ _; exact Nat.le_of_eq rfl) (hb hby at_110) (fun _ _ => ⟨rfl, e59, (by decide : 0 + 0 ≤ _), (by decide : 0 + 0 ≤ _)⟩)
        dsimp only [Pt.U, Pt.locs, Pt.cells, Pt.slots] at X62 l62 y62 z62 st62 hQ62
        subst l62 y62 z62
        obtain ⟨rfl, N62q, e62⟩ := hQ62
        have N62 := Fr.app N59 N62q
        refine own_go (B := T62.setTop (mkF m 113 #[.val (.int p0), .val (.int p1), .val (.int p2), .val (.int (10 : Int32)), .val (.ref (A 6)), .val (.int (p2 &&& (3 : Int32))), .val (.int fl), .val (.int (0 : Int32))] [(.int (0 : Int32))])) (fun _ k => st62.trans k) ?_
        refine own_go (B := T62.setTop (mkF m 115 #[.val (.int p0), .val (.int p1), .val (.int p2), .val (.int (10 : Int32)), .val (.ref (A 6)), .val (.int (p2 &&& (3 : Int32))), .val (.int fl), .val (.int (0 : Int32))] [(.int (0 : Int32)), (.int (0 : Int32))])) (fun _ k => XS.iload X62.here hx rfl (hb hby at_113) rfl k) ?_
        refine own_go (B := T62.setTop (mkF m 118 #[.val (.int p0), .val (.int p1), .val (.int p2), .val (.int (10 : Int32)), .val (.ref (A 6)), .val (.int (p2 &&& (3 : Int32))), .val (.int fl), .val (.int (0 : Int32))] [])) (fun _ k => XS.icmpNo X62.here hx rfl (hb hby at_115) rfl (by decide) k) ?_
        refine own_go (B := T62.setTop (mkF m 119 #[.val (.int p0), .val (.int p1), .val (.int p2), .val (.int (10 : Int32)), .val (.ref (A 6)), .val (.int (p2 &&& (3 : Int32))), .val (.int fl), .val (.int (0 : Int32))] [(.int (1 : Int32))])) (fun _ k => XT.iconstV X62.here hx rfl (1 : Int32) (hb hby at_118) rfl k) ?_
        refine own_go (B := T62.setTop (mkF m 123 #[.val (.int p0), .val (.int p1), .val (.int p2), .val (.int (10 : Int32)), .val (.ref (A 6)), .val (.int (p2 &&& (3 : Int32))), .val (.int fl), .val (.int (0 : Int32))] [(.int (1 : Int32))])) (fun _ k => XS.goto X62.here hx rfl (pc0 := 119) (pc' := 123) rfl (hb hby at_119) (by decide) (by decide) k) ?_
        exact own_ret X62 hx (t := .boolean) hrt rfl (Or.inl ⟨rfl, by simp, _, rfl⟩) (hb hby at_123) hlk ⟨rfl, N62⟩ (by decide) (by decide)
    refine own_go (B := T59.setTop (mkF m 21 #[.val (.int p0), .val (.int p1), .val (.int p2), .val (.int (10 : Int32)), .val (.ref (A 6)), .val (.int (p2 &&& (3 : Int32))), .unset, .unset] [(.int (p2 &&& (3 : Int32)))])) (fun _ k => XS.iload X59.here hx rfl (hb hby at_19) rfl k) ?_
    by_cases hc2163 : (p2 &&& (3 : Int32)) = (0 : Int32)
    · refine own_go (B := T59.setTop (mkF m 24 #[.val (.int p0), .val (.int p1), .val (.int p2), .val (.int (10 : Int32)), .val (.ref (A 6)), .val (.int (p2 &&& (3 : Int32))), .unset, .unset] [])) (fun _ k => XS.ifNo X59.here hx rfl (hb hby at_21) rfl ((if0 _ _).trans (teq hc2163).2) k) ?_
      refine own_go (B := T59.setTop (mkF m 25 #[.val (.int p0), .val (.int p1), .val (.int p2), .val (.int (10 : Int32)), .val (.ref (A 6)), .val (.int (p2 &&& (3 : Int32))), .unset, .unset] [(.int p1)])) (fun _ k => XS.iloadN X59.here hx rfl (hb hby at_24) rfl k) ?_
      refine own_go (B := T59.setTop (mkF m 27 #[.val (.int p0), .val (.int p1), .val (.int p2), .val (.int (10 : Int32)), .val (.ref (A 6)), .val (.int (p2 &&& (3 : Int32))), .val (.int p1), .unset] [])) (fun _ k => XS.istore X59.here hx rfl (hb hby at_25) rfl (l' := #[.val (.int p0), .val (.int p1), .val (.int p2), .val (.int (10 : Int32)), .val (.ref (A 6)), .val (.int (p2 &&& (3 : Int32))), .val (.int p1), .unset]) rfl k) ?_
      refine own_go (B := T59.setTop (mkF m 50 #[.val (.int p0), .val (.int p1), .val (.int p2), .val (.int (10 : Int32)), .val (.ref (A 6)), .val (.int (p2 &&& (3 : Int32))), .val (.int p1), .unset] [])) (fun _ k => XS.goto X59.here hx rfl (pc0 := 27) (pc' := 50) rfl (hb hby at_27) (by decide) (by decide) k) ?_
      exact tail _
    · refine own_go (B := T59.setTop (mkF m 30 #[.val (.int p0), .val (.int p1), .val (.int p2), .val (.int (10 : Int32)), .val (.ref (A 6)), .val (.int (p2 &&& (3 : Int32))), .unset, .unset] [])) (fun _ k => XS.ifYes X59.here hx rfl (pc0 := 21) (pc' := 30) rfl (hb hby at_21) rfl ((if0 _ _).trans (feq hc2163).2) (by decide) (by decide) k) ?_
      refine own_go (B := T59.setTop (mkF m 32 #[.val (.int p0), .val (.int p1), .val (.int p2), .val (.int (10 : Int32)), .val (.ref (A 6)), .val (.int (p2 &&& (3 : Int32))), .unset, .unset] [(.int (p2 &&& (3 : Int32)))])) (fun _ k => XS.iload X59.here hx rfl (hb hby at_30) rfl k) ?_
      refine own_go (B := T59.setTop (mkF m 33 #[.val (.int p0), .val (.int p1), .val (.int p2), .val (.int (10 : Int32)), .val (.ref (A 6)), .val (.int (p2 &&& (3 : Int32))), .unset, .unset] [(.int (1 : Int32)), (.int (p2 &&& (3 : Int32)))])) (fun _ k => XT.iconstV X59.here hx rfl (1 : Int32) (hb hby at_32) rfl k) ?_
      by_cases hc3364 : (p2 &&& (3 : Int32)) = (1 : Int32)
      · refine own_go (B := T59.setTop (mkF m 36 #[.val (.int p0), .val (.int p1), .val (.int p2), .val (.int (10 : Int32)), .val (.ref (A 6)), .val (.int (p2 &&& (3 : Int32))), .unset, .unset] [])) (fun _ k => XS.icmpNo X59.here hx rfl (hb hby at_33) rfl (teq hc3364).2 k) ?_
        refine own_go (B := T59.setTop (mkF m 37 #[.val (.int p0), .val (.int p1), .val (.int p2), .val (.int (10 : Int32)), .val (.ref (A 6)), .val (.int (p2 &&& (3 : Int32))), .unset, .unset] [(.int p1)])) (fun _ k => XS.iloadN X59.here hx rfl (hb hby at_36) rfl k) ?_
        refine own_go (B := T59.setTop (mkF m 39 #[.val (.int p0), .val (.int p1), .val (.int p2), .val (.int (10 : Int32)), .val (.ref (A 6)), .val (.int (p2 &&& (3 : Int32))), .unset, .unset] [(.int (15 : Int32)), (.int p1)])) (fun _ k => XT.bipushV X59.here hx rfl (15 : Int32) (hb hby at_37) (by decide) k) ?_
        refine own_go (B := T59.setTop (mkF m 40 #[.val (.int p0), .val (.int p1), .val (.int p2), .val (.int (10 : Int32)), .val (.ref (A 6)), .val (.int (p2 &&& (3 : Int32))), .unset, .unset] [(.int (p1 &&& (15 : Int32)))])) (fun _ k => XS.iand X59.here hx rfl (hb hby at_39) rfl k) ?_
        refine own_go (B := T59.setTop (mkF m 42 #[.val (.int p0), .val (.int p1), .val (.int p2), .val (.int (10 : Int32)), .val (.ref (A 6)), .val (.int (p2 &&& (3 : Int32))), .val (.int (p1 &&& (15 : Int32))), .unset] [])) (fun _ k => XS.istore X59.here hx rfl (hb hby at_40) rfl (l' := #[.val (.int p0), .val (.int p1), .val (.int p2), .val (.int (10 : Int32)), .val (.ref (A 6)), .val (.int (p2 &&& (3 : Int32))), .val (.int (p1 &&& (15 : Int32))), .unset]) rfl k) ?_
        refine own_go (B := T59.setTop (mkF m 50 #[.val (.int p0), .val (.int p1), .val (.int p2), .val (.int (10 : Int32)), .val (.ref (A 6)), .val (.int (p2 &&& (3 : Int32))), .val (.int (p1 &&& (15 : Int32))), .unset] [])) (fun _ k => XS.goto X59.here hx rfl (pc0 := 42) (pc' := 50) rfl (hb hby at_42) (by decide) (by decide) k) ?_
        exact tail _
      · refine own_go (B := T59.setTop (mkF m 45 #[.val (.int p0), .val (.int p1), .val (.int p2), .val (.int (10 : Int32)), .val (.ref (A 6)), .val (.int (p2 &&& (3 : Int32))), .unset, .unset] [])) (fun _ k => XS.icmpYes X59.here hx rfl (pc0 := 33) (pc' := 45) rfl (hb hby at_33) rfl (feq hc3364).2 (by decide) (by decide) k) ?_
        refine own_go (B := T59.setTop (mkF m 46 #[.val (.int p0), .val (.int p1), .val (.int p2), .val (.int (10 : Int32)), .val (.ref (A 6)), .val (.int (p2 &&& (3 : Int32))), .unset, .unset] [(.int p1)])) (fun _ k => XS.iloadN X59.here hx rfl (hb hby at_45) rfl k) ?_
        refine own_go (B := T59.setTop (mkF m 47 #[.val (.int p0), .val (.int p1), .val (.int p2), .val (.int (10 : Int32)), .val (.ref (A 6)), .val (.int (p2 &&& (3 : Int32))), .unset, .unset] [(.int (3 : Int32)), (.int p1)])) (fun _ k => XT.iconstV X59.here hx rfl (3 : Int32) (hb hby at_46) rfl k) ?_
        refine own_go (B := T59.setTop (mkF m 48 #[.val (.int p0), .val (.int p1), .val (.int p2), .val (.int (10 : Int32)), .val (.ref (A 6)), .val (.int (p2 &&& (3 : Int32))), .unset, .unset] [(.int (p1 &&& (3 : Int32)))])) (fun _ k => XS.iand X59.here hx rfl (hb hby at_47) rfl k) ?_
        refine own_go (B := T59.setTop (mkF m 50 #[.val (.int p0), .val (.int p1), .val (.int p2), .val (.int (10 : Int32)), .val (.ref (A 6)), .val (.int (p2 &&& (3 : Int32))), .val (.int (p1 &&& (3 : Int32))), .unset] [])) (fun _ k => XS.istore X59.here hx rfl (hb hby at_48) rfl (l' := #[.val (.int p0), .val (.int p1), .val (.int p2), .val (.int (10 : Int32)), .val (.ref (A 6)), .val (.int (p2 &&& (3 : Int32))), .val (.int (p1 &&& (3 : Int32))), .unset]) rfl k) ?_
        exact tail _
  · refine own_go (B := s₁.setTop (mkF m 9 #[.val (.int p0), .val (.int p1), .val (.int p2), .val (.int (11 : Int32)), .unset, .unset, .unset, .unset] [(.int (11 : Int32))])) (fun _ k => XS.iloadN X0.here hx rfl (hb hby at_8) rfl k) ?_
    obtain ⟨_, _, ⟨T65, L65, k65, n65⟩, -, X65, ⟨Lc65, hQ65, l65, y65, z65⟩, st65⟩ := Jvm.LawKit.callS X0 hx (y := (⟨"com/example/ferrybus/ferrybus/codec/PacketTypeAllowsPinLaw", "pick", "(I)Lcom/example/ferrybus/ferrybus/codec/PacketType;"⟩ : MethodName)) hown (mvT hZ (hw _ (List.mem_of_getElem? (i := 1) rfl))) (mvT hZ (hw _ (List.mem_of_getElem? (i := 2) rfl))) (mvT hZ (hw _ (List.mem_of_getElem? (i := 3) rfl))) (mvT hZ (hw _ (List.mem_of_getElem? (i := 4) rfl))) (by decide) (own_back (W := 0) (rm1_11 l Z a0 hw []  A hW h0 x0 ) hZ (hw _ (List.mem_of_getElem? (i := 4) rfl)) (hw _ (List.mem_of_getElem? (i := 3) rfl)) (by decide) (by decide)) (g := (mkF m 9 #[.val (.int p0), .val (.int p1), .val (.int p2), .val (.int (11 : Int32)), .unset, .unset, .unset, .unset] [(.int (11 : Int32))])) rfl (by rw [hml]; rfl) (argsL := [(.int (11 : Int32))]) (rest := []) (lenOf pd_0 rfl) rfl (by show 2 * 0 + _ ≤ _; exact Nat.le_of_eq rfl) (hb hby at_9) (fun _ _ => ⟨rfl, e0, (by decide : 0 + 0 ≤ _), (by decide : 0 + 0 ≤ _)⟩)
    dsimp only [Pt.U, Pt.locs, Pt.cells, Pt.slots] at X65 l65 y65 z65 st65 hQ65
    subst l65 y65 z65
    obtain ⟨rfl, N65q, e65⟩ := hQ65
    have N65 := Fr.app N0 N65q
    refine own_go (B := T65.setTop (mkF m 12 #[.val (.int p0), .val (.int p1), .val (.int p2), .val (.int (11 : Int32)), .unset, .unset, .unset, .unset] [(.ref (A 8))])) st65 ?_
    refine own_go (B := T65.setTop (mkF m 14 #[.val (.int p0), .val (.int p1), .val (.int p2), .val (.int (11 : Int32)), .val (.ref (A 8)), .unset, .unset, .unset] [])) (fun _ k => XS.astore X65.here hx rfl (hb hby at_12) rfl rfl (l' := #[.val (.int p0), .val (.int p1), .val (.int p2), .val (.int (11 : Int32)), .val (.ref (A 8)), .unset, .unset, .unset]) rfl k) ?_
    refine own_go (B := T65.setTop (mkF m 15 #[.val (.int p0), .val (.int p1), .val (.int p2), .val (.int (11 : Int32)), .val (.ref (A 8)), .unset, .unset, .unset] [(.int p2)])) (fun _ k => XS.iloadN X65.here hx rfl (hb hby at_14) rfl k) ?_
    refine own_go (B := T65.setTop (mkF m 16 #[.val (.int p0), .val (.int p1), .val (.int p2), .val (.int (11 : Int32)), .val (.ref (A 8)), .unset, .unset, .unset] [(.int (3 : Int32)), (.int p2)])) (fun _ k => XT.iconstV X65.here hx rfl (3 : Int32) (hb hby at_15) rfl k) ?_
    refine own_go (B := T65.setTop (mkF m 17 #[.val (.int p0), .val (.int p1), .val (.int p2), .val (.int (11 : Int32)), .val (.ref (A 8)), .unset, .unset, .unset] [(.int (p2 &&& (3 : Int32)))])) (fun _ k => XS.iand X65.here hx rfl (hb hby at_16) rfl k) ?_
    refine own_go (B := T65.setTop (mkF m 19 #[.val (.int p0), .val (.int p1), .val (.int p2), .val (.int (11 : Int32)), .val (.ref (A 8)), .val (.int (p2 &&& (3 : Int32))), .unset, .unset] [])) (fun _ k => XS.istore X65.here hx rfl (hb hby at_17) rfl (l' := #[.val (.int p0), .val (.int p1), .val (.int p2), .val (.int (11 : Int32)), .val (.ref (A 8)), .val (.int (p2 &&& (3 : Int32))), .unset, .unset]) rfl k) ?_
    have tail : ∀ fl : Int32, own_G p.tables e below s (fun v_ h_ L_ => v_ = some (.int (1 : Int32)) ∧ Fr Z.heap.size L_) room_1.cells room_1.slots (T65.setTop (mkF m 50 #[.val (.int p0), .val (.int p1), .val (.int p2), .val (.int (11 : Int32)), .val (.ref (A 8)), .val (.int (p2 &&& (3 : Int32))), .val (.int fl), .unset] [])) := by
      intro fl
      refine own_go (B := T65.setTop (mkF m 51 #[.val (.int p0), .val (.int p1), .val (.int p2), .val (.int (11 : Int32)), .val (.ref (A 8)), .val (.int (p2 &&& (3 : Int32))), .val (.int fl), .unset] [(.int (11 : Int32))])) (fun _ k => XS.iloadN X65.here hx rfl (hb hby at_50) rfl k) ?_
      refine own_go (B := T65.setTop (mkF m 52 #[.val (.int p0), .val (.int p1), .val (.int p2), .val (.int (11 : Int32)), .val (.ref (A 8)), .val (.int (p2 &&& (3 : Int32))), .val (.int fl), .unset] [(.int (2 : Int32)), (.int (11 : Int32))])) (fun _ k => XT.iconstV X65.here hx rfl (2 : Int32) (hb hby at_51) rfl k) ?_
      refine own_go (B := T65.setTop (mkF m 61 #[.val (.int p0), .val (.int p1), .val (.int p2), .val (.int (11 : Int32)), .val (.ref (A 8)), .val (.int (p2 &&& (3 : Int32))), .val (.int fl), .unset] [])) (fun _ k => XS.icmpYes X65.here hx rfl (pc0 := 52) (pc' := 61) rfl (hb hby at_52) rfl (by decide) (by decide) (by decide) k) ?_
      refine own_go (B := T65.setTop (mkF m 62 #[.val (.int p0), .val (.int p1), .val (.int p2), .val (.int (11 : Int32)), .val (.ref (A 8)), .val (.int (p2 &&& (3 : Int32))), .val (.int fl), .unset] [(.int (11 : Int32))])) (fun _ k => XS.iloadN X65.here hx rfl (hb hby at_61) rfl k) ?_
      refine own_go (B := T65.setTop (mkF m 63 #[.val (.int p0), .val (.int p1), .val (.int p2), .val (.int (11 : Int32)), .val (.ref (A 8)), .val (.int (p2 &&& (3 : Int32))), .val (.int fl), .unset] [(.int (5 : Int32)), (.int (11 : Int32))])) (fun _ k => XT.iconstV X65.here hx rfl (5 : Int32) (hb hby at_62) rfl k) ?_
      refine own_go (B := T65.setTop (mkF m 66 #[.val (.int p0), .val (.int p1), .val (.int p2), .val (.int (11 : Int32)), .val (.ref (A 8)), .val (.int (p2 &&& (3 : Int32))), .val (.int fl), .unset] [])) (fun _ k => XS.icmpNo X65.here hx rfl (hb hby at_63) rfl (by decide) k) ?_
      refine own_go (B := T65.setTop (mkF m 67 #[.val (.int p0), .val (.int p1), .val (.int p2), .val (.int (11 : Int32)), .val (.ref (A 8)), .val (.int (p2 &&& (3 : Int32))), .val (.int fl), .unset] [(.int (11 : Int32))])) (fun _ k => XS.iloadN X65.here hx rfl (hb hby at_66) rfl k) ?_
      refine own_go (B := T65.setTop (mkF m 69 #[.val (.int p0), .val (.int p1), .val (.int p2), .val (.int (11 : Int32)), .val (.ref (A 8)), .val (.int (p2 &&& (3 : Int32))), .val (.int fl), .unset] [(.int (7 : Int32)), (.int (11 : Int32))])) (fun _ k => XT.bipushV X65.here hx rfl (7 : Int32) (hb hby at_67) (by decide) k) ?_
      refine own_go (B := T65.setTop (mkF m 72 #[.val (.int p0), .val (.int p1), .val (.int p2), .val (.int (11 : Int32)), .val (.ref (A 8)), .val (.int (p2 &&& (3 : Int32))), .val (.int fl), .unset] [])) (fun _ k => XS.icmpNo X65.here hx rfl (hb hby at_69) rfl (by decide) k) ?_
      refine own_go (B := T65.setTop (mkF m 73 #[.val (.int p0), .val (.int p1), .val (.int p2), .val (.int (11 : Int32)), .val (.ref (A 8)), .val (.int (p2 &&& (3 : Int32))), .val (.int fl), .unset] [(.int (11 : Int32))])) (fun _ k => XS.iloadN X65.here hx rfl (hb hby at_72) rfl k) ?_
      refine own_go (B := T65.setTop (mkF m 75 #[.val (.int p0), .val (.int p1), .val (.int p2), .val (.int (11 : Int32)), .val (.ref (A 8)), .val (.int (p2 &&& (3 : Int32))), .val (.int fl), .unset] [(.int (9 : Int32)), (.int (11 : Int32))])) (fun _ k => XT.bipushV X65.here hx rfl (9 : Int32) (hb hby at_73) (by decide) k) ?_
      refine own_go (B := T65.setTop (mkF m 94 #[.val (.int p0), .val (.int p1), .val (.int p2), .val (.int (11 : Int32)), .val (.ref (A 8)), .val (.int (p2 &&& (3 : Int32))), .val (.int fl), .unset] [])) (fun _ k => XS.icmpYes X65.here hx rfl (pc0 := 75) (pc' := 94) rfl (hb hby at_75) rfl (by decide) (by decide) (by decide) k) ?_
      refine own_go (B := T65.setTop (mkF m 96 #[.val (.int p0), .val (.int p1), .val (.int p2), .val (.int (11 : Int32)), .val (.ref (A 8)), .val (.int (p2 &&& (3 : Int32))), .val (.int fl), .unset] [(.int fl)])) (fun _ k => XS.iload X65.here hx rfl (hb hby at_94) rfl k) ?_
      by_cases hc9666 : fl = (0 : Int32)
      · refine own_go (B := T65.setTop (mkF m 99 #[.val (.int p0), .val (.int p1), .val (.int p2), .val (.int (11 : Int32)), .val (.ref (A 8)), .val (.int (p2 &&& (3 : Int32))), .val (.int fl), .unset] [])) (fun _ k => XS.ifNo X65.here hx rfl (hb hby at_96) rfl ((if0 _ _).trans (teq hc9666).2) k) ?_
        refine own_go (B := T65.setTop (mkF m 100 #[.val (.int p0), .val (.int p1), .val (.int p2), .val (.int (11 : Int32)), .val (.ref (A 8)), .val (.int (p2 &&& (3 : Int32))), .val (.int fl), .unset] [(.int (1 : Int32))])) (fun _ k => XT.iconstV X65.here hx rfl (1 : Int32) (hb hby at_99) rfl k) ?_
        refine own_go (B := T65.setTop (mkF m 104 #[.val (.int p0), .val (.int p1), .val (.int p2), .val (.int (11 : Int32)), .val (.ref (A 8)), .val (.int (p2 &&& (3 : Int32))), .val (.int fl), .unset] [(.int (1 : Int32))])) (fun _ k => XS.goto X65.here hx rfl (pc0 := 100) (pc' := 104) rfl (hb hby at_100) (by decide) (by decide) k) ?_
        refine own_go (B := T65.setTop (mkF m 106 #[.val (.int p0), .val (.int p1), .val (.int p2), .val (.int (11 : Int32)), .val (.ref (A 8)), .val (.int (p2 &&& (3 : Int32))), .val (.int fl), .val (.int (1 : Int32))] [])) (fun _ k => XS.istore X65.here hx rfl (hb hby at_104) rfl (l' := #[.val (.int p0), .val (.int p1), .val (.int p2), .val (.int (11 : Int32)), .val (.ref (A 8)), .val (.int (p2 &&& (3 : Int32))), .val (.int fl), .val (.int (1 : Int32))]) rfl k) ?_
        refine own_go (B := T65.setTop (mkF m 108 #[.val (.int p0), .val (.int p1), .val (.int p2), .val (.int (11 : Int32)), .val (.ref (A 8)), .val (.int (p2 &&& (3 : Int32))), .val (.int fl), .val (.int (1 : Int32))] [(.ref (A 8))])) (fun _ k => XS.aload X65.here hx rfl (hb hby at_106) rfl rfl k) ?_
        refine own_go (B := T65.setTop (mkF m 110 #[.val (.int p0), .val (.int p1), .val (.int p2), .val (.int (11 : Int32)), .val (.ref (A 8)), .val (.int (p2 &&& (3 : Int32))), .val (.int fl), .val (.int (1 : Int32))] [(.int fl), (.ref (A 8))])) (fun _ k => XS.iload X65.here hx rfl (hb hby at_108) rfl k) ?_
        obtain ⟨cq67, kq67, q67a, q67b, q67c⟩ := isOf hZ e65 (E_PINGREQ.ext x0)
        obtain ⟨_, _, ⟨T67, L67, k67, n67⟩, -, X67, ⟨Lc67, hQ67, l67, y67, z67⟩, st67⟩ := X65.virtualBack hx (y := (⟨"com/example/ferrybus/ferrybus/codec/PacketType", "allows", "(I)Z"⟩ : MethodName)) (z := (⟨"com/example/ferrybus/ferrybus/codec/PacketType", "allows", "(I)Z"⟩ : MethodName)) hown (mvT hZ (hw _ (List.mem_of_getElem? (i := 8) rfl))) (mvT hZ (hw _ (List.mem_of_getElem? (i := 9) rfl))) (notFace_of_selects (args := #[]) (mvT hZ (hw _ (List.mem_of_getElem? (i := 11) rfl)))) (mvT hZ (hw _ (List.mem_of_getElem? (i := 11) rfl))) (mvT hZ (hw _ (List.mem_of_getElem? (i := 10) rfl))) (by decide) (own_back (W := 0) (rm2_21 l Z a0 hw [] fl A hW h0 x0 hc9666.symm) hZ (hw _ (List.mem_of_getElem? (i := 12) rfl)) (hw _ (List.mem_of_getElem? (i := 6) rfl)) (by decide) (by decide)) q67a q67c (g := (mkF m 110 #[.val (.int p0), .val (.int p1), .val (.int p2), .val (.int (11 : Int32)), .val (.ref (A 8)), .val (.int (p2 &&& (3 : Int32))), .val (.int fl), .val (.int (1 : Int32))] [(.int fl), (.ref (A 8))])) rfl (by rw [hml]; rfl) (Steps.refl _) (argsL := [(.int fl)]) (rest := []) (lenOf pd_1 rfl) rfl (by show 2 * 0 + _ ≤ _; exact Nat.le_of_eq rfl) (hb hby at_110) (fun _ _ => ⟨rfl, e65, (by decide : 0 + 0 ≤ _), (by decide : 0 + 0 ≤ _)⟩)
        dsimp only [Pt.U, Pt.locs, Pt.cells, Pt.slots] at X67 l67 y67 z67 st67 hQ67
        subst l67 y67 z67
        obtain ⟨rfl, N67q, e67⟩ := hQ67
        have N67 := Fr.app N65 N67q
        refine own_go (B := T67.setTop (mkF m 113 #[.val (.int p0), .val (.int p1), .val (.int p2), .val (.int (11 : Int32)), .val (.ref (A 8)), .val (.int (p2 &&& (3 : Int32))), .val (.int fl), .val (.int (1 : Int32))] [(.int (1 : Int32))])) (fun _ k => st67.trans k) ?_
        refine own_go (B := T67.setTop (mkF m 115 #[.val (.int p0), .val (.int p1), .val (.int p2), .val (.int (11 : Int32)), .val (.ref (A 8)), .val (.int (p2 &&& (3 : Int32))), .val (.int fl), .val (.int (1 : Int32))] [(.int (1 : Int32)), (.int (1 : Int32))])) (fun _ k => XS.iload X67.here hx rfl (hb hby at_113) rfl k) ?_
        refine own_go (B := T67.setTop (mkF m 118 #[.val (.int p0), .val (.int p1), .val (.int p2), .val (.int (11 : Int32)), .val (.ref (A 8)), .val (.int (p2 &&& (3 : Int32))), .val (.int fl), .val (.int (1 : Int32))] [])) (fun _ k => XS.icmpNo X67.here hx rfl (hb hby at_115) rfl (by decide) k) ?_
        refine own_go (B := T67.setTop (mkF m 119 #[.val (.int p0), .val (.int p1), .val (.int p2), .val (.int (11 : Int32)), .val (.ref (A 8)), .val (.int (p2 &&& (3 : Int32))), .val (.int fl), .val (.int (1 : Int32))] [(.int (1 : Int32))])) (fun _ k => XT.iconstV X67.here hx rfl (1 : Int32) (hb hby at_118) rfl k) ?_
        refine own_go (B := T67.setTop (mkF m 123 #[.val (.int p0), .val (.int p1), .val (.int p2), .val (.int (11 : Int32)), .val (.ref (A 8)), .val (.int (p2 &&& (3 : Int32))), .val (.int fl), .val (.int (1 : Int32))] [(.int (1 : Int32))])) (fun _ k => XS.goto X67.here hx rfl (pc0 := 119) (pc' := 123) rfl (hb hby at_119) (by decide) (by decide) k) ?_
        exact own_ret X67 hx (t := .boolean) hrt rfl (Or.inl ⟨rfl, by simp, _, rfl⟩) (hb hby at_123) hlk ⟨rfl, N67⟩ (by decide) (by decide)
      · refine own_go (B := T65.setTop (mkF m 103 #[.val (.int p0), .val (.int p1), .val (.int p2), .val (.int (11 : Int32)), .val (.ref (A 8)), .val (.int (p2 &&& (3 : Int32))), .val (.int fl), .unset] [])) (fun _ k => XS.ifYes X65.here hx rfl (pc0 := 96) (pc' := 103) rfl (hb hby at_96) rfl ((if0 _ _).trans (feq hc9666).2) (by decide) (by decide) k) ?_
        refine own_go (B := T65.setTop (mkF m 104 #[.val (.int p0), .val (.int p1), .val (.int p2), .val (.int (11 : Int32)), .val (.ref (A 8)), .val (.int (p2 &&& (3 : Int32))), .val (.int fl), .unset] [(.int (0 : Int32))])) (fun _ k => XT.iconstV X65.here hx rfl (0 : Int32) (hb hby at_103) rfl k) ?_
        refine own_go (B := T65.setTop (mkF m 106 #[.val (.int p0), .val (.int p1), .val (.int p2), .val (.int (11 : Int32)), .val (.ref (A 8)), .val (.int (p2 &&& (3 : Int32))), .val (.int fl), .val (.int (0 : Int32))] [])) (fun _ k => XS.istore X65.here hx rfl (hb hby at_104) rfl (l' := #[.val (.int p0), .val (.int p1), .val (.int p2), .val (.int (11 : Int32)), .val (.ref (A 8)), .val (.int (p2 &&& (3 : Int32))), .val (.int fl), .val (.int (0 : Int32))]) rfl k) ?_
        refine own_go (B := T65.setTop (mkF m 108 #[.val (.int p0), .val (.int p1), .val (.int p2), .val (.int (11 : Int32)), .val (.ref (A 8)), .val (.int (p2 &&& (3 : Int32))), .val (.int fl), .val (.int (0 : Int32))] [(.ref (A 8))])) (fun _ k => XS.aload X65.here hx rfl (hb hby at_106) rfl rfl k) ?_
        refine own_go (B := T65.setTop (mkF m 110 #[.val (.int p0), .val (.int p1), .val (.int p2), .val (.int (11 : Int32)), .val (.ref (A 8)), .val (.int (p2 &&& (3 : Int32))), .val (.int fl), .val (.int (0 : Int32))] [(.int fl), (.ref (A 8))])) (fun _ k => XS.iload X65.here hx rfl (hb hby at_108) rfl k) ?_
        obtain ⟨cq68, kq68, q68a, q68b, q68c⟩ := isOf hZ e65 (E_PINGREQ.ext x0)
        obtain ⟨_, _, ⟨T68, L68, k68, n68⟩, -, X68, ⟨Lc68, hQ68, l68, y68, z68⟩, st68⟩ := X65.virtualBack hx (y := (⟨"com/example/ferrybus/ferrybus/codec/PacketType", "allows", "(I)Z"⟩ : MethodName)) (z := (⟨"com/example/ferrybus/ferrybus/codec/PacketType", "allows", "(I)Z"⟩ : MethodName)) hown (mvT hZ (hw _ (List.mem_of_getElem? (i := 8) rfl))) (mvT hZ (hw _ (List.mem_of_getElem? (i := 9) rfl))) (notFace_of_selects (args := #[]) (mvT hZ (hw _ (List.mem_of_getElem? (i := 11) rfl)))) (mvT hZ (hw _ (List.mem_of_getElem? (i := 11) rfl))) (mvT hZ (hw _ (List.mem_of_getElem? (i := 10) rfl))) (by decide) (own_back (W := 0) (rm2_22 l Z a0 hw [] fl A hW h0 x0 (fun q => hc9666 q.symm)) hZ (hw _ (List.mem_of_getElem? (i := 12) rfl)) (hw _ (List.mem_of_getElem? (i := 6) rfl)) (by decide) (by decide)) q68a q68c (g := (mkF m 110 #[.val (.int p0), .val (.int p1), .val (.int p2), .val (.int (11 : Int32)), .val (.ref (A 8)), .val (.int (p2 &&& (3 : Int32))), .val (.int fl), .val (.int (0 : Int32))] [(.int fl), (.ref (A 8))])) rfl (by rw [hml]; rfl) (Steps.refl _) (argsL := [(.int fl)]) (rest := []) (lenOf pd_1 rfl) rfl (by show 2 * 0 + _ ≤ _; exact Nat.le_of_eq rfl) (hb hby at_110) (fun _ _ => ⟨rfl, e65, (by decide : 0 + 0 ≤ _), (by decide : 0 + 0 ≤ _)⟩)
        dsimp only [Pt.U, Pt.locs, Pt.cells, Pt.slots] at X68 l68 y68 z68 st68 hQ68
        subst l68 y68 z68
        obtain ⟨rfl, N68q, e68⟩ := hQ68
        have N68 := Fr.app N65 N68q
        refine own_go (B := T68.setTop (mkF m 113 #[.val (.int p0), .val (.int p1), .val (.int p2), .val (.int (11 : Int32)), .val (.ref (A 8)), .val (.int (p2 &&& (3 : Int32))), .val (.int fl), .val (.int (0 : Int32))] [(.int (0 : Int32))])) (fun _ k => st68.trans k) ?_
        refine own_go (B := T68.setTop (mkF m 115 #[.val (.int p0), .val (.int p1), .val (.int p2), .val (.int (11 : Int32)), .val (.ref (A 8)), .val (.int (p2 &&& (3 : Int32))), .val (.int fl), .val (.int (0 : Int32))] [(.int (0 : Int32)), (.int (0 : Int32))])) (fun _ k => XS.iload X68.here hx rfl (hb hby at_113) rfl k) ?_
        refine own_go (B := T68.setTop (mkF m 118 #[.val (.int p0), .val (.int p1), .val (.int p2), .val (.int (11 : Int32)), .val (.ref (A 8)), .val (.int (p2 &&& (3 : Int32))), .val (.int fl), .val (.int (0 : Int32))] [])) (fun _ k => XS.icmpNo X68.here hx rfl (hb hby at_115) rfl (by decide) k) ?_
        refine own_go (B := T68.setTop (mkF m 119 #[.val (.int p0), .val (.int p1), .val (.int p2), .val (.int (11 : Int32)), .val (.ref (A 8)), .val (.int (p2 &&& (3 : Int32))), .val (.int fl), .val (.int (0 : Int32))] [(.int (1 : Int32))])) (fun _ k => XT.iconstV X68.here hx rfl (1 : Int32) (hb hby at_118) rfl k) ?_
        refine own_go (B := T68.setTop (mkF m 123 #[.val (.int p0), .val (.int p1), .val (.int p2), .val (.int (11 : Int32)), .val (.ref (A 8)), .val (.int (p2 &&& (3 : Int32))), .val (.int fl), .val (.int (0 : Int32))] [(.int (1 : Int32))])) (fun _ k => XS.goto X68.here hx rfl (pc0 := 119) (pc' := 123) rfl (hb hby at_119) (by decide) (by decide) k) ?_
        exact own_ret X68 hx (t := .boolean) hrt rfl (Or.inl ⟨rfl, by simp, _, rfl⟩) (hb hby at_123) hlk ⟨rfl, N68⟩ (by decide) (by decide)
    refine own_go (B := T65.setTop (mkF m 21 #[.val (.int p0), .val (.int p1), .val (.int p2), .val (.int (11 : Int32)), .val (.ref (A 8)), .val (.int (p2 &&& (3 : Int32))), .unset, .unset] [(.int (p2 &&& (3 : Int32)))])) (fun _ k => XS.iload X65.here hx rfl (hb hby at_19) rfl k) ?_
    by_cases hc2169 : (p2 &&& (3 : Int32)) = (0 : Int32)
    · refine own_go (B := T65.setTop (mkF m 24 #[.val (.int p0), .val (.int p1), .val (.int p2), .val (.int (11 : Int32)), .val (.ref (A 8)), .val (.int (p2 &&& (3 : Int32))), .unset, .unset] [])) (fun _ k => XS.ifNo X65.here hx rfl (hb hby at_21) rfl ((if0 _ _).trans (teq hc2169).2) k) ?_
      refine own_go (B := T65.setTop (mkF m 25 #[.val (.int p0), .val (.int p1), .val (.int p2), .val (.int (11 : Int32)), .val (.ref (A 8)), .val (.int (p2 &&& (3 : Int32))), .unset, .unset] [(.int p1)])) (fun _ k => XS.iloadN X65.here hx rfl (hb hby at_24) rfl k) ?_
      refine own_go (B := T65.setTop (mkF m 27 #[.val (.int p0), .val (.int p1), .val (.int p2), .val (.int (11 : Int32)), .val (.ref (A 8)), .val (.int (p2 &&& (3 : Int32))), .val (.int p1), .unset] [])) (fun _ k => XS.istore X65.here hx rfl (hb hby at_25) rfl (l' := #[.val (.int p0), .val (.int p1), .val (.int p2), .val (.int (11 : Int32)), .val (.ref (A 8)), .val (.int (p2 &&& (3 : Int32))), .val (.int p1), .unset]) rfl k) ?_
      refine own_go (B := T65.setTop (mkF m 50 #[.val (.int p0), .val (.int p1), .val (.int p2), .val (.int (11 : Int32)), .val (.ref (A 8)), .val (.int (p2 &&& (3 : Int32))), .val (.int p1), .unset] [])) (fun _ k => XS.goto X65.here hx rfl (pc0 := 27) (pc' := 50) rfl (hb hby at_27) (by decide) (by decide) k) ?_
      exact tail _
    · refine own_go (B := T65.setTop (mkF m 30 #[.val (.int p0), .val (.int p1), .val (.int p2), .val (.int (11 : Int32)), .val (.ref (A 8)), .val (.int (p2 &&& (3 : Int32))), .unset, .unset] [])) (fun _ k => XS.ifYes X65.here hx rfl (pc0 := 21) (pc' := 30) rfl (hb hby at_21) rfl ((if0 _ _).trans (feq hc2169).2) (by decide) (by decide) k) ?_
      refine own_go (B := T65.setTop (mkF m 32 #[.val (.int p0), .val (.int p1), .val (.int p2), .val (.int (11 : Int32)), .val (.ref (A 8)), .val (.int (p2 &&& (3 : Int32))), .unset, .unset] [(.int (p2 &&& (3 : Int32)))])) (fun _ k => XS.iload X65.here hx rfl (hb hby at_30) rfl k) ?_
      refine own_go (B := T65.setTop (mkF m 33 #[.val (.int p0), .val (.int p1), .val (.int p2), .val (.int (11 : Int32)), .val (.ref (A 8)), .val (.int (p2 &&& (3 : Int32))), .unset, .unset] [(.int (1 : Int32)), (.int (p2 &&& (3 : Int32)))])) (fun _ k => XT.iconstV X65.here hx rfl (1 : Int32) (hb hby at_32) rfl k) ?_
      by_cases hc3370 : (p2 &&& (3 : Int32)) = (1 : Int32)
      · refine own_go (B := T65.setTop (mkF m 36 #[.val (.int p0), .val (.int p1), .val (.int p2), .val (.int (11 : Int32)), .val (.ref (A 8)), .val (.int (p2 &&& (3 : Int32))), .unset, .unset] [])) (fun _ k => XS.icmpNo X65.here hx rfl (hb hby at_33) rfl (teq hc3370).2 k) ?_
        refine own_go (B := T65.setTop (mkF m 37 #[.val (.int p0), .val (.int p1), .val (.int p2), .val (.int (11 : Int32)), .val (.ref (A 8)), .val (.int (p2 &&& (3 : Int32))), .unset, .unset] [(.int p1)])) (fun _ k => XS.iloadN X65.here hx rfl (hb hby at_36) rfl k) ?_
        refine own_go (B := T65.setTop (mkF m 39 #[.val (.int p0), .val (.int p1), .val (.int p2), .val (.int (11 : Int32)), .val (.ref (A 8)), .val (.int (p2 &&& (3 : Int32))), .unset, .unset] [(.int (15 : Int32)), (.int p1)])) (fun _ k => XT.bipushV X65.here hx rfl (15 : Int32) (hb hby at_37) (by decide) k) ?_
        refine own_go (B := T65.setTop (mkF m 40 #[.val (.int p0), .val (.int p1), .val (.int p2), .val (.int (11 : Int32)), .val (.ref (A 8)), .val (.int (p2 &&& (3 : Int32))), .unset, .unset] [(.int (p1 &&& (15 : Int32)))])) (fun _ k => XS.iand X65.here hx rfl (hb hby at_39) rfl k) ?_
        refine own_go (B := T65.setTop (mkF m 42 #[.val (.int p0), .val (.int p1), .val (.int p2), .val (.int (11 : Int32)), .val (.ref (A 8)), .val (.int (p2 &&& (3 : Int32))), .val (.int (p1 &&& (15 : Int32))), .unset] [])) (fun _ k => XS.istore X65.here hx rfl (hb hby at_40) rfl (l' := #[.val (.int p0), .val (.int p1), .val (.int p2), .val (.int (11 : Int32)), .val (.ref (A 8)), .val (.int (p2 &&& (3 : Int32))), .val (.int (p1 &&& (15 : Int32))), .unset]) rfl k) ?_
        refine own_go (B := T65.setTop (mkF m 50 #[.val (.int p0), .val (.int p1), .val (.int p2), .val (.int (11 : Int32)), .val (.ref (A 8)), .val (.int (p2 &&& (3 : Int32))), .val (.int (p1 &&& (15 : Int32))), .unset] [])) (fun _ k => XS.goto X65.here hx rfl (pc0 := 42) (pc' := 50) rfl (hb hby at_42) (by decide) (by decide) k) ?_
        exact tail _
      · refine own_go (B := T65.setTop (mkF m 45 #[.val (.int p0), .val (.int p1), .val (.int p2), .val (.int (11 : Int32)), .val (.ref (A 8)), .val (.int (p2 &&& (3 : Int32))), .unset, .unset] [])) (fun _ k => XS.icmpYes X65.here hx rfl (pc0 := 33) (pc' := 45) rfl (hb hby at_33) rfl (feq hc3370).2 (by decide) (by decide) k) ?_
        refine own_go (B := T65.setTop (mkF m 46 #[.val (.int p0), .val (.int p1), .val (.int p2), .val (.int (11 : Int32)), .val (.ref (A 8)), .val (.int (p2 &&& (3 : Int32))), .unset, .unset] [(.int p1)])) (fun _ k => XS.iloadN X65.here hx rfl (hb hby at_45) rfl k) ?_
        refine own_go (B := T65.setTop (mkF m 47 #[.val (.int p0), .val (.int p1), .val (.int p2), .val (.int (11 : Int32)), .val (.ref (A 8)), .val (.int (p2 &&& (3 : Int32))), .unset, .unset] [(.int (3 : Int32)), (.int p1)])) (fun _ k => XT.iconstV X65.here hx rfl (3 : Int32) (hb hby at_46) rfl k) ?_
        refine own_go (B := T65.setTop (mkF m 48 #[.val (.int p0), .val (.int p1), .val (.int p2), .val (.int (11 : Int32)), .val (.ref (A 8)), .val (.int (p2 &&& (3 : Int32))), .unset, .unset] [(.int (p1 &&& (3 : Int32)))])) (fun _ k => XS.iand X65.here hx rfl (hb hby at_47) rfl k) ?_
        refine own_go (B := T65.setTop (mkF m 50 #[.val (.int p0), .val (.int p1), .val (.int p2), .val (.int (11 : Int32)), .val (.ref (A 8)), .val (.int (p2 &&& (3 : Int32))), .val (.int (p1 &&& (3 : Int32))), .unset] [])) (fun _ k => XS.istore X65.here hx rfl (hb hby at_48) rfl (l' := #[.val (.int p0), .val (.int p1), .val (.int p2), .val (.int (11 : Int32)), .val (.ref (A 8)), .val (.int (p2 &&& (3 : Int32))), .val (.int (p1 &&& (3 : Int32))), .unset]) rfl k) ?_
        exact tail _
  · refine own_go (B := s₁.setTop (mkF m 9 #[.val (.int p0), .val (.int p1), .val (.int p2), .val (.int (12 : Int32)), .unset, .unset, .unset, .unset] [(.int (12 : Int32))])) (fun _ k => XS.iloadN X0.here hx rfl (hb hby at_8) rfl k) ?_
    obtain ⟨_, _, ⟨T71, L71, k71, n71⟩, -, X71, ⟨Lc71, hQ71, l71, y71, z71⟩, st71⟩ := Jvm.LawKit.callS X0 hx (y := (⟨"com/example/ferrybus/ferrybus/codec/PacketTypeAllowsPinLaw", "pick", "(I)Lcom/example/ferrybus/ferrybus/codec/PacketType;"⟩ : MethodName)) hown (mvT hZ (hw _ (List.mem_of_getElem? (i := 1) rfl))) (mvT hZ (hw _ (List.mem_of_getElem? (i := 2) rfl))) (mvT hZ (hw _ (List.mem_of_getElem? (i := 3) rfl))) (mvT hZ (hw _ (List.mem_of_getElem? (i := 4) rfl))) (by decide) (own_back (W := 0) (rm1_12 l Z a0 hw []  A hW h0 x0 ) hZ (hw _ (List.mem_of_getElem? (i := 4) rfl)) (hw _ (List.mem_of_getElem? (i := 3) rfl)) (by decide) (by decide)) (g := (mkF m 9 #[.val (.int p0), .val (.int p1), .val (.int p2), .val (.int (12 : Int32)), .unset, .unset, .unset, .unset] [(.int (12 : Int32))])) rfl (by rw [hml]; rfl) (argsL := [(.int (12 : Int32))]) (rest := []) (lenOf pd_0 rfl) rfl (by show 2 * 0 + _ ≤ _; exact Nat.le_of_eq rfl) (hb hby at_9) (fun _ _ => ⟨rfl, e0, (by decide : 0 + 0 ≤ _), (by decide : 0 + 0 ≤ _)⟩)
    dsimp only [Pt.U, Pt.locs, Pt.cells, Pt.slots] at X71 l71 y71 z71 st71 hQ71
    subst l71 y71 z71
    obtain ⟨rfl, N71q, e71⟩ := hQ71
    have N71 := Fr.app N0 N71q
    refine own_go (B := T71.setTop (mkF m 12 #[.val (.int p0), .val (.int p1), .val (.int p2), .val (.int (12 : Int32)), .unset, .unset, .unset, .unset] [(.ref (A 14))])) st71 ?_
    refine own_go (B := T71.setTop (mkF m 14 #[.val (.int p0), .val (.int p1), .val (.int p2), .val (.int (12 : Int32)), .val (.ref (A 14)), .unset, .unset, .unset] [])) (fun _ k => XS.astore X71.here hx rfl (hb hby at_12) rfl rfl (l' := #[.val (.int p0), .val (.int p1), .val (.int p2), .val (.int (12 : Int32)), .val (.ref (A 14)), .unset, .unset, .unset]) rfl k) ?_
    refine own_go (B := T71.setTop (mkF m 15 #[.val (.int p0), .val (.int p1), .val (.int p2), .val (.int (12 : Int32)), .val (.ref (A 14)), .unset, .unset, .unset] [(.int p2)])) (fun _ k => XS.iloadN X71.here hx rfl (hb hby at_14) rfl k) ?_
    refine own_go (B := T71.setTop (mkF m 16 #[.val (.int p0), .val (.int p1), .val (.int p2), .val (.int (12 : Int32)), .val (.ref (A 14)), .unset, .unset, .unset] [(.int (3 : Int32)), (.int p2)])) (fun _ k => XT.iconstV X71.here hx rfl (3 : Int32) (hb hby at_15) rfl k) ?_
    refine own_go (B := T71.setTop (mkF m 17 #[.val (.int p0), .val (.int p1), .val (.int p2), .val (.int (12 : Int32)), .val (.ref (A 14)), .unset, .unset, .unset] [(.int (p2 &&& (3 : Int32)))])) (fun _ k => XS.iand X71.here hx rfl (hb hby at_16) rfl k) ?_
    refine own_go (B := T71.setTop (mkF m 19 #[.val (.int p0), .val (.int p1), .val (.int p2), .val (.int (12 : Int32)), .val (.ref (A 14)), .val (.int (p2 &&& (3 : Int32))), .unset, .unset] [])) (fun _ k => XS.istore X71.here hx rfl (hb hby at_17) rfl (l' := #[.val (.int p0), .val (.int p1), .val (.int p2), .val (.int (12 : Int32)), .val (.ref (A 14)), .val (.int (p2 &&& (3 : Int32))), .unset, .unset]) rfl k) ?_
    have tail : ∀ fl : Int32, own_G p.tables e below s (fun v_ h_ L_ => v_ = some (.int (1 : Int32)) ∧ Fr Z.heap.size L_) room_1.cells room_1.slots (T71.setTop (mkF m 50 #[.val (.int p0), .val (.int p1), .val (.int p2), .val (.int (12 : Int32)), .val (.ref (A 14)), .val (.int (p2 &&& (3 : Int32))), .val (.int fl), .unset] [])) := by
      intro fl
      refine own_go (B := T71.setTop (mkF m 51 #[.val (.int p0), .val (.int p1), .val (.int p2), .val (.int (12 : Int32)), .val (.ref (A 14)), .val (.int (p2 &&& (3 : Int32))), .val (.int fl), .unset] [(.int (12 : Int32))])) (fun _ k => XS.iloadN X71.here hx rfl (hb hby at_50) rfl k) ?_
      refine own_go (B := T71.setTop (mkF m 52 #[.val (.int p0), .val (.int p1), .val (.int p2), .val (.int (12 : Int32)), .val (.ref (A 14)), .val (.int (p2 &&& (3 : Int32))), .val (.int fl), .unset] [(.int (2 : Int32)), (.int (12 : Int32))])) (fun _ k => XT.iconstV X71.here hx rfl (2 : Int32) (hb hby at_51) rfl k) ?_
      refine own_go (B := T71.setTop (mkF m 61 #[.val (.int p0), .val (.int p1), .val (.int p2), .val (.int (12 : Int32)), .val (.ref (A 14)), .val (.int (p2 &&& (3 : Int32))), .val (.int fl), .unset] [])) (fun _ k => XS.icmpYes X71.here hx rfl (pc0 := 52) (pc' := 61) rfl (hb hby at_52) rfl (by decide) (by decide) (by decide) k) ?_
      refine own_go (B := T71.setTop (mkF m 62 #[.val (.int p0), .val (.int p1), .val (.int p2), .val (.int (12 : Int32)), .val (.ref (A 14)), .val (.int (p2 &&& (3 : Int32))), .val (.int fl), .unset] [(.int (12 : Int32))])) (fun _ k => XS.iloadN X71.here hx rfl (hb hby at_61) rfl k) ?_
      refine own_go (B := T71.setTop (mkF m 63 #[.val (.int p0), .val (.int p1), .val (.int p2), .val (.int (12 : Int32)), .val (.ref (A 14)), .val (.int (p2 &&& (3 : Int32))), .val (.int fl), .unset] [(.int (5 : Int32)), (.int (12 : Int32))])) (fun _ k => XT.iconstV X71.here hx rfl (5 : Int32) (hb hby at_62) rfl k) ?_
      refine own_go (B := T71.setTop (mkF m 66 #[.val (.int p0), .val (.int p1), .val (.int p2), .val (.int (12 : Int32)), .val (.ref (A 14)), .val (.int (p2 &&& (3 : Int32))), .val (.int fl), .unset] [])) (fun _ k => XS.icmpNo X71.here hx rfl (hb hby at_63) rfl (by decide) k) ?_
      refine own_go (B := T71.setTop (mkF m 67 #[.val (.int p0), .val (.int p1), .val (.int p2), .val (.int (12 : Int32)), .val (.ref (A 14)), .val (.int (p2 &&& (3 : Int32))), .val (.int fl), .unset] [(.int (12 : Int32))])) (fun _ k => XS.iloadN X71.here hx rfl (hb hby at_66) rfl k) ?_
      refine own_go (B := T71.setTop (mkF m 69 #[.val (.int p0), .val (.int p1), .val (.int p2), .val (.int (12 : Int32)), .val (.ref (A 14)), .val (.int (p2 &&& (3 : Int32))), .val (.int fl), .unset] [(.int (7 : Int32)), (.int (12 : Int32))])) (fun _ k => XT.bipushV X71.here hx rfl (7 : Int32) (hb hby at_67) (by decide) k) ?_
      refine own_go (B := T71.setTop (mkF m 72 #[.val (.int p0), .val (.int p1), .val (.int p2), .val (.int (12 : Int32)), .val (.ref (A 14)), .val (.int (p2 &&& (3 : Int32))), .val (.int fl), .unset] [])) (fun _ k => XS.icmpNo X71.here hx rfl (hb hby at_69) rfl (by decide) k) ?_
      refine own_go (B := T71.setTop (mkF m 73 #[.val (.int p0), .val (.int p1), .val (.int p2), .val (.int (12 : Int32)), .val (.ref (A 14)), .val (.int (p2 &&& (3 : Int32))), .val (.int fl), .unset] [(.int (12 : Int32))])) (fun _ k => XS.iloadN X71.here hx rfl (hb hby at_72) rfl k) ?_
      refine own_go (B := T71.setTop (mkF m 75 #[.val (.int p0), .val (.int p1), .val (.int p2), .val (.int (12 : Int32)), .val (.ref (A 14)), .val (.int (p2 &&& (3 : Int32))), .val (.int fl), .unset] [(.int (9 : Int32)), (.int (12 : Int32))])) (fun _ k => XT.bipushV X71.here hx rfl (9 : Int32) (hb hby at_73) (by decide) k) ?_
      refine own_go (B := T71.setTop (mkF m 94 #[.val (.int p0), .val (.int p1), .val (.int p2), .val (.int (12 : Int32)), .val (.ref (A 14)), .val (.int (p2 &&& (3 : Int32))), .val (.int fl), .unset] [])) (fun _ k => XS.icmpYes X71.here hx rfl (pc0 := 75) (pc' := 94) rfl (hb hby at_75) rfl (by decide) (by decide) (by decide) k) ?_
      refine own_go (B := T71.setTop (mkF m 96 #[.val (.int p0), .val (.int p1), .val (.int p2), .val (.int (12 : Int32)), .val (.ref (A 14)), .val (.int (p2 &&& (3 : Int32))), .val (.int fl), .unset] [(.int fl)])) (fun _ k => XS.iload X71.here hx rfl (hb hby at_94) rfl k) ?_
      by_cases hc9672 : fl = (0 : Int32)
      · refine own_go (B := T71.setTop (mkF m 99 #[.val (.int p0), .val (.int p1), .val (.int p2), .val (.int (12 : Int32)), .val (.ref (A 14)), .val (.int (p2 &&& (3 : Int32))), .val (.int fl), .unset] [])) (fun _ k => XS.ifNo X71.here hx rfl (hb hby at_96) rfl ((if0 _ _).trans (teq hc9672).2) k) ?_
        refine own_go (B := T71.setTop (mkF m 100 #[.val (.int p0), .val (.int p1), .val (.int p2), .val (.int (12 : Int32)), .val (.ref (A 14)), .val (.int (p2 &&& (3 : Int32))), .val (.int fl), .unset] [(.int (1 : Int32))])) (fun _ k => XT.iconstV X71.here hx rfl (1 : Int32) (hb hby at_99) rfl k) ?_
        refine own_go (B := T71.setTop (mkF m 104 #[.val (.int p0), .val (.int p1), .val (.int p2), .val (.int (12 : Int32)), .val (.ref (A 14)), .val (.int (p2 &&& (3 : Int32))), .val (.int fl), .unset] [(.int (1 : Int32))])) (fun _ k => XS.goto X71.here hx rfl (pc0 := 100) (pc' := 104) rfl (hb hby at_100) (by decide) (by decide) k) ?_
        refine own_go (B := T71.setTop (mkF m 106 #[.val (.int p0), .val (.int p1), .val (.int p2), .val (.int (12 : Int32)), .val (.ref (A 14)), .val (.int (p2 &&& (3 : Int32))), .val (.int fl), .val (.int (1 : Int32))] [])) (fun _ k => XS.istore X71.here hx rfl (hb hby at_104) rfl (l' := #[.val (.int p0), .val (.int p1), .val (.int p2), .val (.int (12 : Int32)), .val (.ref (A 14)), .val (.int (p2 &&& (3 : Int32))), .val (.int fl), .val (.int (1 : Int32))]) rfl k) ?_
        refine own_go (B := T71.setTop (mkF m 108 #[.val (.int p0), .val (.int p1), .val (.int p2), .val (.int (12 : Int32)), .val (.ref (A 14)), .val (.int (p2 &&& (3 : Int32))), .val (.int fl), .val (.int (1 : Int32))] [(.ref (A 14))])) (fun _ k => XS.aload X71.here hx rfl (hb hby at_106) rfl rfl k) ?_
        refine own_go (B := T71.setTop (mkF m 110 #[.val (.int p0), .val (.int p1), .val (.int p2), .val (.int (12 : Int32)), .val (.ref (A 14)), .val (.int (p2 &&& (3 : Int32))), .val (.int fl), .val (.int (1 : Int32))] [(.int fl), (.ref (A 14))])) (fun _ k => XS.iload X71.here hx rfl (hb hby at_108) rfl k) ?_
        obtain ⟨cq73, kq73, q73a, q73b, q73c⟩ := isOf hZ e71 (E_PINGRESP.ext x0)
        obtain ⟨_, _, ⟨T73, L73, k73, n73⟩, -, X73, ⟨Lc73, hQ73, l73, y73, z73⟩, st73⟩ := X71.virtualBack hx (y := (⟨"com/example/ferrybus/ferrybus/codec/PacketType", "allows", "(I)Z"⟩ : MethodName)) (z := (⟨"com/example/ferrybus/ferrybus/codec/PacketType", "allows", "(I)Z"⟩ : MethodName)) hown (mvT hZ (hw _ (List.mem_of_getElem? (i := 8) rfl))) (mvT hZ (hw _ (List.mem_of_getElem? (i := 9) rfl))) (notFace_of_selects (args := #[]) (mvT hZ (hw _ (List.mem_of_getElem? (i := 11) rfl)))) (mvT hZ (hw _ (List.mem_of_getElem? (i := 11) rfl))) (mvT hZ (hw _ (List.mem_of_getElem? (i := 10) rfl))) (by decide) (own_back (W := 0) (rm2_23 l Z a0 hw [] fl A hW h0 x0 hc9672.symm) hZ (hw _ (List.mem_of_getElem? (i := 12) rfl)) (hw _ (List.mem_of_getElem? (i := 6) rfl)) (by decide) (by decide)) q73a q73c (g := (mkF m 110 #[.val (.int p0), .val (.int p1), .val (.int p2), .val (.int (12 : Int32)), .val (.ref (A 14)), .val (.int (p2 &&& (3 : Int32))), .val (.int fl), .val (.int (1 : Int32))] [(.int fl), (.ref (A 14))])) rfl (by rw [hml]; rfl) (Steps.refl _) (argsL := [(.int fl)]) (rest := []) (lenOf pd_1 rfl) rfl (by show 2 * 0 + _ ≤ _; exact Nat.le_of_eq rfl) (hb hby at_110) (fun _ _ => ⟨rfl, e71, (by decide : 0 + 0 ≤ _), (by decide : 0 + 0 ≤ _)⟩)
        dsimp only [Pt.U, Pt.locs, Pt.cells, Pt.slots] at X73 l73 y73 z73 st73 hQ73
        subst l73 y73 z73
        obtain ⟨rfl, N73q, e73⟩ := hQ73
        have N73 := Fr.app N71 N73q
        refine own_go (B := T73.setTop (mkF m 113 #[.val (.int p0), .val (.int p1), .val (.int p2), .val (.int (12 : Int32)), .val (.ref (A 14)), .val (.int (p2 &&& (3 : Int32))), .val (.int fl), .val (.int (1 : Int32))] [(.int (1 : Int32))])) (fun _ k => st73.trans k) ?_
        refine own_go (B := T73.setTop (mkF m 115 #[.val (.int p0), .val (.int p1), .val (.int p2), .val (.int (12 : Int32)), .val (.ref (A 14)), .val (.int (p2 &&& (3 : Int32))), .val (.int fl), .val (.int (1 : Int32))] [(.int (1 : Int32)), (.int (1 : Int32))])) (fun _ k => XS.iload X73.here hx rfl (hb hby at_113) rfl k) ?_
        refine own_go (B := T73.setTop (mkF m 118 #[.val (.int p0), .val (.int p1), .val (.int p2), .val (.int (12 : Int32)), .val (.ref (A 14)), .val (.int (p2 &&& (3 : Int32))), .val (.int fl), .val (.int (1 : Int32))] [])) (fun _ k => XS.icmpNo X73.here hx rfl (hb hby at_115) rfl (by decide) k) ?_
        refine own_go (B := T73.setTop (mkF m 119 #[.val (.int p0), .val (.int p1), .val (.int p2), .val (.int (12 : Int32)), .val (.ref (A 14)), .val (.int (p2 &&& (3 : Int32))), .val (.int fl), .val (.int (1 : Int32))] [(.int (1 : Int32))])) (fun _ k => XT.iconstV X73.here hx rfl (1 : Int32) (hb hby at_118) rfl k) ?_
        refine own_go (B := T73.setTop (mkF m 123 #[.val (.int p0), .val (.int p1), .val (.int p2), .val (.int (12 : Int32)), .val (.ref (A 14)), .val (.int (p2 &&& (3 : Int32))), .val (.int fl), .val (.int (1 : Int32))] [(.int (1 : Int32))])) (fun _ k => XS.goto X73.here hx rfl (pc0 := 119) (pc' := 123) rfl (hb hby at_119) (by decide) (by decide) k) ?_
        exact own_ret X73 hx (t := .boolean) hrt rfl (Or.inl ⟨rfl, by simp, _, rfl⟩) (hb hby at_123) hlk ⟨rfl, N73⟩ (by decide) (by decide)
      · refine own_go (B := T71.setTop (mkF m 103 #[.val (.int p0), .val (.int p1), .val (.int p2), .val (.int (12 : Int32)), .val (.ref (A 14)), .val (.int (p2 &&& (3 : Int32))), .val (.int fl), .unset] [])) (fun _ k => XS.ifYes X71.here hx rfl (pc0 := 96) (pc' := 103) rfl (hb hby at_96) rfl ((if0 _ _).trans (feq hc9672).2) (by decide) (by decide) k) ?_
        refine own_go (B := T71.setTop (mkF m 104 #[.val (.int p0), .val (.int p1), .val (.int p2), .val (.int (12 : Int32)), .val (.ref (A 14)), .val (.int (p2 &&& (3 : Int32))), .val (.int fl), .unset] [(.int (0 : Int32))])) (fun _ k => XT.iconstV X71.here hx rfl (0 : Int32) (hb hby at_103) rfl k) ?_
        refine own_go (B := T71.setTop (mkF m 106 #[.val (.int p0), .val (.int p1), .val (.int p2), .val (.int (12 : Int32)), .val (.ref (A 14)), .val (.int (p2 &&& (3 : Int32))), .val (.int fl), .val (.int (0 : Int32))] [])) (fun _ k => XS.istore X71.here hx rfl (hb hby at_104) rfl (l' := #[.val (.int p0), .val (.int p1), .val (.int p2), .val (.int (12 : Int32)), .val (.ref (A 14)), .val (.int (p2 &&& (3 : Int32))), .val (.int fl), .val (.int (0 : Int32))]) rfl k) ?_
        refine own_go (B := T71.setTop (mkF m 108 #[.val (.int p0), .val (.int p1), .val (.int p2), .val (.int (12 : Int32)), .val (.ref (A 14)), .val (.int (p2 &&& (3 : Int32))), .val (.int fl), .val (.int (0 : Int32))] [(.ref (A 14))])) (fun _ k => XS.aload X71.here hx rfl (hb hby at_106) rfl rfl k) ?_
        refine own_go (B := T71.setTop (mkF m 110 #[.val (.int p0), .val (.int p1), .val (.int p2), .val (.int (12 : Int32)), .val (.ref (A 14)), .val (.int (p2 &&& (3 : Int32))), .val (.int fl), .val (.int (0 : Int32))] [(.int fl), (.ref (A 14))])) (fun _ k => XS.iload X71.here hx rfl (hb hby at_108) rfl k) ?_
        obtain ⟨cq74, kq74, q74a, q74b, q74c⟩ := isOf hZ e71 (E_PINGRESP.ext x0)
        obtain ⟨_, _, ⟨T74, L74, k74, n74⟩, -, X74, ⟨Lc74, hQ74, l74, y74, z74⟩, st74⟩ := X71.virtualBack hx (y := (⟨"com/example/ferrybus/ferrybus/codec/PacketType", "allows", "(I)Z"⟩ : MethodName)) (z := (⟨"com/example/ferrybus/ferrybus/codec/PacketType", "allows", "(I)Z"⟩ : MethodName)) hown (mvT hZ (hw _ (List.mem_of_getElem? (i := 8) rfl))) (mvT hZ (hw _ (List.mem_of_getElem? (i := 9) rfl))) (notFace_of_selects (args := #[]) (mvT hZ (hw _ (List.mem_of_getElem? (i := 11) rfl)))) (mvT hZ (hw _ (List.mem_of_getElem? (i := 11) rfl))) (mvT hZ (hw _ (List.mem_of_getElem? (i := 10) rfl))) (by decide) (own_back (W := 0) (rm2_24 l Z a0 hw [] fl A hW h0 x0 (fun q => hc9672 q.symm)) hZ (hw _ (List.mem_of_getElem? (i := 12) rfl)) (hw _ (List.mem_of_getElem? (i := 6) rfl)) (by decide) (by decide)) q74a q74c (g := (mkF m 110 #[.val (.int p0), .val (.int p1), .val (.int p2), .val (.int (12 : Int32)), .val (.ref (A 14)), .val (.int (p2 &&& (3 : Int32))), .val (.int fl), .val (.int (0 : Int32))] [(.int fl), (.ref (A 14))])) rfl (by rw [hml]; rfl) (Steps.refl _) (argsL := [(.int fl)]) (rest := []) (lenOf pd_1 rfl) rfl (by show 2 * 0 + _ ≤ _; exact Nat.le_of_eq rfl) (hb hby at_110) (fun _ _ => ⟨rfl, e71, (by decide : 0 + 0 ≤ _), (by decide : 0 + 0 ≤ _)⟩)
        dsimp only [Pt.U, Pt.locs, Pt.cells, Pt.slots] at X74 l74 y74 z74 st74 hQ74
        subst l74 y74 z74
        obtain ⟨rfl, N74q, e74⟩ := hQ74
        have N74 := Fr.app N71 N74q
        refine own_go (B := T74.setTop (mkF m 113 #[.val (.int p0), .val (.int p1), .val (.int p2), .val (.int (12 : Int32)), .val (.ref (A 14)), .val (.int (p2 &&& (3 : Int32))), .val (.int fl), .val (.int (0 : Int32))] [(.int (0 : Int32))])) (fun _ k => st74.trans k) ?_
        refine own_go (B := T74.setTop (mkF m 115 #[.val (.int p0), .val (.int p1), .val (.int p2), .val (.int (12 : Int32)), .val (.ref (A 14)), .val (.int (p2 &&& (3 : Int32))), .val (.int fl), .val (.int (0 : Int32))] [(.int (0 : Int32)), (.int (0 : Int32))])) (fun _ k => XS.iload X74.here hx rfl (hb hby at_113) rfl k) ?_
        refine own_go (B := T74.setTop (mkF m 118 #[.val (.int p0), .val (.int p1), .val (.int p2), .val (.int (12 : Int32)), .val (.ref (A 14)), .val (.int (p2 &&& (3 : Int32))), .val (.int fl), .val (.int (0 : Int32))] [])) (fun _ k => XS.icmpNo X74.here hx rfl (hb hby at_115) rfl (by decide) k) ?_
        refine own_go (B := T74.setTop (mkF m 119 #[.val (.int p0), .val (.int p1), .val (.int p2), .val (.int (12 : Int32)), .val (.ref (A 14)), .val (.int (p2 &&& (3 : Int32))), .val (.int fl), .val (.int (0 : Int32))] [(.int (1 : Int32))])) (fun _ k => XT.iconstV X74.here hx rfl (1 : Int32) (hb hby at_118) rfl k) ?_
        refine own_go (B := T74.setTop (mkF m 123 #[.val (.int p0), .val (.int p1), .val (.int p2), .val (.int (12 : Int32)), .val (.ref (A 14)), .val (.int (p2 &&& (3 : Int32))), .val (.int fl), .val (.int (0 : Int32))] [(.int (1 : Int32))])) (fun _ k => XS.goto X74.here hx rfl (pc0 := 119) (pc' := 123) rfl (hb hby at_119) (by decide) (by decide) k) ?_
        exact own_ret X74 hx (t := .boolean) hrt rfl (Or.inl ⟨rfl, by simp, _, rfl⟩) (hb hby at_123) hlk ⟨rfl, N74⟩ (by decide) (by decide)
    refine own_go (B := T71.setTop (mkF m 21 #[.val (.int p0), .val (.int p1), .val (.int p2), .val (.int (12 : Int32)), .val (.ref (A 14)), .val (.int (p2 &&& (3 : Int32))), .unset, .unset] [(.int (p2 &&& (3 : Int32)))])) (fun _ k => XS.iload X71.here hx rfl (hb hby at_19) rfl k) ?_
    by_cases hc2175 : (p2 &&& (3 : Int32)) = (0 : Int32)
    · refine own_go (B := T71.setTop (mkF m 24 #[.val (.int p0), .val (.int p1), .val (.int p2), .val (.int (12 : Int32)), .val (.ref (A 14)), .val (.int (p2 &&& (3 : Int32))), .unset, .unset] [])) (fun _ k => XS.ifNo X71.here hx rfl (hb hby at_21) rfl ((if0 _ _).trans (teq hc2175).2) k) ?_
      refine own_go (B := T71.setTop (mkF m 25 #[.val (.int p0), .val (.int p1), .val (.int p2), .val (.int (12 : Int32)), .val (.ref (A 14)), .val (.int (p2 &&& (3 : Int32))), .unset, .unset] [(.int p1)])) (fun _ k => XS.iloadN X71.here hx rfl (hb hby at_24) rfl k) ?_
      refine own_go (B := T71.setTop (mkF m 27 #[.val (.int p0), .val (.int p1), .val (.int p2), .val (.int (12 : Int32)), .val (.ref (A 14)), .val (.int (p2 &&& (3 : Int32))), .val (.int p1), .unset] [])) (fun _ k => XS.istore X71.here hx rfl (hb hby at_25) rfl (l' := #[.val (.int p0), .val (.int p1), .val (.int p2), .val (.int (12 : Int32)), .val (.ref (A 14)), .val (.int (p2 &&& (3 : Int32))), .val (.int p1), .unset]) rfl k) ?_
      refine own_go (B := T71.setTop (mkF m 50 #[.val (.int p0), .val (.int p1), .val (.int p2), .val (.int (12 : Int32)), .val (.ref (A 14)), .val (.int (p2 &&& (3 : Int32))), .val (.int p1), .unset] [])) (fun _ k => XS.goto X71.here hx rfl (pc0 := 27) (pc' := 50) rfl (hb hby at_27) (by decide) (by decide) k) ?_
      exact tail _
    · refine own_go (B := T71.setTop (mkF m 30 #[.val (.int p0), .val (.int p1), .val (.int p2), .val (.int (12 : Int32)), .val (.ref (A 14)), .val (.int (p2 &&& (3 : Int32))), .unset, .unset] [])) (fun _ k => XS.ifYes X71.here hx rfl (pc0 := 21) (pc' := 30) rfl (hb hby at_21) rfl ((if0 _ _).trans (feq hc2175).2) (by decide) (by decide) k) ?_
      refine own_go (B := T71.setTop (mkF m 32 #[.val (.int p0), .val (.int p1), .val (.int p2), .val (.int (12 : Int32)), .val (.ref (A 14)), .val (.int (p2 &&& (3 : Int32))), .unset, .unset] [(.int (p2 &&& (3 : Int32)))])) (fun _ k => XS.iload X71.here hx rfl (hb hby at_30) rfl k) ?_
      refine own_go (B := T71.setTop (mkF m 33 #[.val (.int p0), .val (.int p1), .val (.int p2), .val (.int (12 : Int32)), .val (.ref (A 14)), .val (.int (p2 &&& (3 : Int32))), .unset, .unset] [(.int (1 : Int32)), (.int (p2 &&& (3 : Int32)))])) (fun _ k => XT.iconstV X71.here hx rfl (1 : Int32) (hb hby at_32) rfl k) ?_
      by_cases hc3376 : (p2 &&& (3 : Int32)) = (1 : Int32)
      · refine own_go (B := T71.setTop (mkF m 36 #[.val (.int p0), .val (.int p1), .val (.int p2), .val (.int (12 : Int32)), .val (.ref (A 14)), .val (.int (p2 &&& (3 : Int32))), .unset, .unset] [])) (fun _ k => XS.icmpNo X71.here hx rfl (hb hby at_33) rfl (teq hc3376).2 k) ?_
        refine own_go (B := T71.setTop (mkF m 37 #[.val (.int p0), .val (.int p1), .val (.int p2), .val (.int (12 : Int32)), .val (.ref (A 14)), .val (.int (p2 &&& (3 : Int32))), .unset, .unset] [(.int p1)])) (fun _ k => XS.iloadN X71.here hx rfl (hb hby at_36) rfl k) ?_
        refine own_go (B := T71.setTop (mkF m 39 #[.val (.int p0), .val (.int p1), .val (.int p2), .val (.int (12 : Int32)), .val (.ref (A 14)), .val (.int (p2 &&& (3 : Int32))), .unset, .unset] [(.int (15 : Int32)), (.int p1)])) (fun _ k => XT.bipushV X71.here hx rfl (15 : Int32) (hb hby at_37) (by decide) k) ?_
        refine own_go (B := T71.setTop (mkF m 40 #[.val (.int p0), .val (.int p1), .val (.int p2), .val (.int (12 : Int32)), .val (.ref (A 14)), .val (.int (p2 &&& (3 : Int32))), .unset, .unset] [(.int (p1 &&& (15 : Int32)))])) (fun _ k => XS.iand X71.here hx rfl (hb hby at_39) rfl k) ?_
        refine own_go (B := T71.setTop (mkF m 42 #[.val (.int p0), .val (.int p1), .val (.int p2), .val (.int (12 : Int32)), .val (.ref (A 14)), .val (.int (p2 &&& (3 : Int32))), .val (.int (p1 &&& (15 : Int32))), .unset] [])) (fun _ k => XS.istore X71.here hx rfl (hb hby at_40) rfl (l' := #[.val (.int p0), .val (.int p1), .val (.int p2), .val (.int (12 : Int32)), .val (.ref (A 14)), .val (.int (p2 &&& (3 : Int32))), .val (.int (p1 &&& (15 : Int32))), .unset]) rfl k) ?_
        refine own_go (B := T71.setTop (mkF m 50 #[.val (.int p0), .val (.int p1), .val (.int p2), .val (.int (12 : Int32)), .val (.ref (A 14)), .val (.int (p2 &&& (3 : Int32))), .val (.int (p1 &&& (15 : Int32))), .unset] [])) (fun _ k => XS.goto X71.here hx rfl (pc0 := 42) (pc' := 50) rfl (hb hby at_42) (by decide) (by decide) k) ?_
        exact tail _
      · refine own_go (B := T71.setTop (mkF m 45 #[.val (.int p0), .val (.int p1), .val (.int p2), .val (.int (12 : Int32)), .val (.ref (A 14)), .val (.int (p2 &&& (3 : Int32))), .unset, .unset] [])) (fun _ k => XS.icmpYes X71.here hx rfl (pc0 := 33) (pc' := 45) rfl (hb hby at_33) rfl (feq hc3376).2 (by decide) (by decide) k) ?_
        refine own_go (B := T71.setTop (mkF m 46 #[.val (.int p0), .val (.int p1), .val (.int p2), .val (.int (12 : Int32)), .val (.ref (A 14)), .val (.int (p2 &&& (3 : Int32))), .unset, .unset] [(.int p1)])) (fun _ k => XS.iloadN X71.here hx rfl (hb hby at_45) rfl k) ?_
        refine own_go (B := T71.setTop (mkF m 47 #[.val (.int p0), .val (.int p1), .val (.int p2), .val (.int (12 : Int32)), .val (.ref (A 14)), .val (.int (p2 &&& (3 : Int32))), .unset, .unset] [(.int (3 : Int32)), (.int p1)])) (fun _ k => XT.iconstV X71.here hx rfl (3 : Int32) (hb hby at_46) rfl k) ?_
        refine own_go (B := T71.setTop (mkF m 48 #[.val (.int p0), .val (.int p1), .val (.int p2), .val (.int (12 : Int32)), .val (.ref (A 14)), .val (.int (p2 &&& (3 : Int32))), .unset, .unset] [(.int (p1 &&& (3 : Int32)))])) (fun _ k => XS.iand X71.here hx rfl (hb hby at_47) rfl k) ?_
        refine own_go (B := T71.setTop (mkF m 50 #[.val (.int p0), .val (.int p1), .val (.int p2), .val (.int (12 : Int32)), .val (.ref (A 14)), .val (.int (p2 &&& (3 : Int32))), .val (.int (p1 &&& (3 : Int32))), .unset] [])) (fun _ k => XS.istore X71.here hx rfl (hb hby at_48) rfl (l' := #[.val (.int p0), .val (.int p1), .val (.int p2), .val (.int (12 : Int32)), .val (.ref (A 14)), .val (.int (p2 &&& (3 : Int32))), .val (.int (p1 &&& (3 : Int32))), .unset]) rfl k) ?_
        exact tail _
  · refine own_go (B := s₁.setTop (mkF m 9 #[.val (.int p0), .val (.int p1), .val (.int p2), .val (.int (13 : Int32)), .unset, .unset, .unset, .unset] [(.int (13 : Int32))])) (fun _ k => XS.iloadN X0.here hx rfl (hb hby at_8) rfl k) ?_
    obtain ⟨_, _, ⟨T77, L77, k77, n77⟩, -, X77, ⟨Lc77, hQ77, l77, y77, z77⟩, st77⟩ := Jvm.LawKit.callS X0 hx (y := (⟨"com/example/ferrybus/ferrybus/codec/PacketTypeAllowsPinLaw", "pick", "(I)Lcom/example/ferrybus/ferrybus/codec/PacketType;"⟩ : MethodName)) hown (mvT hZ (hw _ (List.mem_of_getElem? (i := 1) rfl))) (mvT hZ (hw _ (List.mem_of_getElem? (i := 2) rfl))) (mvT hZ (hw _ (List.mem_of_getElem? (i := 3) rfl))) (mvT hZ (hw _ (List.mem_of_getElem? (i := 4) rfl))) (by decide) (own_back (W := 0) (rm1_13 l Z a0 hw []  A hW h0 x0 ) hZ (hw _ (List.mem_of_getElem? (i := 4) rfl)) (hw _ (List.mem_of_getElem? (i := 3) rfl)) (by decide) (by decide)) (g := (mkF m 9 #[.val (.int p0), .val (.int p1), .val (.int p2), .val (.int (13 : Int32)), .unset, .unset, .unset, .unset] [(.int (13 : Int32))])) rfl (by rw [hml]; rfl) (argsL := [(.int (13 : Int32))]) (rest := []) (lenOf pd_0 rfl) rfl (by show 2 * 0 + _ ≤ _; exact Nat.le_of_eq rfl) (hb hby at_9) (fun _ _ => ⟨rfl, e0, (by decide : 0 + 0 ≤ _), (by decide : 0 + 0 ≤ _)⟩)
    dsimp only [Pt.U, Pt.locs, Pt.cells, Pt.slots] at X77 l77 y77 z77 st77 hQ77
    subst l77 y77 z77
    obtain ⟨rfl, N77q, e77⟩ := hQ77
    have N77 := Fr.app N0 N77q
    refine own_go (B := T77.setTop (mkF m 12 #[.val (.int p0), .val (.int p1), .val (.int p2), .val (.int (13 : Int32)), .unset, .unset, .unset, .unset] [(.ref (A 13))])) st77 ?_
    refine own_go (B := T77.setTop (mkF m 14 #[.val (.int p0), .val (.int p1), .val (.int p2), .val (.int (13 : Int32)), .val (.ref (A 13)), .unset, .unset, .unset] [])) (fun _ k => XS.astore X77.here hx rfl (hb hby at_12) rfl rfl (l' := #[.val (.int p0), .val (.int p1), .val (.int p2), .val (.int (13 : Int32)), .val (.ref (A 13)), .unset, .unset, .unset]) rfl k) ?_
    refine own_go (B := T77.setTop (mkF m 15 #[.val (.int p0), .val (.int p1), .val (.int p2), .val (.int (13 : Int32)), .val (.ref (A 13)), .unset, .unset, .unset] [(.int p2)])) (fun _ k => XS.iloadN X77.here hx rfl (hb hby at_14) rfl k) ?_
    refine own_go (B := T77.setTop (mkF m 16 #[.val (.int p0), .val (.int p1), .val (.int p2), .val (.int (13 : Int32)), .val (.ref (A 13)), .unset, .unset, .unset] [(.int (3 : Int32)), (.int p2)])) (fun _ k => XT.iconstV X77.here hx rfl (3 : Int32) (hb hby at_15) rfl k) ?_
    refine own_go (B := T77.setTop (mkF m 17 #[.val (.int p0), .val (.int p1), .val (.int p2), .val (.int (13 : Int32)), .val (.ref (A 13)), .unset, .unset, .unset] [(.int (p2 &&& (3 : Int32)))])) (fun _ k => XS.iand X77.here hx rfl (hb hby at_16) rfl k) ?_
    refine own_go (B := T77.setTop (mkF m 19 #[.val (.int p0), .val (.int p1), .val (.int p2), .val (.int (13 : Int32)), .val (.ref (A 13)), .val (.int (p2 &&& (3 : Int32))), .unset, .unset] [])) (fun _ k => XS.istore X77.here hx rfl (hb hby at_17) rfl (l' := #[.val (.int p0), .val (.int p1), .val (.int p2), .val (.int (13 : Int32)), .val (.ref (A 13)), .val (.int (p2 &&& (3 : Int32))), .unset, .unset]) rfl k) ?_
    have tail : ∀ fl : Int32, own_G p.tables e below s (fun v_ h_ L_ => v_ = some (.int (1 : Int32)) ∧ Fr Z.heap.size L_) room_1.cells room_1.slots (T77.setTop (mkF m 50 #[.val (.int p0), .val (.int p1), .val (.int p2), .val (.int (13 : Int32)), .val (.ref (A 13)), .val (.int (p2 &&& (3 : Int32))), .val (.int fl), .unset] [])) := by
      intro fl
      refine own_go (B := T77.setTop (mkF m 51 #[.val (.int p0), .val (.int p1), .val (.int p2), .val (.int (13 : Int32)), .val (.ref (A 13)), .val (.int (p2 &&& (3 : Int32))), .val (.int fl), .unset] [(.int (13 : Int32))])) (fun _ k => XS.iloadN X77.here hx rfl (hb hby at_50) rfl k) ?_
      refine own_go (B := T77.setTop (mkF m 52 #[.val (.int p0), .val (.int p1), .val (.int p2), .val (.int (13 : Int32)), .val (.ref (A 13)), .val (.int (p2 &&& (3 : Int32))), .val (.int fl), .unset] [(.int (2 : Int32)), (.int (13 : Int32))])) (fun _ k => XT.iconstV X77.here hx rfl (2 : Int32) (hb hby at_51) rfl k) ?_
      refine own_go (B := T77.setTop (mkF m 61 #[.val (.int p0), .val (.int p1), .val (.int p2), .val (.int (13 : Int32)), .val (.ref (A 13)), .val (.int (p2 &&& (3 : Int32))), .val (.int fl), .unset] [])) (fun _ k => XS.icmpYes X77.here hx rfl (pc0 := 52) (pc' := 61) rfl (hb hby at_52) rfl (by decide) (by decide) (by decide) k) ?_
      refine own_go (B := T77.setTop (mkF m 62 #[.val (.int p0), .val (.int p1), .val (.int p2), .val (.int (13 : Int32)), .val (.ref (A 13)), .val (.int (p2 &&& (3 : Int32))), .val (.int fl), .unset] [(.int (13 : Int32))])) (fun _ k => XS.iloadN X77.here hx rfl (hb hby at_61) rfl k) ?_
      refine own_go (B := T77.setTop (mkF m 63 #[.val (.int p0), .val (.int p1), .val (.int p2), .val (.int (13 : Int32)), .val (.ref (A 13)), .val (.int (p2 &&& (3 : Int32))), .val (.int fl), .unset] [(.int (5 : Int32)), (.int (13 : Int32))])) (fun _ k => XT.iconstV X77.here hx rfl (5 : Int32) (hb hby at_62) rfl k) ?_
      refine own_go (B := T77.setTop (mkF m 66 #[.val (.int p0), .val (.int p1), .val (.int p2), .val (.int (13 : Int32)), .val (.ref (A 13)), .val (.int (p2 &&& (3 : Int32))), .val (.int fl), .unset] [])) (fun _ k => XS.icmpNo X77.here hx rfl (hb hby at_63) rfl (by decide) k) ?_
      refine own_go (B := T77.setTop (mkF m 67 #[.val (.int p0), .val (.int p1), .val (.int p2), .val (.int (13 : Int32)), .val (.ref (A 13)), .val (.int (p2 &&& (3 : Int32))), .val (.int fl), .unset] [(.int (13 : Int32))])) (fun _ k => XS.iloadN X77.here hx rfl (hb hby at_66) rfl k) ?_
      refine own_go (B := T77.setTop (mkF m 69 #[.val (.int p0), .val (.int p1), .val (.int p2), .val (.int (13 : Int32)), .val (.ref (A 13)), .val (.int (p2 &&& (3 : Int32))), .val (.int fl), .unset] [(.int (7 : Int32)), (.int (13 : Int32))])) (fun _ k => XT.bipushV X77.here hx rfl (7 : Int32) (hb hby at_67) (by decide) k) ?_
      refine own_go (B := T77.setTop (mkF m 72 #[.val (.int p0), .val (.int p1), .val (.int p2), .val (.int (13 : Int32)), .val (.ref (A 13)), .val (.int (p2 &&& (3 : Int32))), .val (.int fl), .unset] [])) (fun _ k => XS.icmpNo X77.here hx rfl (hb hby at_69) rfl (by decide) k) ?_
      refine own_go (B := T77.setTop (mkF m 73 #[.val (.int p0), .val (.int p1), .val (.int p2), .val (.int (13 : Int32)), .val (.ref (A 13)), .val (.int (p2 &&& (3 : Int32))), .val (.int fl), .unset] [(.int (13 : Int32))])) (fun _ k => XS.iloadN X77.here hx rfl (hb hby at_72) rfl k) ?_
      refine own_go (B := T77.setTop (mkF m 75 #[.val (.int p0), .val (.int p1), .val (.int p2), .val (.int (13 : Int32)), .val (.ref (A 13)), .val (.int (p2 &&& (3 : Int32))), .val (.int fl), .unset] [(.int (9 : Int32)), (.int (13 : Int32))])) (fun _ k => XT.bipushV X77.here hx rfl (9 : Int32) (hb hby at_73) (by decide) k) ?_
      refine own_go (B := T77.setTop (mkF m 94 #[.val (.int p0), .val (.int p1), .val (.int p2), .val (.int (13 : Int32)), .val (.ref (A 13)), .val (.int (p2 &&& (3 : Int32))), .val (.int fl), .unset] [])) (fun _ k => XS.icmpYes X77.here hx rfl (pc0 := 75) (pc' := 94) rfl (hb hby at_75) rfl (by decide) (by decide) (by decide) k) ?_
      refine own_go (B := T77.setTop (mkF m 96 #[.val (.int p0), .val (.int p1), .val (.int p2), .val (.int (13 : Int32)), .val (.ref (A 13)), .val (.int (p2 &&& (3 : Int32))), .val (.int fl), .unset] [(.int fl)])) (fun _ k => XS.iload X77.here hx rfl (hb hby at_94) rfl k) ?_
      by_cases hc9678 : fl = (0 : Int32)
      · refine own_go (B := T77.setTop (mkF m 99 #[.val (.int p0), .val (.int p1), .val (.int p2), .val (.int (13 : Int32)), .val (.ref (A 13)), .val (.int (p2 &&& (3 : Int32))), .val (.int fl), .unset] [])) (fun _ k => XS.ifNo X77.here hx rfl (hb hby at_96) rfl ((if0 _ _).trans (teq hc9678).2) k) ?_
        refine own_go (B := T77.setTop (mkF m 100 #[.val (.int p0), .val (.int p1), .val (.int p2), .val (.int (13 : Int32)), .val (.ref (A 13)), .val (.int (p2 &&& (3 : Int32))), .val (.int fl), .unset] [(.int (1 : Int32))])) (fun _ k => XT.iconstV X77.here hx rfl (1 : Int32) (hb hby at_99) rfl k) ?_
        refine own_go (B := T77.setTop (mkF m 104 #[.val (.int p0), .val (.int p1), .val (.int p2), .val (.int (13 : Int32)), .val (.ref (A 13)), .val (.int (p2 &&& (3 : Int32))), .val (.int fl), .unset] [(.int (1 : Int32))])) (fun _ k => XS.goto X77.here hx rfl (pc0 := 100) (pc' := 104) rfl (hb hby at_100) (by decide) (by decide) k) ?_
        refine own_go (B := T77.setTop (mkF m 106 #[.val (.int p0), .val (.int p1), .val (.int p2), .val (.int (13 : Int32)), .val (.ref (A 13)), .val (.int (p2 &&& (3 : Int32))), .val (.int fl), .val (.int (1 : Int32))] [])) (fun _ k => XS.istore X77.here hx rfl (hb hby at_104) rfl (l' := #[.val (.int p0), .val (.int p1), .val (.int p2), .val (.int (13 : Int32)), .val (.ref (A 13)), .val (.int (p2 &&& (3 : Int32))), .val (.int fl), .val (.int (1 : Int32))]) rfl k) ?_
        refine own_go (B := T77.setTop (mkF m 108 #[.val (.int p0), .val (.int p1), .val (.int p2), .val (.int (13 : Int32)), .val (.ref (A 13)), .val (.int (p2 &&& (3 : Int32))), .val (.int fl), .val (.int (1 : Int32))] [(.ref (A 13))])) (fun _ k => XS.aload X77.here hx rfl (hb hby at_106) rfl rfl k) ?_
        refine own_go (B := T77.setTop (mkF m 110 #[.val (.int p0), .val (.int p1), .val (.int p2), .val (.int (13 : Int32)), .val (.ref (A 13)), .val (.int (p2 &&& (3 : Int32))), .val (.int fl), .val (.int (1 : Int32))] [(.int fl), (.ref (A 13))])) (fun _ k => XS.iload X77.here hx rfl (hb hby at_108) rfl k) ?_
        obtain ⟨cq79, kq79, q79a, q79b, q79c⟩ := isOf hZ e77 (E_DISCONNECT.ext x0)
        obtain ⟨_, _, ⟨T79, L79, k79, n79⟩, -, X79, ⟨Lc79, hQ79, l79, y79, z79⟩, st79⟩ := X77.virtualBack hx (y := (⟨"com/example/ferrybus/ferrybus/codec/PacketType", "allows", "(I)Z"⟩ : MethodName)) (z := (⟨"com/example/ferrybus/ferrybus/codec/PacketType", "allows", "(I)Z"⟩ : MethodName)) hown (mvT hZ (hw _ (List.mem_of_getElem? (i := 8) rfl))) (mvT hZ (hw _ (List.mem_of_getElem? (i := 9) rfl))) (notFace_of_selects (args := #[]) (mvT hZ (hw _ (List.mem_of_getElem? (i := 11) rfl)))) (mvT hZ (hw _ (List.mem_of_getElem? (i := 11) rfl))) (mvT hZ (hw _ (List.mem_of_getElem? (i := 10) rfl))) (by decide) (own_back (W := 0) (rm2_25 l Z a0 hw [] fl A hW h0 x0 hc9678.symm) hZ (hw _ (List.mem_of_getElem? (i := 12) rfl)) (hw _ (List.mem_of_getElem? (i := 6) rfl)) (by decide) (by decide)) q79a q79c (g := (mkF m 110 #[.val (.int p0), .val (.int p1), .val (.int p2), .val (.int (13 : Int32)), .val (.ref (A 13)), .val (.int (p2 &&& (3 : Int32))), .val (.int fl), .val (.int (1 : Int32))] [(.int fl), (.ref (A 13))])) rfl (by rw [hml]; rfl) (Steps.refl _) (argsL := [(.int fl)]) (rest := []) (lenOf pd_1 rfl) rfl (by show 2 * 0 + _ ≤ _; exact Nat.le_of_eq rfl) (hb hby at_110) (fun _ _ => ⟨rfl, e77, (by decide : 0 + 0 ≤ _), (by decide : 0 + 0 ≤ _)⟩)
        dsimp only [Pt.U, Pt.locs, Pt.cells, Pt.slots] at X79 l79 y79 z79 st79 hQ79
        subst l79 y79 z79
        obtain ⟨rfl, N79q, e79⟩ := hQ79
        have N79 := Fr.app N77 N79q
        refine own_go (B := T79.setTop (mkF m 113 #[.val (.int p0), .val (.int p1), .val (.int p2), .val (.int (13 : Int32)), .val (.ref (A 13)), .val (.int (p2 &&& (3 : Int32))), .val (.int fl), .val (.int (1 : Int32))] [(.int (1 : Int32))])) (fun _ k => st79.trans k) ?_
        refine own_go (B := T79.setTop (mkF m 115 #[.val (.int p0), .val (.int p1), .val (.int p2), .val (.int (13 : Int32)), .val (.ref (A 13)), .val (.int (p2 &&& (3 : Int32))), .val (.int fl), .val (.int (1 : Int32))] [(.int (1 : Int32)), (.int (1 : Int32))])) (fun _ k => XS.iload X79.here hx rfl (hb hby at_113) rfl k) ?_
        refine own_go (B := T79.setTop (mkF m 118 #[.val (.int p0), .val (.int p1), .val (.int p2), .val (.int (13 : Int32)), .val (.ref (A 13)), .val (.int (p2 &&& (3 : Int32))), .val (.int fl), .val (.int (1 : Int32))] [])) (fun _ k => XS.icmpNo X79.here hx rfl (hb hby at_115) rfl (by decide) k) ?_
        refine own_go (B := T79.setTop (mkF m 119 #[.val (.int p0), .val (.int p1), .val (.int p2), .val (.int (13 : Int32)), .val (.ref (A 13)), .val (.int (p2 &&& (3 : Int32))), .val (.int fl), .val (.int (1 : Int32))] [(.int (1 : Int32))])) (fun _ k => XT.iconstV X79.here hx rfl (1 : Int32) (hb hby at_118) rfl k) ?_
        refine own_go (B := T79.setTop (mkF m 123 #[.val (.int p0), .val (.int p1), .val (.int p2), .val (.int (13 : Int32)), .val (.ref (A 13)), .val (.int (p2 &&& (3 : Int32))), .val (.int fl), .val (.int (1 : Int32))] [(.int (1 : Int32))])) (fun _ k => XS.goto X79.here hx rfl (pc0 := 119) (pc' := 123) rfl (hb hby at_119) (by decide) (by decide) k) ?_
        exact own_ret X79 hx (t := .boolean) hrt rfl (Or.inl ⟨rfl, by simp, _, rfl⟩) (hb hby at_123) hlk ⟨rfl, N79⟩ (by decide) (by decide)
      · refine own_go (B := T77.setTop (mkF m 103 #[.val (.int p0), .val (.int p1), .val (.int p2), .val (.int (13 : Int32)), .val (.ref (A 13)), .val (.int (p2 &&& (3 : Int32))), .val (.int fl), .unset] [])) (fun _ k => XS.ifYes X77.here hx rfl (pc0 := 96) (pc' := 103) rfl (hb hby at_96) rfl ((if0 _ _).trans (feq hc9678).2) (by decide) (by decide) k) ?_
        refine own_go (B := T77.setTop (mkF m 104 #[.val (.int p0), .val (.int p1), .val (.int p2), .val (.int (13 : Int32)), .val (.ref (A 13)), .val (.int (p2 &&& (3 : Int32))), .val (.int fl), .unset] [(.int (0 : Int32))])) (fun _ k => XT.iconstV X77.here hx rfl (0 : Int32) (hb hby at_103) rfl k) ?_
        refine own_go (B := T77.setTop (mkF m 106 #[.val (.int p0), .val (.int p1), .val (.int p2), .val (.int (13 : Int32)), .val (.ref (A 13)), .val (.int (p2 &&& (3 : Int32))), .val (.int fl), .val (.int (0 : Int32))] [])) (fun _ k => XS.istore X77.here hx rfl (hb hby at_104) rfl (l' := #[.val (.int p0), .val (.int p1), .val (.int p2), .val (.int (13 : Int32)), .val (.ref (A 13)), .val (.int (p2 &&& (3 : Int32))), .val (.int fl), .val (.int (0 : Int32))]) rfl k) ?_
        refine own_go (B := T77.setTop (mkF m 108 #[.val (.int p0), .val (.int p1), .val (.int p2), .val (.int (13 : Int32)), .val (.ref (A 13)), .val (.int (p2 &&& (3 : Int32))), .val (.int fl), .val (.int (0 : Int32))] [(.ref (A 13))])) (fun _ k => XS.aload X77.here hx rfl (hb hby at_106) rfl rfl k) ?_
        refine own_go (B := T77.setTop (mkF m 110 #[.val (.int p0), .val (.int p1), .val (.int p2), .val (.int (13 : Int32)), .val (.ref (A 13)), .val (.int (p2 &&& (3 : Int32))), .val (.int fl), .val (.int (0 : Int32))] [(.int fl), (.ref (A 13))])) (fun _ k => XS.iload X77.here hx rfl (hb hby at_108) rfl k) ?_
        obtain ⟨cq80, kq80, q80a, q80b, q80c⟩ := isOf hZ e77 (E_DISCONNECT.ext x0)
        obtain ⟨_, _, ⟨T80, L80, k80, n80⟩, -, X80, ⟨Lc80, hQ80, l80, y80, z80⟩, st80⟩ := X77.virtualBack hx (y := (⟨"com/example/ferrybus/ferrybus/codec/PacketType", "allows", "(I)Z"⟩ : MethodName)) (z := (⟨"com/example/ferrybus/ferrybus/codec/PacketType", "allows", "(I)Z"⟩ : MethodName)) hown (mvT hZ (hw _ (List.mem_of_getElem? (i := 8) rfl))) (mvT hZ (hw _ (List.mem_of_getElem? (i := 9) rfl))) (notFace_of_selects (args := #[]) (mvT hZ (hw _ (List.mem_of_getElem? (i := 11) rfl)))) (mvT hZ (hw _ (List.mem_of_getElem? (i := 11) rfl))) (mvT hZ (hw _ (List.mem_of_getElem? (i := 10) rfl))) (by decide) (own_back (W := 0) (rm2_26 l Z a0 hw [] fl A hW h0 x0 (fun q => hc9678 q.symm)) hZ (hw _ (List.mem_of_getElem? (i := 12) rfl)) (hw _ (List.mem_of_getElem? (i := 6) rfl)) (by decide) (by decide)) q80a q80c (g := (mkF m 110 #[.val (.int p0), .val (.int p1), .val (.int p2), .val (.int (13 : Int32)), .val (.ref (A 13)), .val (.int (p2 &&& (3 : Int32))), .val (.int fl), .val (.int (0 : Int32))] [(.int fl), (.ref (A 13))])) rfl (by rw [hml]; rfl) (Steps.refl _) (argsL := [(.int fl)]) (rest := []) (lenOf pd_1 rfl) rfl (by show 2 * 0 + _ ≤ _; exact Nat.le_of_eq rfl) (hb hby at_110) (fun _ _ => ⟨rfl, e77, (by decide : 0 + 0 ≤ _), (by decide : 0 + 0 ≤ _)⟩)
        dsimp only [Pt.U, Pt.locs, Pt.cells, Pt.slots] at X80 l80 y80 z80 st80 hQ80
        subst l80 y80 z80
        obtain ⟨rfl, N80q, e80⟩ := hQ80
        have N80 := Fr.app N77 N80q
        refine own_go (B := T80.setTop (mkF m 113 #[.val (.int p0), .val (.int p1), .val (.int p2), .val (.int (13 : Int32)), .val (.ref (A 13)), .val (.int (p2 &&& (3 : Int32))), .val (.int fl), .val (.int (0 : Int32))] [(.int (0 : Int32))])) (fun _ k => st80.trans k) ?_
        refine own_go (B := T80.setTop (mkF m 115 #[.val (.int p0), .val (.int p1), .val (.int p2), .val (.int (13 : Int32)), .val (.ref (A 13)), .val (.int (p2 &&& (3 : Int32))), .val (.int fl), .val (.int (0 : Int32))] [(.int (0 : Int32)), (.int (0 : Int32))])) (fun _ k => XS.iload X80.here hx rfl (hb hby at_113) rfl k) ?_
        refine own_go (B := T80.setTop (mkF m 118 #[.val (.int p0), .val (.int p1), .val (.int p2), .val (.int (13 : Int32)), .val (.ref (A 13)), .val (.int (p2 &&& (3 : Int32))), .val (.int fl), .val (.int (0 : Int32))] [])) (fun _ k => XS.icmpNo X80.here hx rfl (hb hby at_115) rfl (by decide) k) ?_
        refine own_go (B := T80.setTop (mkF m 119 #[.val (.int p0), .val (.int p1), .val (.int p2), .val (.int (13 : Int32)), .val (.ref (A 13)), .val (.int (p2 &&& (3 : Int32))), .val (.int fl), .val (.int (0 : Int32))] [(.int (1 : Int32))])) (fun _ k => XT.iconstV X80.here hx rfl (1 : Int32) (hb hby at_118) rfl k) ?_
        refine own_go (B := T80.setTop (mkF m 123 #[.val (.int p0), .val (.int p1), .val (.int p2), .val (.int (13 : Int32)), .val (.ref (A 13)), .val (.int (p2 &&& (3 : Int32))), .val (.int fl), .val (.int (0 : Int32))] [(.int (1 : Int32))])) (fun _ k => XS.goto X80.here hx rfl (pc0 := 119) (pc' := 123) rfl (hb hby at_119) (by decide) (by decide) k) ?_
        exact own_ret X80 hx (t := .boolean) hrt rfl (Or.inl ⟨rfl, by simp, _, rfl⟩) (hb hby at_123) hlk ⟨rfl, N80⟩ (by decide) (by decide)
    refine own_go (B := T77.setTop (mkF m 21 #[.val (.int p0), .val (.int p1), .val (.int p2), .val (.int (13 : Int32)), .val (.ref (A 13)), .val (.int (p2 &&& (3 : Int32))), .unset, .unset] [(.int (p2 &&& (3 : Int32)))])) (fun _ k => XS.iload X77.here hx rfl (hb hby at_19) rfl k) ?_
    by_cases hc2181 : (p2 &&& (3 : Int32)) = (0 : Int32)
    · refine own_go (B := T77.setTop (mkF m 24 #[.val (.int p0), .val (.int p1), .val (.int p2), .val (.int (13 : Int32)), .val (.ref (A 13)), .val (.int (p2 &&& (3 : Int32))), .unset, .unset] [])) (fun _ k => XS.ifNo X77.here hx rfl (hb hby at_21) rfl ((if0 _ _).trans (teq hc2181).2) k) ?_
      refine own_go (B := T77.setTop (mkF m 25 #[.val (.int p0), .val (.int p1), .val (.int p2), .val (.int (13 : Int32)), .val (.ref (A 13)), .val (.int (p2 &&& (3 : Int32))), .unset, .unset] [(.int p1)])) (fun _ k => XS.iloadN X77.here hx rfl (hb hby at_24) rfl k) ?_
      refine own_go (B := T77.setTop (mkF m 27 #[.val (.int p0), .val (.int p1), .val (.int p2), .val (.int (13 : Int32)), .val (.ref (A 13)), .val (.int (p2 &&& (3 : Int32))), .val (.int p1), .unset] [])) (fun _ k => XS.istore X77.here hx rfl (hb hby at_25) rfl (l' := #[.val (.int p0), .val (.int p1), .val (.int p2), .val (.int (13 : Int32)), .val (.ref (A 13)), .val (.int (p2 &&& (3 : Int32))), .val (.int p1), .unset]) rfl k) ?_
      refine own_go (B := T77.setTop (mkF m 50 #[.val (.int p0), .val (.int p1), .val (.int p2), .val (.int (13 : Int32)), .val (.ref (A 13)), .val (.int (p2 &&& (3 : Int32))), .val (.int p1), .unset] [])) (fun _ k => XS.goto X77.here hx rfl (pc0 := 27) (pc' := 50) rfl (hb hby at_27) (by decide) (by decide) k) ?_
      exact tail _
    · refine own_go (B := T77.setTop (mkF m 30 #[.val (.int p0), .val (.int p1), .val (.int p2), .val (.int (13 : Int32)), .val (.ref (A 13)), .val (.int (p2 &&& (3 : Int32))), .unset, .unset] [])) (fun _ k => XS.ifYes X77.here hx rfl (pc0 := 21) (pc' := 30) rfl (hb hby at_21) rfl ((if0 _ _).trans (feq hc2181).2) (by decide) (by decide) k) ?_
      refine own_go (B := T77.setTop (mkF m 32 #[.val (.int p0), .val (.int p1), .val (.int p2), .val (.int (13 : Int32)), .val (.ref (A 13)), .val (.int (p2 &&& (3 : Int32))), .unset, .unset] [(.int (p2 &&& (3 : Int32)))])) (fun _ k => XS.iload X77.here hx rfl (hb hby at_30) rfl k) ?_
      refine own_go (B := T77.setTop (mkF m 33 #[.val (.int p0), .val (.int p1), .val (.int p2), .val (.int (13 : Int32)), .val (.ref (A 13)), .val (.int (p2 &&& (3 : Int32))), .unset, .unset] [(.int (1 : Int32)), (.int (p2 &&& (3 : Int32)))])) (fun _ k => XT.iconstV X77.here hx rfl (1 : Int32) (hb hby at_32) rfl k) ?_
      by_cases hc3382 : (p2 &&& (3 : Int32)) = (1 : Int32)
      · refine own_go (B := T77.setTop (mkF m 36 #[.val (.int p0), .val (.int p1), .val (.int p2), .val (.int (13 : Int32)), .val (.ref (A 13)), .val (.int (p2 &&& (3 : Int32))), .unset, .unset] [])) (fun _ k => XS.icmpNo X77.here hx rfl (hb hby at_33) rfl (teq hc3382).2 k) ?_
        refine own_go (B := T77.setTop (mkF m 37 #[.val (.int p0), .val (.int p1), .val (.int p2), .val (.int (13 : Int32)), .val (.ref (A 13)), .val (.int (p2 &&& (3 : Int32))), .unset, .unset] [(.int p1)])) (fun _ k => XS.iloadN X77.here hx rfl (hb hby at_36) rfl k) ?_
        refine own_go (B := T77.setTop (mkF m 39 #[.val (.int p0), .val (.int p1), .val (.int p2), .val (.int (13 : Int32)), .val (.ref (A 13)), .val (.int (p2 &&& (3 : Int32))), .unset, .unset] [(.int (15 : Int32)), (.int p1)])) (fun _ k => XT.bipushV X77.here hx rfl (15 : Int32) (hb hby at_37) (by decide) k) ?_
        refine own_go (B := T77.setTop (mkF m 40 #[.val (.int p0), .val (.int p1), .val (.int p2), .val (.int (13 : Int32)), .val (.ref (A 13)), .val (.int (p2 &&& (3 : Int32))), .unset, .unset] [(.int (p1 &&& (15 : Int32)))])) (fun _ k => XS.iand X77.here hx rfl (hb hby at_39) rfl k) ?_
        refine own_go (B := T77.setTop (mkF m 42 #[.val (.int p0), .val (.int p1), .val (.int p2), .val (.int (13 : Int32)), .val (.ref (A 13)), .val (.int (p2 &&& (3 : Int32))), .val (.int (p1 &&& (15 : Int32))), .unset] [])) (fun _ k => XS.istore X77.here hx rfl (hb hby at_40) rfl (l' := #[.val (.int p0), .val (.int p1), .val (.int p2), .val (.int (13 : Int32)), .val (.ref (A 13)), .val (.int (p2 &&& (3 : Int32))), .val (.int (p1 &&& (15 : Int32))), .unset]) rfl k) ?_
        refine own_go (B := T77.setTop (mkF m 50 #[.val (.int p0), .val (.int p1), .val (.int p2), .val (.int (13 : Int32)), .val (.ref (A 13)), .val (.int (p2 &&& (3 : Int32))), .val (.int (p1 &&& (15 : Int32))), .unset] [])) (fun _ k => XS.goto X77.here hx rfl (pc0 := 42) (pc' := 50) rfl (hb hby at_42) (by decide) (by decide) k) ?_
        exact tail _
      · refine own_go (B := T77.setTop (mkF m 45 #[.val (.int p0), .val (.int p1), .val (.int p2), .val (.int (13 : Int32)), .val (.ref (A 13)), .val (.int (p2 &&& (3 : Int32))), .unset, .unset] [])) (fun _ k => XS.icmpYes X77.here hx rfl (pc0 := 33) (pc' := 45) rfl (hb hby at_33) rfl (feq hc3382).2 (by decide) (by decide) k) ?_
        refine own_go (B := T77.setTop (mkF m 46 #[.val (.int p0), .val (.int p1), .val (.int p2), .val (.int (13 : Int32)), .val (.ref (A 13)), .val (.int (p2 &&& (3 : Int32))), .unset, .unset] [(.int p1)])) (fun _ k => XS.iloadN X77.here hx rfl (hb hby at_45) rfl k) ?_
        refine own_go (B := T77.setTop (mkF m 47 #[.val (.int p0), .val (.int p1), .val (.int p2), .val (.int (13 : Int32)), .val (.ref (A 13)), .val (.int (p2 &&& (3 : Int32))), .unset, .unset] [(.int (3 : Int32)), (.int p1)])) (fun _ k => XT.iconstV X77.here hx rfl (3 : Int32) (hb hby at_46) rfl k) ?_
        refine own_go (B := T77.setTop (mkF m 48 #[.val (.int p0), .val (.int p1), .val (.int p2), .val (.int (13 : Int32)), .val (.ref (A 13)), .val (.int (p2 &&& (3 : Int32))), .unset, .unset] [(.int (p1 &&& (3 : Int32)))])) (fun _ k => XS.iand X77.here hx rfl (hb hby at_47) rfl k) ?_
        refine own_go (B := T77.setTop (mkF m 50 #[.val (.int p0), .val (.int p1), .val (.int p2), .val (.int (13 : Int32)), .val (.ref (A 13)), .val (.int (p2 &&& (3 : Int32))), .val (.int (p1 &&& (3 : Int32))), .unset] [])) (fun _ k => XS.istore X77.here hx rfl (hb hby at_48) rfl (l' := #[.val (.int p0), .val (.int p1), .val (.int p2), .val (.int (13 : Int32)), .val (.ref (A 13)), .val (.int (p2 &&& (3 : Int32))), .val (.int (p1 &&& (3 : Int32))), .unset]) rfl k) ?_
        exact tail _
  · refine own_go (B := s₁.setTop (mkF m 9 #[.val (.int p0), .val (.int p1), .val (.int p2), .val (.int (14 : Int32)), .unset, .unset, .unset, .unset] [(.int (14 : Int32))])) (fun _ k => XS.iloadN X0.here hx rfl (hb hby at_8) rfl k) ?_
    obtain ⟨_, _, ⟨T83, L83, k83, n83⟩, -, X83, ⟨Lc83, hQ83, l83, y83, z83⟩, st83⟩ := Jvm.LawKit.callS X0 hx (y := (⟨"com/example/ferrybus/ferrybus/codec/PacketTypeAllowsPinLaw", "pick", "(I)Lcom/example/ferrybus/ferrybus/codec/PacketType;"⟩ : MethodName)) hown (mvT hZ (hw _ (List.mem_of_getElem? (i := 1) rfl))) (mvT hZ (hw _ (List.mem_of_getElem? (i := 2) rfl))) (mvT hZ (hw _ (List.mem_of_getElem? (i := 3) rfl))) (mvT hZ (hw _ (List.mem_of_getElem? (i := 4) rfl))) (by decide) (own_back (W := 0) (rm1_14 l Z a0 hw []  A hW h0 x0 ) hZ (hw _ (List.mem_of_getElem? (i := 4) rfl)) (hw _ (List.mem_of_getElem? (i := 3) rfl)) (by decide) (by decide)) (g := (mkF m 9 #[.val (.int p0), .val (.int p1), .val (.int p2), .val (.int (14 : Int32)), .unset, .unset, .unset, .unset] [(.int (14 : Int32))])) rfl (by rw [hml]; rfl) (argsL := [(.int (14 : Int32))]) (rest := []) (lenOf pd_0 rfl) rfl (by show 2 * 0 + _ ≤ _; exact Nat.le_of_eq rfl) (hb hby at_9) (fun _ _ => ⟨rfl, e0, (by decide : 0 + 0 ≤ _), (by decide : 0 + 0 ≤ _)⟩)
    dsimp only [Pt.U, Pt.locs, Pt.cells, Pt.slots] at X83 l83 y83 z83 st83 hQ83
    subst l83 y83 z83
    obtain ⟨rfl, N83q, e83⟩ := hQ83
    have N83 := Fr.app N0 N83q
    refine own_go (B := T83.setTop (mkF m 12 #[.val (.int p0), .val (.int p1), .val (.int p2), .val (.int (14 : Int32)), .unset, .unset, .unset, .unset] [(.ref (A 2))])) st83 ?_
    refine own_go (B := T83.setTop (mkF m 14 #[.val (.int p0), .val (.int p1), .val (.int p2), .val (.int (14 : Int32)), .val (.ref (A 2)), .unset, .unset, .unset] [])) (fun _ k => XS.astore X83.here hx rfl (hb hby at_12) rfl rfl (l' := #[.val (.int p0), .val (.int p1), .val (.int p2), .val (.int (14 : Int32)), .val (.ref (A 2)), .unset, .unset, .unset]) rfl k) ?_
    refine own_go (B := T83.setTop (mkF m 15 #[.val (.int p0), .val (.int p1), .val (.int p2), .val (.int (14 : Int32)), .val (.ref (A 2)), .unset, .unset, .unset] [(.int p2)])) (fun _ k => XS.iloadN X83.here hx rfl (hb hby at_14) rfl k) ?_
    refine own_go (B := T83.setTop (mkF m 16 #[.val (.int p0), .val (.int p1), .val (.int p2), .val (.int (14 : Int32)), .val (.ref (A 2)), .unset, .unset, .unset] [(.int (3 : Int32)), (.int p2)])) (fun _ k => XT.iconstV X83.here hx rfl (3 : Int32) (hb hby at_15) rfl k) ?_
    refine own_go (B := T83.setTop (mkF m 17 #[.val (.int p0), .val (.int p1), .val (.int p2), .val (.int (14 : Int32)), .val (.ref (A 2)), .unset, .unset, .unset] [(.int (p2 &&& (3 : Int32)))])) (fun _ k => XS.iand X83.here hx rfl (hb hby at_16) rfl k) ?_
    refine own_go (B := T83.setTop (mkF m 19 #[.val (.int p0), .val (.int p1), .val (.int p2), .val (.int (14 : Int32)), .val (.ref (A 2)), .val (.int (p2 &&& (3 : Int32))), .unset, .unset] [])) (fun _ k => XS.istore X83.here hx rfl (hb hby at_17) rfl (l' := #[.val (.int p0), .val (.int p1), .val (.int p2), .val (.int (14 : Int32)), .val (.ref (A 2)), .val (.int (p2 &&& (3 : Int32))), .unset, .unset]) rfl k) ?_
    have tail : ∀ fl : Int32, own_G p.tables e below s (fun v_ h_ L_ => v_ = some (.int (1 : Int32)) ∧ Fr Z.heap.size L_) room_1.cells room_1.slots (T83.setTop (mkF m 50 #[.val (.int p0), .val (.int p1), .val (.int p2), .val (.int (14 : Int32)), .val (.ref (A 2)), .val (.int (p2 &&& (3 : Int32))), .val (.int fl), .unset] [])) := by
      intro fl
      refine own_go (B := T83.setTop (mkF m 51 #[.val (.int p0), .val (.int p1), .val (.int p2), .val (.int (14 : Int32)), .val (.ref (A 2)), .val (.int (p2 &&& (3 : Int32))), .val (.int fl), .unset] [(.int (14 : Int32))])) (fun _ k => XS.iloadN X83.here hx rfl (hb hby at_50) rfl k) ?_
      refine own_go (B := T83.setTop (mkF m 52 #[.val (.int p0), .val (.int p1), .val (.int p2), .val (.int (14 : Int32)), .val (.ref (A 2)), .val (.int (p2 &&& (3 : Int32))), .val (.int fl), .unset] [(.int (2 : Int32)), (.int (14 : Int32))])) (fun _ k => XT.iconstV X83.here hx rfl (2 : Int32) (hb hby at_51) rfl k) ?_
      refine own_go (B := T83.setTop (mkF m 61 #[.val (.int p0), .val (.int p1), .val (.int p2), .val (.int (14 : Int32)), .val (.ref (A 2)), .val (.int (p2 &&& (3 : Int32))), .val (.int fl), .unset] [])) (fun _ k => XS.icmpYes X83.here hx rfl (pc0 := 52) (pc' := 61) rfl (hb hby at_52) rfl (by decide) (by decide) (by decide) k) ?_
      refine own_go (B := T83.setTop (mkF m 62 #[.val (.int p0), .val (.int p1), .val (.int p2), .val (.int (14 : Int32)), .val (.ref (A 2)), .val (.int (p2 &&& (3 : Int32))), .val (.int fl), .unset] [(.int (14 : Int32))])) (fun _ k => XS.iloadN X83.here hx rfl (hb hby at_61) rfl k) ?_
      refine own_go (B := T83.setTop (mkF m 63 #[.val (.int p0), .val (.int p1), .val (.int p2), .val (.int (14 : Int32)), .val (.ref (A 2)), .val (.int (p2 &&& (3 : Int32))), .val (.int fl), .unset] [(.int (5 : Int32)), (.int (14 : Int32))])) (fun _ k => XT.iconstV X83.here hx rfl (5 : Int32) (hb hby at_62) rfl k) ?_
      refine own_go (B := T83.setTop (mkF m 66 #[.val (.int p0), .val (.int p1), .val (.int p2), .val (.int (14 : Int32)), .val (.ref (A 2)), .val (.int (p2 &&& (3 : Int32))), .val (.int fl), .unset] [])) (fun _ k => XS.icmpNo X83.here hx rfl (hb hby at_63) rfl (by decide) k) ?_
      refine own_go (B := T83.setTop (mkF m 67 #[.val (.int p0), .val (.int p1), .val (.int p2), .val (.int (14 : Int32)), .val (.ref (A 2)), .val (.int (p2 &&& (3 : Int32))), .val (.int fl), .unset] [(.int (14 : Int32))])) (fun _ k => XS.iloadN X83.here hx rfl (hb hby at_66) rfl k) ?_
      refine own_go (B := T83.setTop (mkF m 69 #[.val (.int p0), .val (.int p1), .val (.int p2), .val (.int (14 : Int32)), .val (.ref (A 2)), .val (.int (p2 &&& (3 : Int32))), .val (.int fl), .unset] [(.int (7 : Int32)), (.int (14 : Int32))])) (fun _ k => XT.bipushV X83.here hx rfl (7 : Int32) (hb hby at_67) (by decide) k) ?_
      refine own_go (B := T83.setTop (mkF m 72 #[.val (.int p0), .val (.int p1), .val (.int p2), .val (.int (14 : Int32)), .val (.ref (A 2)), .val (.int (p2 &&& (3 : Int32))), .val (.int fl), .unset] [])) (fun _ k => XS.icmpNo X83.here hx rfl (hb hby at_69) rfl (by decide) k) ?_
      refine own_go (B := T83.setTop (mkF m 73 #[.val (.int p0), .val (.int p1), .val (.int p2), .val (.int (14 : Int32)), .val (.ref (A 2)), .val (.int (p2 &&& (3 : Int32))), .val (.int fl), .unset] [(.int (14 : Int32))])) (fun _ k => XS.iloadN X83.here hx rfl (hb hby at_72) rfl k) ?_
      refine own_go (B := T83.setTop (mkF m 75 #[.val (.int p0), .val (.int p1), .val (.int p2), .val (.int (14 : Int32)), .val (.ref (A 2)), .val (.int (p2 &&& (3 : Int32))), .val (.int fl), .unset] [(.int (9 : Int32)), (.int (14 : Int32))])) (fun _ k => XT.bipushV X83.here hx rfl (9 : Int32) (hb hby at_73) (by decide) k) ?_
      refine own_go (B := T83.setTop (mkF m 94 #[.val (.int p0), .val (.int p1), .val (.int p2), .val (.int (14 : Int32)), .val (.ref (A 2)), .val (.int (p2 &&& (3 : Int32))), .val (.int fl), .unset] [])) (fun _ k => XS.icmpYes X83.here hx rfl (pc0 := 75) (pc' := 94) rfl (hb hby at_75) rfl (by decide) (by decide) (by decide) k) ?_
      refine own_go (B := T83.setTop (mkF m 96 #[.val (.int p0), .val (.int p1), .val (.int p2), .val (.int (14 : Int32)), .val (.ref (A 2)), .val (.int (p2 &&& (3 : Int32))), .val (.int fl), .unset] [(.int fl)])) (fun _ k => XS.iload X83.here hx rfl (hb hby at_94) rfl k) ?_
      by_cases hc9684 : fl = (0 : Int32)
      · refine own_go (B := T83.setTop (mkF m 99 #[.val (.int p0), .val (.int p1), .val (.int p2), .val (.int (14 : Int32)), .val (.ref (A 2)), .val (.int (p2 &&& (3 : Int32))), .val (.int fl), .unset] [])) (fun _ k => XS.ifNo X83.here hx rfl (hb hby at_96) rfl ((if0 _ _).trans (teq hc9684).2) k) ?_
        refine own_go (B := T83.setTop (mkF m 100 #[.val (.int p0), .val (.int p1), .val (.int p2), .val (.int (14 : Int32)), .val (.ref (A 2)), .val (.int (p2 &&& (3 : Int32))), .val (.int fl), .unset] [(.int (1 : Int32))])) (fun _ k => XT.iconstV X83.here hx rfl (1 : Int32) (hb hby at_99) rfl k) ?_
        refine own_go (B := T83.setTop (mkF m 104 #[.val (.int p0), .val (.int p1), .val (.int p2), .val (.int (14 : Int32)), .val (.ref (A 2)), .val (.int (p2 &&& (3 : Int32))), .val (.int fl), .unset] [(.int (1 : Int32))])) (fun _ k => XS.goto X83.here hx rfl (pc0 := 100) (pc' := 104) rfl (hb hby at_100) (by decide) (by decide) k) ?_
        refine own_go (B := T83.setTop (mkF m 106 #[.val (.int p0), .val (.int p1), .val (.int p2), .val (.int (14 : Int32)), .val (.ref (A 2)), .val (.int (p2 &&& (3 : Int32))), .val (.int fl), .val (.int (1 : Int32))] [])) (fun _ k => XS.istore X83.here hx rfl (hb hby at_104) rfl (l' := #[.val (.int p0), .val (.int p1), .val (.int p2), .val (.int (14 : Int32)), .val (.ref (A 2)), .val (.int (p2 &&& (3 : Int32))), .val (.int fl), .val (.int (1 : Int32))]) rfl k) ?_
        refine own_go (B := T83.setTop (mkF m 108 #[.val (.int p0), .val (.int p1), .val (.int p2), .val (.int (14 : Int32)), .val (.ref (A 2)), .val (.int (p2 &&& (3 : Int32))), .val (.int fl), .val (.int (1 : Int32))] [(.ref (A 2))])) (fun _ k => XS.aload X83.here hx rfl (hb hby at_106) rfl rfl k) ?_
        refine own_go (B := T83.setTop (mkF m 110 #[.val (.int p0), .val (.int p1), .val (.int p2), .val (.int (14 : Int32)), .val (.ref (A 2)), .val (.int (p2 &&& (3 : Int32))), .val (.int fl), .val (.int (1 : Int32))] [(.int fl), (.ref (A 2))])) (fun _ k => XS.iload X83.here hx rfl (hb hby at_108) rfl k) ?_
        obtain ⟨cq85, kq85, q85a, q85b, q85c⟩ := isOf hZ e83 (E_AUTH.ext x0)
        obtain ⟨_, _, ⟨T85, L85, k85, n85⟩, -, X85, ⟨Lc85, hQ85, l85, y85, z85⟩, st85⟩ := X83.virtualBack hx (y := (⟨"com/example/ferrybus/ferrybus/codec/PacketType", "allows", "(I)Z"⟩ : MethodName)) (z := (⟨"com/example/ferrybus/ferrybus/codec/PacketType", "allows", "(I)Z"⟩ : MethodName)) hown (mvT hZ (hw _ (List.mem_of_getElem? (i := 8) rfl))) (mvT hZ (hw _ (List.mem_of_getElem? (i := 9) rfl))) (notFace_of_selects (args := #[]) (mvT hZ (hw _ (List.mem_of_getElem? (i := 11) rfl)))) (mvT hZ (hw _ (List.mem_of_getElem? (i := 11) rfl))) (mvT hZ (hw _ (List.mem_of_getElem? (i := 10) rfl))) (by decide) (own_back (W := 0) (rm2_27 l Z a0 hw [] fl A hW h0 x0 hc9684.symm) hZ (hw _ (List.mem_of_getElem? (i := 12) rfl)) (hw _ (List.mem_of_getElem? (i := 6) rfl)) (by decide) (by decide)) q85a q85c (g := (mkF m 110 #[.val (.int p0), .val (.int p1), .val (.int p2), .val (.int (14 : Int32)), .val (.ref (A 2)), .val (.int (p2 &&& (3 : Int32))), .val (.int fl), .val (.int (1 : Int32))] [(.int fl), (.ref (A 2))])) rfl (by rw [hml]; rfl) (Steps.refl _) (argsL := [(.int fl)]) (rest := []) (lenOf pd_1 rfl) rfl (by show 2 * 0 + _ ≤ _; exact Nat.le_of_eq rfl) (hb hby at_110) (fun _ _ => ⟨rfl, e83, (by decide : 0 + 0 ≤ _), (by decide : 0 + 0 ≤ _)⟩)
        dsimp only [Pt.U, Pt.locs, Pt.cells, Pt.slots] at X85 l85 y85 z85 st85 hQ85
        subst l85 y85 z85
        obtain ⟨rfl, N85q, e85⟩ := hQ85
        have N85 := Fr.app N83 N85q
        refine own_go (B := T85.setTop (mkF m 113 #[.val (.int p0), .val (.int p1), .val (.int p2), .val (.int (14 : Int32)), .val (.ref (A 2)), .val (.int (p2 &&& (3 : Int32))), .val (.int fl), .val (.int (1 : Int32))] [(.int (1 : Int32))])) (fun _ k => st85.trans k) ?_
        refine own_go (B := T85.setTop (mkF m 115 #[.val (.int p0), .val (.int p1), .val (.int p2), .val (.int (14 : Int32)), .val (.ref (A 2)), .val (.int (p2 &&& (3 : Int32))), .val (.int fl), .val (.int (1 : Int32))] [(.int (1 : Int32)), (.int (1 : Int32))])) (fun _ k => XS.iload X85.here hx rfl (hb hby at_113) rfl k) ?_
        refine own_go (B := T85.setTop (mkF m 118 #[.val (.int p0), .val (.int p1), .val (.int p2), .val (.int (14 : Int32)), .val (.ref (A 2)), .val (.int (p2 &&& (3 : Int32))), .val (.int fl), .val (.int (1 : Int32))] [])) (fun _ k => XS.icmpNo X85.here hx rfl (hb hby at_115) rfl (by decide) k) ?_
        refine own_go (B := T85.setTop (mkF m 119 #[.val (.int p0), .val (.int p1), .val (.int p2), .val (.int (14 : Int32)), .val (.ref (A 2)), .val (.int (p2 &&& (3 : Int32))), .val (.int fl), .val (.int (1 : Int32))] [(.int (1 : Int32))])) (fun _ k => XT.iconstV X85.here hx rfl (1 : Int32) (hb hby at_118) rfl k) ?_
        refine own_go (B := T85.setTop (mkF m 123 #[.val (.int p0), .val (.int p1), .val (.int p2), .val (.int (14 : Int32)), .val (.ref (A 2)), .val (.int (p2 &&& (3 : Int32))), .val (.int fl), .val (.int (1 : Int32))] [(.int (1 : Int32))])) (fun _ k => XS.goto X85.here hx rfl (pc0 := 119) (pc' := 123) rfl (hb hby at_119) (by decide) (by decide) k) ?_
        exact own_ret X85 hx (t := .boolean) hrt rfl (Or.inl ⟨rfl, by simp, _, rfl⟩) (hb hby at_123) hlk ⟨rfl, N85⟩ (by decide) (by decide)
      · refine own_go (B := T83.setTop (mkF m 103 #[.val (.int p0), .val (.int p1), .val (.int p2), .val (.int (14 : Int32)), .val (.ref (A 2)), .val (.int (p2 &&& (3 : Int32))), .val (.int fl), .unset] [])) (fun _ k => XS.ifYes X83.here hx rfl (pc0 := 96) (pc' := 103) rfl (hb hby at_96) rfl ((if0 _ _).trans (feq hc9684).2) (by decide) (by decide) k) ?_
        refine own_go (B := T83.setTop (mkF m 104 #[.val (.int p0), .val (.int p1), .val (.int p2), .val (.int (14 : Int32)), .val (.ref (A 2)), .val (.int (p2 &&& (3 : Int32))), .val (.int fl), .unset] [(.int (0 : Int32))])) (fun _ k => XT.iconstV X83.here hx rfl (0 : Int32) (hb hby at_103) rfl k) ?_
        refine own_go (B := T83.setTop (mkF m 106 #[.val (.int p0), .val (.int p1), .val (.int p2), .val (.int (14 : Int32)), .val (.ref (A 2)), .val (.int (p2 &&& (3 : Int32))), .val (.int fl), .val (.int (0 : Int32))] [])) (fun _ k => XS.istore X83.here hx rfl (hb hby at_104) rfl (l' := #[.val (.int p0), .val (.int p1), .val (.int p2), .val (.int (14 : Int32)), .val (.ref (A 2)), .val (.int (p2 &&& (3 : Int32))), .val (.int fl), .val (.int (0 : Int32))]) rfl k) ?_
        refine own_go (B := T83.setTop (mkF m 108 #[.val (.int p0), .val (.int p1), .val (.int p2), .val (.int (14 : Int32)), .val (.ref (A 2)), .val (.int (p2 &&& (3 : Int32))), .val (.int fl), .val (.int (0 : Int32))] [(.ref (A 2))])) (fun _ k => XS.aload X83.here hx rfl (hb hby at_106) rfl rfl k) ?_
        refine own_go (B := T83.setTop (mkF m 110 #[.val (.int p0), .val (.int p1), .val (.int p2), .val (.int (14 : Int32)), .val (.ref (A 2)), .val (.int (p2 &&& (3 : Int32))), .val (.int fl), .val (.int (0 : Int32))] [(.int fl), (.ref (A 2))])) (fun _ k => XS.iload X83.here hx rfl (hb hby at_108) rfl k) ?_
        obtain ⟨cq86, kq86, q86a, q86b, q86c⟩ := isOf hZ e83 (E_AUTH.ext x0)
        obtain ⟨_, _, ⟨T86, L86, k86, n86⟩, -, X86, ⟨Lc86, hQ86, l86, y86, z86⟩, st86⟩ := X83.virtualBack hx (y := (⟨"com/example/ferrybus/ferrybus/codec/PacketType", "allows", "(I)Z"⟩ : MethodName)) (z := (⟨"com/example/ferrybus/ferrybus/codec/PacketType", "allows", "(I)Z"⟩ : MethodName)) hown (mvT hZ (hw _ (List.mem_of_getElem? (i := 8) rfl))) (mvT hZ (hw _ (List.mem_of_getElem? (i := 9) rfl))) (notFace_of_selects (args := #[]) (mvT hZ (hw _ (List.mem_of_getElem? (i := 11) rfl)))) (mvT hZ (hw _ (List.mem_of_getElem? (i := 11) rfl))) (mvT hZ (hw _ (List.mem_of_getElem? (i := 10) rfl))) (by decide) (own_back (W := 0) (rm2_28 l Z a0 hw [] fl A hW h0 x0 (fun q => hc9684 q.symm)) hZ (hw _ (List.mem_of_getElem? (i := 12) rfl)) (hw _ (List.mem_of_getElem? (i := 6) rfl)) (by decide) (by decide)) q86a q86c (g := (mkF m 110 #[.val (.int p0), .val (.int p1), .val (.int p2), .val (.int (14 : Int32)), .val (.ref (A 2)), .val (.int (p2 &&& (3 : Int32))), .val (.int fl), .val (.int (0 : Int32))] [(.int fl), (.ref (A 2))])) rfl (by rw [hml]; rfl) (Steps.refl _) (argsL := [(.int fl)]) (rest := []) (lenOf pd_1 rfl) rfl (by show 2 * 0 + _ ≤ _; exact Nat.le_of_eq rfl) (hb hby at_110) (fun _ _ => ⟨rfl, e83, (by decide : 0 + 0 ≤ _), (by decide : 0 + 0 ≤ _)⟩)
        dsimp only [Pt.U, Pt.locs, Pt.cells, Pt.slots] at X86 l86 y86 z86 st86 hQ86
        subst l86 y86 z86
        obtain ⟨rfl, N86q, e86⟩ := hQ86
        have N86 := Fr.app N83 N86q
        refine own_go (B := T86.setTop (mkF m 113 #[.val (.int p0), .val (.int p1), .val (.int p2), .val (.int (14 : Int32)), .val (.ref (A 2)), .val (.int (p2 &&& (3 : Int32))), .val (.int fl), .val (.int (0 : Int32))] [(.int (0 : Int32))])) (fun _ k => st86.trans k) ?_
        refine own_go (B := T86.setTop (mkF m 115 #[.val (.int p0), .val (.int p1), .val (.int p2), .val (.int (14 : Int32)), .val (.ref (A 2)), .val (.int (p2 &&& (3 : Int32))), .val (.int fl), .val (.int (0 : Int32))] [(.int (0 : Int32)), (.int (0 : Int32))])) (fun _ k => XS.iload X86.here hx rfl (hb hby at_113) rfl k) ?_
        refine own_go (B := T86.setTop (mkF m 118 #[.val (.int p0), .val (.int p1), .val (.int p2), .val (.int (14 : Int32)), .val (.ref (A 2)), .val (.int (p2 &&& (3 : Int32))), .val (.int fl), .val (.int (0 : Int32))] [])) (fun _ k => XS.icmpNo X86.here hx rfl (hb hby at_115) rfl (by decide) k) ?_
        refine own_go (B := T86.setTop (mkF m 119 #[.val (.int p0), .val (.int p1), .val (.int p2), .val (.int (14 : Int32)), .val (.ref (A 2)), .val (.int (p2 &&& (3 : Int32))), .val (.int fl), .val (.int (0 : Int32))] [(.int (1 : Int32))])) (fun _ k => XT.iconstV X86.here hx rfl (1 : Int32) (hb hby at_118) rfl k) ?_
        refine own_go (B := T86.setTop (mkF m 123 #[.val (.int p0), .val (.int p1), .val (.int p2), .val (.int (14 : Int32)), .val (.ref (A 2)), .val (.int (p2 &&& (3 : Int32))), .val (.int fl), .val (.int (0 : Int32))] [(.int (1 : Int32))])) (fun _ k => XS.goto X86.here hx rfl (pc0 := 119) (pc' := 123) rfl (hb hby at_119) (by decide) (by decide) k) ?_
        exact own_ret X86 hx (t := .boolean) hrt rfl (Or.inl ⟨rfl, by simp, _, rfl⟩) (hb hby at_123) hlk ⟨rfl, N86⟩ (by decide) (by decide)
    refine own_go (B := T83.setTop (mkF m 21 #[.val (.int p0), .val (.int p1), .val (.int p2), .val (.int (14 : Int32)), .val (.ref (A 2)), .val (.int (p2 &&& (3 : Int32))), .unset, .unset] [(.int (p2 &&& (3 : Int32)))])) (fun _ k => XS.iload X83.here hx rfl (hb hby at_19) rfl k) ?_
    by_cases hc2187 : (p2 &&& (3 : Int32)) = (0 : Int32)
    · refine own_go (B := T83.setTop (mkF m 24 #[.val (.int p0), .val (.int p1), .val (.int p2), .val (.int (14 : Int32)), .val (.ref (A 2)), .val (.int (p2 &&& (3 : Int32))), .unset, .unset] [])) (fun _ k => XS.ifNo X83.here hx rfl (hb hby at_21) rfl ((if0 _ _).trans (teq hc2187).2) k) ?_
      refine own_go (B := T83.setTop (mkF m 25 #[.val (.int p0), .val (.int p1), .val (.int p2), .val (.int (14 : Int32)), .val (.ref (A 2)), .val (.int (p2 &&& (3 : Int32))), .unset, .unset] [(.int p1)])) (fun _ k => XS.iloadN X83.here hx rfl (hb hby at_24) rfl k) ?_
      refine own_go (B := T83.setTop (mkF m 27 #[.val (.int p0), .val (.int p1), .val (.int p2), .val (.int (14 : Int32)), .val (.ref (A 2)), .val (.int (p2 &&& (3 : Int32))), .val (.int p1), .unset] [])) (fun _ k => XS.istore X83.here hx rfl (hb hby at_25) rfl (l' := #[.val (.int p0), .val (.int p1), .val (.int p2), .val (.int (14 : Int32)), .val (.ref (A 2)), .val (.int (p2 &&& (3 : Int32))), .val (.int p1), .unset]) rfl k) ?_
      refine own_go (B := T83.setTop (mkF m 50 #[.val (.int p0), .val (.int p1), .val (.int p2), .val (.int (14 : Int32)), .val (.ref (A 2)), .val (.int (p2 &&& (3 : Int32))), .val (.int p1), .unset] [])) (fun _ k => XS.goto X83.here hx rfl (pc0 := 27) (pc' := 50) rfl (hb hby at_27) (by decide) (by decide) k) ?_
      exact tail _
    · refine own_go (B := T83.setTop (mkF m 30 #[.val (.int p0), .val (.int p1), .val (.int p2), .val (.int (14 : Int32)), .val (.ref (A 2)), .val (.int (p2 &&& (3 : Int32))), .unset, .unset] [])) (fun _ k => XS.ifYes X83.here hx rfl (pc0 := 21) (pc' := 30) rfl (hb hby at_21) rfl ((if0 _ _).trans (feq hc2187).2) (by decide) (by decide) k) ?_
      refine own_go (B := T83.setTop (mkF m 32 #[.val (.int p0), .val (.int p1), .val (.int p2), .val (.int (14 : Int32)), .val (.ref (A 2)), .val (.int (p2 &&& (3 : Int32))), .unset, .unset] [(.int (p2 &&& (3 : Int32)))])) (fun _ k => XS.iload X83.here hx rfl (hb hby at_30) rfl k) ?_
      refine own_go (B := T83.setTop (mkF m 33 #[.val (.int p0), .val (.int p1), .val (.int p2), .val (.int (14 : Int32)), .val (.ref (A 2)), .val (.int (p2 &&& (3 : Int32))), .unset, .unset] [(.int (1 : Int32)), (.int (p2 &&& (3 : Int32)))])) (fun _ k => XT.iconstV X83.here hx rfl (1 : Int32) (hb hby at_32) rfl k) ?_
      by_cases hc3388 : (p2 &&& (3 : Int32)) = (1 : Int32)
      · refine own_go (B := T83.setTop (mkF m 36 #[.val (.int p0), .val (.int p1), .val (.int p2), .val (.int (14 : Int32)), .val (.ref (A 2)), .val (.int (p2 &&& (3 : Int32))), .unset, .unset] [])) (fun _ k => XS.icmpNo X83.here hx rfl (hb hby at_33) rfl (teq hc3388).2 k) ?_
        refine own_go (B := T83.setTop (mkF m 37 #[.val (.int p0), .val (.int p1), .val (.int p2), .val (.int (14 : Int32)), .val (.ref (A 2)), .val (.int (p2 &&& (3 : Int32))), .unset, .unset] [(.int p1)])) (fun _ k => XS.iloadN X83.here hx rfl (hb hby at_36) rfl k) ?_
        refine own_go (B := T83.setTop (mkF m 39 #[.val (.int p0), .val (.int p1), .val (.int p2), .val (.int (14 : Int32)), .val (.ref (A 2)), .val (.int (p2 &&& (3 : Int32))), .unset, .unset] [(.int (15 : Int32)), (.int p1)])) (fun _ k => XT.bipushV X83.here hx rfl (15 : Int32) (hb hby at_37) (by decide) k) ?_
        refine own_go (B := T83.setTop (mkF m 40 #[.val (.int p0), .val (.int p1), .val (.int p2), .val (.int (14 : Int32)), .val (.ref (A 2)), .val (.int (p2 &&& (3 : Int32))), .unset, .unset] [(.int (p1 &&& (15 : Int32)))])) (fun _ k => XS.iand X83.here hx rfl (hb hby at_39) rfl k) ?_
        refine own_go (B := T83.setTop (mkF m 42 #[.val (.int p0), .val (.int p1), .val (.int p2), .val (.int (14 : Int32)), .val (.ref (A 2)), .val (.int (p2 &&& (3 : Int32))), .val (.int (p1 &&& (15 : Int32))), .unset] [])) (fun _ k => XS.istore X83.here hx rfl (hb hby at_40) rfl (l' := #[.val (.int p0), .val (.int p1), .val (.int p2), .val (.int (14 : Int32)), .val (.ref (A 2)), .val (.int (p2 &&& (3 : Int32))), .val (.int (p1 &&& (15 : Int32))), .unset]) rfl k) ?_
        refine own_go (B := T83.setTop (mkF m 50 #[.val (.int p0), .val (.int p1), .val (.int p2), .val (.int (14 : Int32)), .val (.ref (A 2)), .val (.int (p2 &&& (3 : Int32))), .val (.int (p1 &&& (15 : Int32))), .unset] [])) (fun _ k => XS.goto X83.here hx rfl (pc0 := 42) (pc' := 50) rfl (hb hby at_42) (by decide) (by decide) k) ?_
        exact tail _
      · refine own_go (B := T83.setTop (mkF m 45 #[.val (.int p0), .val (.int p1), .val (.int p2), .val (.int (14 : Int32)), .val (.ref (A 2)), .val (.int (p2 &&& (3 : Int32))), .unset, .unset] [])) (fun _ k => XS.icmpYes X83.here hx rfl (pc0 := 33) (pc' := 45) rfl (hb hby at_33) rfl (feq hc3388).2 (by decide) (by decide) k) ?_
        refine own_go (B := T83.setTop (mkF m 46 #[.val (.int p0), .val (.int p1), .val (.int p2), .val (.int (14 : Int32)), .val (.ref (A 2)), .val (.int (p2 &&& (3 : Int32))), .unset, .unset] [(.int p1)])) (fun _ k => XS.iloadN X83.here hx rfl (hb hby at_45) rfl k) ?_
        refine own_go (B := T83.setTop (mkF m 47 #[.val (.int p0), .val (.int p1), .val (.int p2), .val (.int (14 : Int32)), .val (.ref (A 2)), .val (.int (p2 &&& (3 : Int32))), .unset, .unset] [(.int (3 : Int32)), (.int p1)])) (fun _ k => XT.iconstV X83.here hx rfl (3 : Int32) (hb hby at_46) rfl k) ?_
        refine own_go (B := T83.setTop (mkF m 48 #[.val (.int p0), .val (.int p1), .val (.int p2), .val (.int (14 : Int32)), .val (.ref (A 2)), .val (.int (p2 &&& (3 : Int32))), .unset, .unset] [(.int (p1 &&& (3 : Int32)))])) (fun _ k => XS.iand X83.here hx rfl (hb hby at_47) rfl k) ?_
        refine own_go (B := T83.setTop (mkF m 50 #[.val (.int p0), .val (.int p1), .val (.int p2), .val (.int (14 : Int32)), .val (.ref (A 2)), .val (.int (p2 &&& (3 : Int32))), .val (.int (p1 &&& (3 : Int32))), .unset] [])) (fun _ k => XS.istore X83.here hx rfl (hb hby at_48) rfl (l' := #[.val (.int p0), .val (.int p1), .val (.int p2), .val (.int (14 : Int32)), .val (.ref (A 2)), .val (.int (p2 &&& (3 : Int32))), .val (.int (p1 &&& (3 : Int32))), .unset]) rfl k) ?_
        exact tail _
set_option maxRecDepth 65536 in
set_option maxHeartbeats 40000000 in
theorem comes_1 {Post : Tables → Env → Array Value → State → Outcome → State → Prop} (hpost : ∀ tb e args s v u, (limb_1_1.after args s (.returned v) u = true ∧ limb_1_2.after args s (.returned v) u = true ∧ True) → FrameEnd s (.returned v) u (Jvm.fieldLocs frame_1_writes args s ++ Jvm.arrayLocs frame_1_arrays args s ++ Jvm.staticLocs frame_1_statics s) 0 0 → Post tb e args s (.returned v) u) :
    ArmFor flags0 classFile x code maxLocals ret World_1 tables_1 room_1 Calls_1 rest_1 Pre_1 Post := by
  intro l hfl _ _ p e ha hc hk s m args below hf hA hF happ hP
  obtain ⟨hcalls, hrest, hpre⟩ := hP
  obtain ⟨-, -, -, hnamed, -, -, -, hat⟩ := (Spec.applies_iff hf).mp happ
  obtain ⟨hg, hn⟩ := and_e (Cond.before_iff.mp (show (Jvm.Cond.and given_1 narrow_1).before args s = true from hpre))
  obtain ⟨g1a, g1b⟩ := and_e hg
  obtain ⟨g2a, g2b⟩ := and_e g1b
  obtain ⟨g3a, g3b⟩ := and_e g2b
  obtain ⟨w0, w1, w2, rfl⟩ : ∃ w0 w1 w2 : Value, args = #[w0, w1, w2] := by
    have hs : args.size = 3 := by simpa [Cond.value, given_1] using g1a
    obtain ⟨L⟩ := args
    match L, hs with
    | [w0, w1, w2], _ => exact ⟨w0, w1, w2, rfl⟩
  have hw := fun d (hd : d ∈ tables_1) => atoms_spec (ws := Jvm.Cond.code x code maxLocals ret :: tables_1) hat d (List.mem_cons_of_mem _ hd)
  obtain ⟨i0, ei0⟩ := is_v g2a
  obtain rfl : w0 = (.int i0) := Option.some.inj ei0
  obtain ⟨i1, ei1⟩ := is_v g3a
  obtain rfl : w1 = (.int i1) := Option.some.inj ei1
  obtain ⟨i2, ei2⟩ := is_v g3b
  obtain rfl : w2 = (.int i2) := Option.some.inj ei2
  obtain ⟨u1a, u1b⟩ := and_e hn
  obtain ⟨u2a, u2b⟩ := and_e u1b
  obtain ⟨u3a, u3b⟩ := and_e u2b
  obtain ⟨u4a, u4b⟩ := and_e u3b
  obtain ⟨u5a, u5b⟩ := and_e u4b
  obtain ⟨u6a, u6b⟩ := and_e u5b
  obtain ⟨u7a, u7b⟩ := and_e u6b
  obtain ⟨u8a, u8b⟩ := and_e u7b
  obtain ⟨u9a, u9b⟩ := and_e u8b
  obtain ⟨u10a, u10b⟩ := and_e u9b
  obtain ⟨u11a, u11b⟩ := and_e u10b
  obtain ⟨u12a, u12b⟩ := and_e u11b
  obtain ⟨u13a, u13b⟩ := and_e u12b
  obtain ⟨u14a, u14b⟩ := and_e u13b
  obtain ⟨u15a, u15b⟩ := and_e u14b
  obtain ⟨u16a, u16b⟩ := and_e u15b
  obtain ⟨u17a, u17b⟩ := and_e u16b
  obtain ⟨u18a, u18b⟩ := and_e u17b
  obtain ⟨u19a, u19b⟩ := and_e u18b
  obtain ⟨u20a, u20b⟩ := and_e u19b
  obtain ⟨u21a, u21b⟩ := and_e u20b
  obtain ⟨u22a, u22b⟩ := and_e u21b
  obtain ⟨u23a, u23b⟩ := and_e u22b
  obtain ⟨u24a, u24b⟩ := and_e u23b
  obtain ⟨u25a, u25b⟩ := and_e u24b
  obtain ⟨u26a, u26b⟩ := and_e u25b
  obtain ⟨u27a, u27b⟩ := and_e u26b
  obtain ⟨u28a, u28b⟩ := and_e u27b
  obtain ⟨u29a, u29b⟩ := and_e u28b
  obtain ⟨a_CONNECT, ev_CONNECT⟩ := exa_v u1a
  obtain ⟨a_CONNACK, ev_CONNACK⟩ := exa_v u3a
  obtain ⟨a_AUTH, ev_AUTH⟩ := exa_v u5a
  obtain ⟨a_PUBREL, ev_PUBREL⟩ := exa_v u7a
  obtain ⟨a_SUBACK, ev_SUBACK⟩ := exa_v u9a
  obtain ⟨a_UNSUBSCRIBE, ev_UNSUBSCRIBE⟩ := exa_v u11a
  obtain ⟨a_UNSUBACK, ev_UNSUBACK⟩ := exa_v u13a
  obtain ⟨a_PUBACK, ev_PUBACK⟩ := exa_v u15a
  obtain ⟨a_PINGREQ, ev_PINGREQ⟩ := exa_v u17a
  obtain ⟨a_PUBLISH, ev_PUBLISH⟩ := exa_v u19a
  obtain ⟨a_PUBREC, ev_PUBREC⟩ := exa_v u21a
  obtain ⟨a_SUBSCRIBE, ev_SUBSCRIBE⟩ := exa_v u23a
  obtain ⟨a_PUBCOMP, ev_PUBCOMP⟩ := exa_v u25a
  obtain ⟨a_DISCONNECT, ev_DISCONNECT⟩ := exa_v u27a
  obtain ⟨a_PINGRESP, ev_PINGRESP⟩ := exa_v u29a
  obtain ⟨n, o, h1, h2, h3, _, L, rfl, ⟨rfl, N⟩, hq⟩ := rm0 l s _ hw tables_1 i0 i1 i2 (fun n => [a_CONNECT, a_CONNACK, a_AUTH, a_PUBREL, a_SUBACK, a_UNSUBSCRIBE, a_UNSUBACK, a_PUBACK, a_PINGREQ, a_PUBLISH, a_PUBREC, a_SUBSCRIBE, a_PUBCOMP, a_DISCONNECT, a_PINGRESP].getD n 0) ⟨(Sta.start ev_CONNECT (Or.inr ⟨(hw _ (List.mem_of_getElem? (i := 6) rfl)), (hw _ (List.mem_of_getElem? (i := 7) rfl))⟩)), (Exa.start ev_CONNECT u1a), (Sta.start ev_CONNACK (Or.inr ⟨(hw _ (List.mem_of_getElem? (i := 6) rfl)), (hw _ (List.mem_of_getElem? (i := 16) rfl))⟩)), (Exa.start ev_CONNACK u3a), (Sta.start ev_AUTH (Or.inr ⟨(hw _ (List.mem_of_getElem? (i := 6) rfl)), (hw _ (List.mem_of_getElem? (i := 18) rfl))⟩)), (Exa.start ev_AUTH u5a), (Sta.start ev_PUBREL (Or.inr ⟨(hw _ (List.mem_of_getElem? (i := 6) rfl)), (hw _ (List.mem_of_getElem? (i := 20) rfl))⟩)), (Exa.start ev_PUBREL u7a), (Sta.start ev_SUBACK (Or.inr ⟨(hw _ (List.mem_of_getElem? (i := 6) rfl)), (hw _ (List.mem_of_getElem? (i := 22) rfl))⟩)), (Exa.start ev_SUBACK u9a), (Sta.start ev_UNSUBSCRIBE (Or.inr ⟨(hw _ (List.mem_of_getElem? (i := 6) rfl)), (hw _ (List.mem_of_getElem? (i := 24) rfl))⟩)), (Exa.start ev_UNSUBSCRIBE u11a), (Sta.start ev_UNSUBACK (Or.inr ⟨(hw _ (List.mem_of_getElem? (i := 6) rfl)), (hw _ (List.mem_of_getElem? (i := 26) rfl))⟩)), (Exa.start ev_UNSUBACK u13a), (Sta.start ev_PUBACK (Or.inr ⟨(hw _ (List.mem_of_getElem? (i := 6) rfl)), (hw _ (List.mem_of_getElem? (i := 28) rfl))⟩)), (Exa.start ev_PUBACK u15a), (Sta.start ev_PINGREQ (Or.inr ⟨(hw _ (List.mem_of_getElem? (i := 6) rfl)), (hw _ (List.mem_of_getElem? (i := 30) rfl))⟩)), (Exa.start ev_PINGREQ u17a), (Sta.start ev_PUBLISH (Or.inr ⟨(hw _ (List.mem_of_getElem? (i := 6) rfl)), (hw _ (List.mem_of_getElem? (i := 32) rfl))⟩)), (Exa.start ev_PUBLISH u19a), (Sta.start ev_PUBREC (Or.inr ⟨(hw _ (List.mem_of_getElem? (i := 6) rfl)), (hw _ (List.mem_of_getElem? (i := 34) rfl))⟩)), (Exa.start ev_PUBREC u21a), (Sta.start ev_SUBSCRIBE (Or.inr ⟨(hw _ (List.mem_of_getElem? (i := 6) rfl)), (hw _ (List.mem_of_getElem? (i := 36) rfl))⟩)), (Exa.start ev_SUBSCRIBE u23a), (Sta.start ev_PUBCOMP (Or.inr ⟨(hw _ (List.mem_of_getElem? (i := 6) rfl)), (hw _ (List.mem_of_getElem? (i := 38) rfl))⟩)), (Exa.start ev_PUBCOMP u25a), (Sta.start ev_DISCONNECT (Or.inr ⟨(hw _ (List.mem_of_getElem? (i := 6) rfl)), (hw _ (List.mem_of_getElem? (i := 40) rfl))⟩)), (Exa.start ev_DISCONNECT u27a), (Sta.start ev_PINGRESP (Or.inr ⟨(hw _ (List.mem_of_getElem? (i := 6) rfl)), (hw _ (List.mem_of_getElem? (i := 42) rfl))⟩)), (Exa.start ev_PINGRESP u29a), (own_fI ev_CONNECT u2a), (own_fI ev_CONNACK u4a), (own_fI ev_AUTH u6a), (own_fI ev_PUBREL u8a), (own_fI ev_SUBACK u10a), (own_fI ev_UNSUBSCRIBE u12a), (own_fI ev_UNSUBACK u14a), (own_fI ev_PUBACK u16a), (own_fI ev_PINGREQ u18a), (own_fI ev_PUBLISH u20a), (own_fI ev_PUBREC u22a), (own_fI ev_SUBSCRIBE u24a), (own_fI ev_PUBCOMP u26a), (own_fI ev_DISCONNECT u28a), (own_fI ev_PINGRESP u29b)⟩ s.heap (own_xr _) p e ha hc hk s m _ below hf ((Spec.applies_iff_loose hf).mp happ).1 ⟨rfl, State.Warmed39.refl s, rfl⟩ trivial
  refine ⟨n, _, h1, h2, h3, hpost _ _ _ _ _ _ ⟨Cond.after_iff.mpr rfl, Cond.after_iff.mpr (eq_i res_at (Term.int_eval (1)) rfl), trivial⟩ ⟨hq.1, hq.2.1, (hq.2.2.sift fun y hy => Or.inr (N y hy)).mono (by decide) (by decide)⟩⟩
theorem main_1_1 : Claimed_1_1 := comes_1 fun _ _ _ _ _ _ h hF => ⟨h.1, hF⟩
theorem main_1_2 : Claimed_1_2 := comes_1 fun _ _ _ _ _ _ h hF => ⟨h.2.1, hF⟩
end Jvm.Pilot.@@N@@
namespace Jvm.Pilot.@@N@@
open Jvm Jvm.ClassFile Sem Op Lib Jvm.Free Jvm.Stand Jvm.Pilot.@@N@@.Jvm.D
/-! MADE BY PROGRAM (witnessworld.py) out of the Statement's table words and the real class files: 12 classes; the members and pool entries that the words name. The judged class is class 1, her method 2. -/
namespace start1
open Jvm.ClassFile
def u (s : String) : CpInfo := .utf8 (stringToUtf16 s)
/-- a pool by its gaps: so many unusable entries, then the entry; so many at the end -/
def gap : Nat → List CpInfo → List CpInfo
  | 0, r => r
  | n + 1, r => .unusable :: gap n r
def poolList (es : List (Nat × CpInfo)) (last : Nat) : List CpInfo := es.foldr (fun e r => gap e.1 (e.2 :: r)) (gap last [])
def pool (es : List (Nat × CpInfo)) (last : Nat) : Array CpInfo := ⟨poolList es last⟩
def fileOf (pool : Array CpInfo) (this : Nat) (attrs : Array Attribute := #[]) (ms : Array MethodInfo := #[]) (fl : Nat := 33) (sup : Nat := 0) (ifs : Array Nat := #[]) (fds : Array FieldInfo := #[]) : ClassFile where
  minorVersion := 0
  majorVersion := 65
  constantPool := pool
  accessFlags := fl
  thisClass := this
  superClass := sup
  interfaces := ifs
  fields := fds
  methods := ms
  attributes := attrs
def plain (name : String) (sup : Option ClassId) : Class where
  name := name
  kind := .ordinary
  loader := none
  accessFlags := 33
  super := sup
  interfaces := #[]
  cf := none
  fields := #[]
  methods := #[]
  instanceTypes := #[]
  staticTypes := #[]
  resolved := #[]
  callSites := []
  init := .initialized
  statics := none
  mirror := none

def pool0 : Array CpInfo := pool [(5, u "<init>"), (0, u "()V"), (1, .class_ 10), (1, u "java/lang/Object")] 113

def k0m0 : Method := { name := "<init>", desc := "()V", sig := { parameters := [], returnType := none }, accessFlags := 1, code := none }
/-- java/lang/Object -/
def k0 : Class := { plain "java/lang/Object" none with
  accessFlags := 33
  interfaces := #[]
  cf := some (fileOf pool0 8 #[] #[{ accessFlags := 1, nameIndex := 5, descriptorIndex := 6, attributes := #[] }] 33 0 #[] #[])
  fields := #[]
  methods := #[k0m0]
  instanceTypes := #[]
  staticTypes := #[]
  resolved := Array.replicate 124 none
  statics := none }

def pool1 : Array CpInfo := pool [(2, .class_ 4), (1, u "java/lang/Object"), (0, u "<init>"), (0, u "()V"), (0, .fieldref 8 9), (0, .class_ 10), (0, .nameAndType 11 12), (0, u "com/example/ferrybus/ferrybus/codec/PacketType"), (0, u "CONNECT"), (0, u "Lcom/example/ferrybus/ferrybus/codec/PacketType;"), (0, .fieldref 8 14), (0, .nameAndType 15 12), (0, u "CONNACK"), (0, .fieldref 8 17), (0, .nameAndType 18 12), (0, u "PUBLISH"), (0, .fieldref 8 20), (0, .nameAndType 21 12), (0, u "PUBACK"), (0, .fieldref 8 23), (0, .nameAndType 24 12), (0, u "PUBREC"), (0, .fieldref 8 26), (0, .nameAndType 27 12), (0, u "PUBREL"), (0, .fieldref 8 29), (0, .nameAndType 30 12), (0, u "PUBCOMP"), (0, .fieldref 8 32), (0, .nameAndType 33 12), (0, u "SUBSCRIBE"), (0, .fieldref 8 35), (0, .nameAndType 36 12), (0, u "SUBACK"), (0, .fieldref 8 38), (0, .nameAndType 39 12), (0, u "UNSUBSCRIBE"), (0, .fieldref 8 41), (0, .nameAndType 42 12), (0, u "UNSUBACK"), (0, .fieldref 8 44), (0, .nameAndType 45 12), (0, u "PINGREQ"), (0, .fieldref 8 47), (0, .nameAndType 48 12), (0, u "PINGRESP"), (0, .fieldref 8 50), (0, .nameAndType 51 12), (0, u "DISCONNECT"), (0, .fieldref 8 53), (0, .nameAndType 54 12), (0, u "AUTH"), (0, .integer 2147483647), (0, .methodref 57 58), (0, .class_ 59), (0, .nameAndType 60 61), (0, u "com/example/ferrybus/ferrybus/codec/PacketTypeAllowsPinLaw"), (0, u "pick"), (0, u "(I)Lcom/example/ferrybus/ferrybus/codec/PacketType;"), (0, .methodref 8 63), (0, .nameAndType 64 65), (0, u "allows"), (0, u "(I)Z"), (3, u "law"), (0, u "(III)Z")] 2

def k1m0 : Method := { name := "<init>", desc := "()V", sig := { parameters := [], returnType := none }, accessFlags := 1, code := none }
def k1c1 : Code := { maxStack := 2, maxLocals := 1, code := method_2_code, exceptionTable := #[], attributes := #[] }
def k1m1 : Method := { name := "pick", desc := "(I)Lcom/example/ferrybus/ferrybus/codec/PacketType;", sig := { parameters := [.int], returnType := some (.object "com/example/ferrybus/ferrybus/codec/PacketType") }, accessFlags := 10, code := some k1c1 }
def k1c2 : Code := { maxStack := 2, maxLocals := 8, code := code, exceptionTable := #[], attributes := #[] }
def k1m2 : Method := { name := "law", desc := "(III)Z", sig := { parameters := [.int, .int, .int], returnType := some .boolean }, accessFlags := 9, code := some k1c2 }
/-- com/example/ferrybus/ferrybus/codec/PacketTypeAllowsPinLaw -/
def k1 : Class := { plain "com/example/ferrybus/ferrybus/codec/PacketTypeAllowsPinLaw" (some 0) with
  accessFlags := 49
  interfaces := #[]
  cf := some (fileOf pool1 57 #[] #[{ accessFlags := 1, nameIndex := 5, descriptorIndex := 6, attributes := #[] }, { accessFlags := 10, nameIndex := 60, descriptorIndex := 61, attributes := #[] }, { accessFlags := 9, nameIndex := 69, descriptorIndex := 70, attributes := #[] }] 49 2 #[] #[])
  fields := #[]
  methods := #[k1m0, k1m1, k1m2]
  instanceTypes := #[]
  staticTypes := #[]
  resolved := Array.replicate 73 none
  statics := none }

def pool2 : Array CpInfo := pool [(1, .class_ 2), (0, u "java/lang/constant/Constable"), (0, .class_ 4), (0, u "java/lang/Object")] 6

/-- java/lang/constant/Constable -/
def k2 : Class := { plain "java/lang/constant/Constable" (some 0) with
  accessFlags := 1537
  interfaces := #[]
  cf := some (fileOf pool2 1 #[] #[] 1537 3 #[] #[])
  fields := #[]
  methods := #[]
  instanceTypes := #[]
  staticTypes := #[]
  resolved := Array.replicate 11 none
  statics := none }

def pool3 : Array CpInfo := pool [(1, .class_ 2), (0, u "java/lang/Comparable"), (0, .class_ 4), (0, u "java/lang/Object")] 7

/-- java/lang/Comparable -/
def k3 : Class := { plain "java/lang/Comparable" (some 0) with
  accessFlags := 1537
  interfaces := #[]
  cf := some (fileOf pool3 1 #[] #[] 1537 3 #[] #[])
  fields := #[]
  methods := #[]
  instanceTypes := #[]
  staticTypes := #[]
  resolved := Array.replicate 12 none
  statics := none }

def pool4 : Array CpInfo := pool [(1, .class_ 2), (0, u "java/io/Serializable"), (0, .class_ 4), (0, u "java/lang/Object")] 2

/-- java/io/Serializable -/
def k4 : Class := { plain "java/io/Serializable" (some 0) with
  accessFlags := 1537
  interfaces := #[]
  cf := some (fileOf pool4 1 #[] #[] 1537 3 #[] #[])
  fields := #[]
  methods := #[]
  instanceTypes := #[]
  staticTypes := #[]
  resolved := Array.replicate 7 none
  statics := none }

def pool5 : Array CpInfo := pool [(2, .class_ 4), (1, u "java/lang/Enum"), (0, u "name"), (0, u "Ljava/lang/String;"), (2, u "ordinal"), (0, u "I"), (1, .class_ 14), (1, u "java/lang/Object"), (4, u "hash"), (86, .class_ 108), (1, u "java/lang/Enum$EnumDesc"), (2, .class_ 112), (0, u "java/lang/constant/Constable"), (0, .class_ 114), (0, u "java/lang/Comparable"), (0, .class_ 116), (0, u "java/io/Serializable")] 87

/-- java/lang/Enum -/
def k5 : Class := { plain "java/lang/Enum" (some 0) with
  accessFlags := 1057
  interfaces := #[2, 3, 4]
  cf := some (fileOf pool5 2 #[.nestMembers #[106]] #[] 1057 12 #[111, 113, 115] #[{ accessFlags := 18, nameIndex := 5, descriptorIndex := 6, attributes := #[] }, { accessFlags := 18, nameIndex := 9, descriptorIndex := 10, attributes := #[] }, { accessFlags := 2, nameIndex := 19, descriptorIndex := 10, attributes := #[] }])
  fields := #[{ name := "name", type := (.object "java/lang/String"), accessFlags := 18, slot := 0, constantValue := 0 }, { name := "ordinal", type := .int, accessFlags := 18, slot := 1, constantValue := 0 }, { name := "hash", type := .int, accessFlags := 2, slot := 2, constantValue := 0 }]
  methods := #[]
  instanceTypes := #[(.object "java/lang/String"), .int, .int]
  staticTypes := #[]
  resolved := Array.replicate 204 none
  statics := none }

def pool6 : Array CpInfo := pool [(1, .class_ 2), (0, u "com/example/ferrybus/ferrybus/codec/PacketType"), (2, u "CONNECT"), (0, u "Lcom/example/ferrybus/ferrybus/codec/PacketType;"), (2, u "CONNACK"), (2, u "PUBLISH"), (2, u "PUBACK"), (2, u "PUBREC"), (2, u "PUBREL"), (2, u "PUBCOMP"), (2, u "SUBSCRIBE"), (2, u "SUBACK"), (2, u "UNSUBSCRIBE"), (2, u "UNSUBACK"), (2, u "PINGREQ"), (2, u "PINGRESP"), (2, u "DISCONNECT"), (2, u "AUTH"), (2, u "$VALUES"), (0, u "[Lcom/example/ferrybus/ferrybus/codec/PacketType;"), (6, .class_ 61), (1, u "java/lang/Enum"), (8, u "value"), (0, u "I"), (0, .fieldref 1 73), (0, .nameAndType 74 71), (0, u "flags"), (2, u "BY_VALUE"), (25, u "PUBLISH_DUP"), (2, u "PUBLISH_RETAIN"), (1, u "PUBLISH_QOS_SHIFT"), (0, u "FLAGS_VARY"), (9, u "allows"), (0, u "(I)Z")] 8

def k6c0 : Code := { maxStack := 2, maxLocals := 2, code := prog_32_method_5_code, exceptionTable := #[], attributes := #[] }
def k6m0 : Method := { name := "allows", desc := "(I)Z", sig := { parameters := [.int], returnType := some .boolean }, accessFlags := 0, code := some k6c0 }
/-- com/example/ferrybus/ferrybus/codec/PacketType -/
def k6 : Class := { plain "com/example/ferrybus/ferrybus/codec/PacketType" (some 5) with
  accessFlags := 16432
  interfaces := #[]
  cf := some (fileOf pool6 1 #[] #[{ accessFlags := 0, nameIndex := 119, descriptorIndex := 120, attributes := #[] }] 16432 59 #[] #[{ accessFlags := 16409, nameIndex := 5, descriptorIndex := 6, attributes := #[] }, { accessFlags := 16409, nameIndex := 9, descriptorIndex := 6, attributes := #[] }, { accessFlags := 16409, nameIndex := 12, descriptorIndex := 6, attributes := #[] }, { accessFlags := 16409, nameIndex := 15, descriptorIndex := 6, attributes := #[] }, { accessFlags := 16409, nameIndex := 18, descriptorIndex := 6, attributes := #[] }, { accessFlags := 16409, nameIndex := 21, descriptorIndex := 6, attributes := #[] }, { accessFlags := 16409, nameIndex := 24, descriptorIndex := 6, attributes := #[] }, { accessFlags := 16409, nameIndex := 27, descriptorIndex := 6, attributes := #[] }, { accessFlags := 16409, nameIndex := 30, descriptorIndex := 6, attributes := #[] }, { accessFlags := 16409, nameIndex := 33, descriptorIndex := 6, attributes := #[] }, { accessFlags := 16409, nameIndex := 36, descriptorIndex := 6, attributes := #[] }, { accessFlags := 16409, nameIndex := 39, descriptorIndex := 6, attributes := #[] }, { accessFlags := 16409, nameIndex := 42, descriptorIndex := 6, attributes := #[] }, { accessFlags := 16409, nameIndex := 45, descriptorIndex := 6, attributes := #[] }, { accessFlags := 16409, nameIndex := 48, descriptorIndex := 6, attributes := #[] }, { accessFlags := 24, nameIndex := 103, descriptorIndex := 71, attributes := #[] }, { accessFlags := 24, nameIndex := 106, descriptorIndex := 71, attributes := #[] }, { accessFlags := 24, nameIndex := 108, descriptorIndex := 71, attributes := #[] }, { accessFlags := 26, nameIndex := 109, descriptorIndex := 71, attributes := #[] }, { accessFlags := 26, nameIndex := 77, descriptorIndex := 52, attributes := #[] }, { accessFlags := 18, nameIndex := 70, descriptorIndex := 71, attributes := #[] }, { accessFlags := 18, nameIndex := 74, descriptorIndex := 71, attributes := #[] }, { accessFlags := 4122, nameIndex := 51, descriptorIndex := 52, attributes := #[] }])
  fields := #[{ name := "CONNECT", type := (.object "com/example/ferrybus/ferrybus/codec/PacketType"), accessFlags := 16409, slot := 0, constantValue := 0 }, { name := "CONNACK", type := (.object "com/example/ferrybus/ferrybus/codec/PacketType"), accessFlags := 16409, slot := 1, constantValue := 0 }, { name := "PUBLISH", type := (.object "com/example/ferrybus/ferrybus/codec/PacketType"), accessFlags := 16409, slot := 2, constantValue := 0 }, { name := "PUBACK", type := (.object "com/example/ferrybus/ferrybus/codec/PacketType"), accessFlags := 16409, slot := 3, constantValue := 0 }, { name := "PUBREC", type := (.object "com/example/ferrybus/ferrybus/codec/PacketType"), accessFlags := 16409, slot := 4, constantValue := 0 }, { name := "PUBREL", type := (.object "com/example/ferrybus/ferrybus/codec/PacketType"), accessFlags := 16409, slot := 5, constantValue := 0 }, { name := "PUBCOMP", type := (.object "com/example/ferrybus/ferrybus/codec/PacketType"), accessFlags := 16409, slot := 6, constantValue := 0 }, { name := "SUBSCRIBE", type := (.object "com/example/ferrybus/ferrybus/codec/PacketType"), accessFlags := 16409, slot := 7, constantValue := 0 }, { name := "SUBACK", type := (.object "com/example/ferrybus/ferrybus/codec/PacketType"), accessFlags := 16409, slot := 8, constantValue := 0 }, { name := "UNSUBSCRIBE", type := (.object "com/example/ferrybus/ferrybus/codec/PacketType"), accessFlags := 16409, slot := 9, constantValue := 0 }, { name := "UNSUBACK", type := (.object "com/example/ferrybus/ferrybus/codec/PacketType"), accessFlags := 16409, slot := 10, constantValue := 0 }, { name := "PINGREQ", type := (.object "com/example/ferrybus/ferrybus/codec/PacketType"), accessFlags := 16409, slot := 11, constantValue := 0 }, { name := "PINGRESP", type := (.object "com/example/ferrybus/ferrybus/codec/PacketType"), accessFlags := 16409, slot := 12, constantValue := 0 }, { name := "DISCONNECT", type := (.object "com/example/ferrybus/ferrybus/codec/PacketType"), accessFlags := 16409, slot := 13, constantValue := 0 }, { name := "AUTH", type := (.object "com/example/ferrybus/ferrybus/codec/PacketType"), accessFlags := 16409, slot := 14, constantValue := 0 }, { name := "PUBLISH_DUP", type := .int, accessFlags := 24, slot := 15, constantValue := 0 }, { name := "PUBLISH_RETAIN", type := .int, accessFlags := 24, slot := 16, constantValue := 0 }, { name := "PUBLISH_QOS_SHIFT", type := .int, accessFlags := 24, slot := 17, constantValue := 0 }, { name := "FLAGS_VARY", type := .int, accessFlags := 26, slot := 18, constantValue := 0 }, { name := "BY_VALUE", type := (.array (.object "com/example/ferrybus/ferrybus/codec/PacketType")), accessFlags := 26, slot := 19, constantValue := 0 }, { name := "value", type := .int, accessFlags := 18, slot := 3, constantValue := 0 }, { name := "flags", type := .int, accessFlags := 18, slot := 4, constantValue := 0 }, { name := "$VALUES", type := (.array (.object "com/example/ferrybus/ferrybus/codec/PacketType")), accessFlags := 4122, slot := 20, constantValue := 0 }]
  methods := #[k6m0]
  instanceTypes := #[(.object "java/lang/String"), .int, .int, .int, .int]
  staticTypes := #[(.object "com/example/ferrybus/ferrybus/codec/PacketType"), (.object "com/example/ferrybus/ferrybus/codec/PacketType"), (.object "com/example/ferrybus/ferrybus/codec/PacketType"), (.object "com/example/ferrybus/ferrybus/codec/PacketType"), (.object "com/example/ferrybus/ferrybus/codec/PacketType"), (.object "com/example/ferrybus/ferrybus/codec/PacketType"), (.object "com/example/ferrybus/ferrybus/codec/PacketType"), (.object "com/example/ferrybus/ferrybus/codec/PacketType"), (.object "com/example/ferrybus/ferrybus/codec/PacketType"), (.object "com/example/ferrybus/ferrybus/codec/PacketType"), (.object "com/example/ferrybus/ferrybus/codec/PacketType"), (.object "com/example/ferrybus/ferrybus/codec/PacketType"), (.object "com/example/ferrybus/ferrybus/codec/PacketType"), (.object "com/example/ferrybus/ferrybus/codec/PacketType"), (.object "com/example/ferrybus/ferrybus/codec/PacketType"), .int, .int, .int, .int, (.array (.object "com/example/ferrybus/ferrybus/codec/PacketType")), (.array (.object "com/example/ferrybus/ferrybus/codec/PacketType"))]
  resolved := Array.replicate 129 none
  statics := some 0 }

def pool7 : Array CpInfo := pool [(1, u "java/lang/Cloneable"), (0, .class_ 1), (0, u "java/lang/Object"), (0, .class_ 3)] 3

/-- java/lang/Cloneable -/
def k7 : Class := { plain "java/lang/Cloneable" (some 0) with
  accessFlags := 1537
  interfaces := #[]
  cf := some (fileOf pool7 2 #[] #[] 1537 4 #[] #[])
  fields := #[]
  methods := #[]
  instanceTypes := #[]
  staticTypes := #[]
  resolved := Array.replicate 8 none
  statics := none }

/-- the primitive byte -/
def k8 : Class := { plain "byte" none with kind := .primitive 'B', accessFlags := 0x411 }
/-- [B -/
def k9 : Class := { plain "[B" (some 0) with kind := .array 8 .byte, interfaces := #[7, 4], accessFlags := 1041 }

/-- the primitive int -/
def k10 : Class := { plain "int" none with kind := .primitive 'I', accessFlags := 0x411 }
/-- [I -/
def k11 : Class := { plain "[I" (some 0) with kind := .array 10 .int, interfaces := #[7, 4], accessFlags := 1041 }

def heap : Heap := #[{ cls := 6, slots := #[.ref 1, .ref 2, .ref 10, .ref 8, .ref 11, .ref 4, .ref 13, .ref 12, .ref 5, .ref 6, .ref 7, .ref 9, .ref 15, .ref 14, .ref 3, .int 0, .int 0, .int 0, .int 0, .null, .null], vm := .statics 6 },
  { cls := 6, slots := #[.null, .int 0, .int 0, .int 0, .int 0], vm := .none },
  { cls := 6, slots := #[.null, .int 0, .int 0, .int 0, .int 0], vm := .none },
  { cls := 6, slots := #[.null, .int 0, .int 0, .int 0, .int 0], vm := .none },
  { cls := 6, slots := #[.null, .int 0, .int 0, .int 0, .int 2], vm := .none },
  { cls := 6, slots := #[.null, .int 0, .int 0, .int 0, .int 0], vm := .none },
  { cls := 6, slots := #[.null, .int 0, .int 0, .int 0, .int 2], vm := .none },
  { cls := 6, slots := #[.null, .int 0, .int 0, .int 0, .int 0], vm := .none },
  { cls := 6, slots := #[.null, .int 0, .int 0, .int 0, .int 0], vm := .none },
  { cls := 6, slots := #[.null, .int 0, .int 0, .int 0, .int 0], vm := .none },
  { cls := 6, slots := #[.null, .int 0, .int 0, .int 0, .int (-1)], vm := .none },
  { cls := 6, slots := #[.null, .int 0, .int 0, .int 0, .int 0], vm := .none },
  { cls := 6, slots := #[.null, .int 0, .int 0, .int 0, .int 2], vm := .none },
  { cls := 6, slots := #[.null, .int 0, .int 0, .int 0, .int 0], vm := .none },
  { cls := 6, slots := #[.null, .int 0, .int 0, .int 0, .int 0], vm := .none },
  { cls := 6, slots := #[.null, .int 0, .int 0, .int 0, .int 0], vm := .none }]
def classes : Array Class := #[k0, k1, k2, k3, k4, k5, k6, k7, k8, k9, k10, k11]
def interned : List (Array UInt16 × Addr) := []
def slotsUsed : Nat := 96
def theMethod : MethodId := ⟨1, 2⟩
def args0 : Array Value := #[.int 5, .int 2, .int 1]
def aboutOver (below : List Frame) : State where
  vm := { classes := classes, interned := interned.toArray }
  heap := heap
  slotsUsed := slotsUsed
  threads := #[{ frames := .invoking theMethod args0 :: below }]
def below0 : List Frame := [.native { method := ⟨0, 0⟩, args := #[] }]
def about1 : State := aboutOver below0
def p0 : Program := .bare "" "" ""
def e0 : Env := launch0.env 0 0 0
theorem w_frames : about1.frames = Frame.invoking theMethod args0 :: below0 := rfl
set_option maxRecDepth 65536 in
theorem w_args : argsFit about1.vm theMethod args0 = true := by decide +kernel
set_option maxRecDepth 65536 in
theorem w_heap : heapFits about1 = true := by decide +kernel
set_option maxRecDepth 65536 in
theorem w_runnable : about1.curStatus? = some .runnable := by decide +kernel
set_option maxRecDepth 65536 in
theorem w_alone : about1.alone = true := by decide +kernel
set_option maxRecDepth 65536 in
theorem w_named : about1.methodNamed? x = some theMethod := by decide +kernel
set_option maxRecDepth 65536 in
theorem w_hears : about1.hears theMethod below0 = true := by decide +kernel
set_option maxRecDepth 65536 in
theorem w_ripe : about1.ripe theMethod args0 below0 = true := by decide +kernel
theorem w_running : about1.status = .running := rfl
set_option maxRecDepth 65536 in
theorem w_room : about1.hasRoom e0.platform room_1 = true :=
  launch0.hasRoom_least _ room_1 (by decide +kernel) (by decide +kernel) (by decide +kernel) (by decide +kernel) (by decide +kernel) (by decide +kernel)
theorem allAtoms_all (ts : List Jvm.Cond) (a : Array Jvm.Value) (st : Jvm.State) : (allAtoms ts).before a st = ts.all (fun c => c.before a st) := by
  induction ts with
  | nil => rfl
  | cons c t ih =>
    show (Jvm.Cond.and c (allAtoms t)).before a st = _
    rw [Jvm.Cond.before_and, ih, List.all_cons]
def words1 : List Jvm.Cond := Jvm.Cond.code x code maxLocals ret :: tables_1
/-- a 'code' word, met by the world's own term for the bytes: nothing is compared byte by byte -/
theorem code_word {y : MethodName} {bytes : ByteArray} {mx : Nat} {rt : Option FieldType} {a : Array Value} {s : State} {m : MethodId} {meth : Method} {c : Code} (h1 : s.methodNamed? y = some m) (h2 : s.vm.method? m = some meth) (h3 : meth.code = some c) (h4 : c.code = bytes)
    (h5 : (c.maxLocals == mx && c.exceptionTable.isEmpty && decide (c.maxStack ≤ mostOperands) && decide (meth.sig.returnType = rt) && !meth.locks && decide (parseMethodDescriptor y.desc = some meth.sig)) = true) : (Jvm.Cond.code y bytes mx rt).before a s = true := by
  simp only [Bool.and_eq_true, beq_iff_eq, Bool.not_eq_true', decide_eq_true_eq] at h5
  obtain ⟨⟨⟨⟨⟨g1, g2⟩, g3⟩, g4⟩, g5⟩, g6⟩ := h5
  simp [Cond.before, Cond.holds, Cond.value, h1, h2, h3, h4, g1, g2, g3, g4, g5, g6]
def isCode : Jvm.Cond → Bool
  | .code _ _ _ _ => true
  | _ => false
theorem all_split {L : List Jvm.Cond} {P : Jvm.Cond → Bool} (h1 : L.all (fun c => isCode c || P c) = true) (h2 : ∀ c ∈ L.filter isCode, P c = true) : L.all P = true := by
  refine List.all_eq_true.mpr fun c hc => ?_
  have h := List.all_eq_true.mp h1 c hc
  rcases Bool.eq_false_or_eq_true (isCode c) with hi | hi
  · exact h2 c (List.mem_filter.mpr ⟨hc, hi⟩)
  · simpa [hi] using h
set_option maxRecDepth 65536 in
theorem w_c0 : (Jvm.Cond.code x code maxLocals ret).before args0 about1 = true := code_word (m := ⟨1, 2⟩) (meth := k1m2) (c := k1c2) (by decide +kernel) rfl rfl rfl (by decide +kernel)
set_option maxRecDepth 65536 in
theorem w_c1 : (Jvm.Cond.code ({ cls := "com/example/ferrybus/ferrybus/codec/PacketTypeAllowsPinLaw", name := "pick", desc := "(I)Lcom/example/ferrybus/ferrybus/codec/PacketType;" } : Jvm.MethodName) method_2_code (1 : Nat) (Option.some (Jvm.ClassFile.FieldType.object "com/example/ferrybus/ferrybus/codec/PacketType"))).before args0 about1 = true := code_word (m := ⟨1, 1⟩) (meth := k1m1) (c := k1c1) (by decide +kernel) rfl rfl rfl (by decide +kernel)
set_option maxRecDepth 65536 in
theorem w_c2 : (Jvm.Cond.code ({ cls := "com/example/ferrybus/ferrybus/codec/PacketType", name := "allows", desc := "(I)Z" } : Jvm.MethodName) prog_32_method_5_code (2 : Nat) (Option.some Jvm.ClassFile.FieldType.boolean)).before args0 about1 = true := code_word (m := ⟨6, 0⟩) (meth := k6m0) (c := k6c0) (by decide +kernel) rfl rfl rfl (by decide +kernel)
def codes1 : List Jvm.Cond := [Jvm.Cond.code x code maxLocals ret, Jvm.Cond.code ({ cls := "com/example/ferrybus/ferrybus/codec/PacketTypeAllowsPinLaw", name := "pick", desc := "(I)Lcom/example/ferrybus/ferrybus/codec/PacketType;" } : Jvm.MethodName) method_2_code (1 : Nat) (Option.some (Jvm.ClassFile.FieldType.object "com/example/ferrybus/ferrybus/codec/PacketType")), Jvm.Cond.code ({ cls := "com/example/ferrybus/ferrybus/codec/PacketType", name := "allows", desc := "(I)Z" } : Jvm.MethodName) prog_32_method_5_code (2 : Nat) (Option.some Jvm.ClassFile.FieldType.boolean)]
set_option maxRecDepth 65536 in
theorem codes_eq : words1.filter isCode = codes1 := rfl
theorem w_codes : ∀ c ∈ words1.filter isCode, c.before args0 about1 = true := by
  rw [codes_eq]
  intro c hc
  simp only [codes1, List.mem_cons, List.not_mem_nil, or_false] at hc
  rcases hc with rfl | rfl | rfl
  · exact w_c0
  · exact w_c1
  · exact w_c2
set_option maxRecDepth 65536 in
theorem w_t1 : (words1.take 24).all (fun c => isCode c || c.before args0 about1) = true := by decide +kernel
set_option maxRecDepth 65536 in
theorem w_t2 : (words1.drop 24).all (fun c => isCode c || c.before args0 about1) = true := by decide +kernel
theorem w_tables : (allAtoms (Jvm.Cond.code x code maxLocals ret :: tables_1)).before args0 about1 = true := by
  rw [allAtoms_all]
  show words1.all (fun c => c.before args0 about1) = true
  refine all_split ?_ w_codes
  rw [← List.take_append_drop 24 words1, List.all_append, w_t1, w_t2]
  rfl
set_option maxRecDepth 65536 in
theorem w_case : (Jvm.Cond.and given_1 narrow_1).before args0 about1 = true := by decide +kernel
theorem w_applies : (headSpec (Jvm.Cond.code x code maxLocals ret :: tables_1) room_1).applies x e0.platform about1 = true :=
  (Spec.applies_iff w_frames).mpr ⟨w_running, w_runnable, w_alone, w_named, w_hears, w_ripe, w_room, w_tables⟩
theorem atStart : AtStart classFile x code maxLocals ret World_1 tables_1 room_1 Calls_1 rest_1 Pre_1 launch0 p0 e0 about1 theMethod args0 below0 :=
  ⟨lists_1, trivial, launch0.admits_env _ _ _, launch0.least_env, fairChoices_fair.cas, fairChoices_fair.clock, w_frames, w_args, w_heap, w_applies, trivial, trivial, w_case⟩
end start1
theorem witness_1 : WitnessClaimed_1 := ⟨start1.p0, start1.e0, start1.about1, start1.theMethod, start1.args0, start1.below0, start1.atStart⟩
end Jvm.Pilot.@@N@@
