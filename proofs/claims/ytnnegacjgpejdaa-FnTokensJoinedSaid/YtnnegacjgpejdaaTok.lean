/- The table of opcodes: the long switch as a chain of links, walked by one induction. -/
import Derived.Test.YtnnegacjgpejdaaBase
import Derived.Test.YtnnegacjgpejdaaQFnTokensJoinedx0
namespace Go.Proofs.Ytnnegacjgpejdaa.Tok
open Go.RowKit Go.Proofs.YtnnegacjgpejdaaW.PrintWords Go.Proofs.YtnnegacjgpejdaaW.PrintLast Go.Proofs.YtnnegacjgpejdaaW.PrintMore Go.Proofs.Ytnnegacjgpejdaa.QFnTokensJoined
set_option linter.unusedVariables false
set_option linter.unusedSimpArgs false
structure Link where
  p1 : String
  p2 : String
  val : Int
  name : ByteArray
  len : Int
noncomputable def linkOf (ops1 ops2 : Array Oper) : List Link :=
  match ops1[0]?, ops2[0]? with
  | some o1, some o2 => (match o2.op with
    | .build _ fs => (match fs[0]?, fs[1]?, fs[2]? with
      | some (_, Operand.const (Value.int _ v)), some (_, Operand.const (Value.string n)), some (_, Operand.const (Value.int _ l)) => [⟨o1.pos, o2.pos, v, n, l⟩]
      | _, _, _ => [])
    | _ => [])
  | _, _ => []
noncomputable def links : Code → List Link
  | .seq (.region _ ops1 _) (.cond _ (.seq (.region _ ops2 _) _) rest) => linkOf ops1 ops2 ++ links rest
  | _ => []
noncomputable def inner : Option Code → Code
  | some (.seq _ (.seq (.seq _ (.block _ c)) _)) => c
  | _ => .skip
noncomputable def pos0 : String := match Try.f17.body with
  | some (.seq (.region _ o _) _) => (match o[0]? with | some x => x.pos | _ => "")
  | _ => ""
noncomputable def pos1 : String := match Try.f17.body with
  | some (.seq _ (.seq (.seq (.region _ o _) _) _)) => (match o[0]? with | some x => x.pos | _ => "")
  | _ => ""
noncomputable def last : Code := match Try.f17.body with
  | some (.seq _ (.seq _ c)) => c
  | _ => .skip
def askOps (i : Nat) (l : Link) : Array Oper :=
  #[{ dst := some (5 + 4 * i), op := .binOp .eql 5 (.tmp 3) (.const (.int .u8 l.val)) 5, type := 4, pos := l.p1, after := #[], guard := none },
    { dst := some (4 + 4 * i), op := .assign (.tmp (5 + 4 * i)), type := 4, pos := l.p1, after := #[⟨0, .data⟩], guard := none }]
def sayOps (i : Nat) (l : Link) : Array Oper :=
  #[{ dst := some (6 + 4 * i), op := .build 49 #[(0, .const (.int .u8 l.val)), (1, .const (.string l.name)), (2, .const (.int .i64 l.len))], type := 49, pos := l.p2, after := #[], guard := none },
    { dst := some (7 + 4 * i), op := .box 49 (.tmp (6 + 4 * i)), type := 30, pos := l.p2, after := #[⟨0, .data⟩], guard := none },
    { dst := some 2, op := .assign (.tmp (7 + 4 * i)), type := 30, pos := l.p2, after := #[⟨1, .data⟩, ⟨0, .phase⟩, ⟨1, .phase⟩], guard := none }]
def chain : Nat → List Link → Code
  | _, [] => .skip
  | i, l :: ls => .seq (.region (2 + 2 * i) (askOps i l) false) (.cond (.tmp (4 + 4 * i)) (.seq (.region (3 + 2 * i) (sayOps i l) false) .ret) (chain (i + 1) ls))
noncomputable def table : List Link := links (inner Try.f17.body)
set_option maxRecDepth 1000000 in
theorem shape : inner Try.f17.body = chain 0 table := by kernel_rfl
/-- How many bytes an opcode takes; below nothing: how many bytes say how many. -/
def olen (v : Nat) : Int := if v = 0 then 1 else if v < 76 then (v : Int) + 1 else if v = 76 then -1 else if v = 77 then -2 else if v = 78 then -4 else 1
theorem table_len : (List.range 256).map (fun v : Nat => (table.find? (fun l => decide (l.val = (v : Int)))).map Link.len) = (List.range 256).map (fun v : Nat => some (olen v)) := by kernel_rfl
theorem table_256 : table.length = 256 := by kernel_rfl
theorem table_find (v : Nat) (h : v < 256) : ∃ l, table.find? (fun l => decide (l.val = (v : Int))) = some l ∧ l.val = (v : Int) ∧ l.len = olen v := by
  have h1 := congrArg (fun t => t[v]?) table_len
  simp only [List.getElem?_map, List.getElem?_range h, Option.map_some] at h1
  obtain ⟨l, h2, h3⟩ := Option.map_eq_some_iff.mp (Option.some.inj h1)
  refine ⟨l, h2, ?_, h3⟩
  have := List.find?_some h2
  simpa using this
theorem eval_tmp {a : Act} {n : Nat} {v : Value} (h : a.tmps[n]? = some v) : a.eval (.tmp n) = v := by
  simp [Act.eval, h]
theorem put_tmp (a : Act) (n m : Nat) (v : Value) (h : n ≠ m) : (a.put (some m) v).tmps[n]? = a.tmps[n]? := by
  simp only [Act.put, Array.getElem?_setIfInBounds]
  rw [if_neg (fun e => h e.symm)]
theorem put_tmp_same (a : Act) (m : Nat) (v : Value) (h : m < a.tmps.size) : (a.put (some m) v).tmps[m]? = some v := by
  simp [Act.put, Array.getElem?_setIfInBounds, h]
theorem put_size (a : Act) (m : Nat) (v : Value) : (a.put (some m) v).tmps.size = a.tmps.size := by simp [Act.put]
theorem put_defers (a : Act) (m : Nat) (v : Value) : (a.put (some m) v).defers = a.defers := rfl
theorem chainWalk (v : Int) (Q : Exit → Act → World → Prop) (w : World) : ∀ (ls : List Link) (i : Nat) (l : Link) (a : Act), 4 + 4 * i + 4 * ls.length ≤ a.tmps.size → a.tmps[3]? = some (.int .u8 v) → ls.find? (fun l => decide (l.val = v)) = some l →
    (∀ a' : Act, a'.tmps[2]? = some (.pointer (some ⟨w.heap.size, 0, none⟩)) → a'.defers = a.defers → a'.tmps.size = a.tmps.size → Q .ret a' (w.alloc (.cells #[.int .u8 l.val, .string l.name, .int .i64 l.len] 49))) → (chain i ls).wp Try.prog Q a w
  | [], _, _, _, _, _, h, _ => by cases h
  | l1 :: ls, i, l, a, hs, h3, hf, hQ => by
    rw [List.length_cons] at hs
    unfold chain
    refine wp_seq (wp_region_list ?_)
    show wpList _ _ _ [_, _] _ _
    refine wpList_run rfl (.bool (decide (v = l1.val))) (w' := w) ?_ ?_
    · unfold execOp; simp only [eval_tmp h3]; go_simp; rfl
    refine wpList_run rfl (.bool (decide (v = l1.val))) (w' := w) ?_ ?_
    · unfold execOp; simp only [eval_tmp (put_tmp_same a (5 + 4 * i) (.bool (decide (v = l1.val))) (by omega))]; go_simp
    refine wpList_nil ?_
    show (Code.cond _ _ _).wp _ _ _ _
    refine wp_cond (t := decide (v = l1.val)) (eval_tmp (put_tmp_same _ _ _ (by rw [put_size]; omega))) ?_
    have h3' : ∀ a2 : Act, a2 = (a.put (some (5 + 4 * i)) (.bool (decide (v = l1.val)))).put (some (4 + 4 * i)) (.bool (decide (v = l1.val))) → a2.tmps[3]? = some (.int .u8 v) ∧ a2.tmps.size = a.tmps.size ∧ a2.defers = a.defers := by
      rintro a2 rfl
      exact ⟨by rw [put_tmp _ _ _ _ (by omega), put_tmp _ _ _ _ (by omega)]; exact h3, by rw [put_size, put_size], rfl⟩
    obtain ⟨a2, ha2⟩ : ∃ a2, a2 = (a.put (some (5 + 4 * i)) (.bool (decide (v = l1.val)))).put (some (4 + 4 * i)) (.bool (decide (v = l1.val))) := ⟨_, rfl⟩
    change Code.wp _ _ _ ((a.put (some (5 + 4 * i)) (.bool (decide (v = l1.val)))).put (some (4 + 4 * i)) (.bool (decide (v = l1.val)))) _
    rw [← ha2]
    obtain ⟨k3, ks, kd⟩ := h3' a2 ha2
    clear h3' ha2
    by_cases hv : v = l1.val
    · subst hv
      have e : l1 = l := by simpa using hf
      subst e
      rw [if_pos (by simp)]
      refine wp_seq (wp_region_list ?_)
      show wpList _ _ _ [_, _, _] _ _
      refine wpList_run rfl (.agg #[.int .u8 l1.val, .string l1.name, .int .i64 l1.len]) (w' := w) ?_ ?_
      · unfold execOp; go_simp
      refine wpList_run rfl (.pointer (some ⟨w.heap.size, 0, none⟩)) (w' := w.alloc (.cells #[.int .u8 l1.val, .string l1.name, .int .i64 l1.len] 49)) ?_ ?_
      · unfold execOp; simp only [eval_tmp (put_tmp_same a2 (6 + 4 * i) _ (by omega))]; go_simp
      refine wpList_run rfl (.pointer (some ⟨w.heap.size, 0, none⟩)) (w' := w.alloc (.cells #[.int .u8 l1.val, .string l1.name, .int .i64 l1.len] 49)) ?_ ?_
      · have h7 : 7 + 4 * i < a2.tmps.size := by omega
        unfold execOp; go_simp
        intro h8; omega
      refine wpList_nil ?_
      refine wp_ret ?_
      refine hQ _ (put_tmp_same _ _ _ (by rw [put_size, put_size]; omega)) kd (by rw [put_size, put_size, put_size]; exact ks)
    · rw [if_neg (by simp [hv])]
      refine chainWalk v Q w ls (i + 1) l a2 (by omega) k3 ?_ ?_
      · rw [List.find?_cons_of_neg (by simpa using fun e => hv e.symm)] at hf; exact hf
      · intro a' x1 x2 x3
        exact hQ a' x1 (x2.trans kd) (x3.trans ks)
set_option maxRecDepth 1000000 in
theorem whole : Try.f17.body = some (.seq (.region 0 #[{ dst := some 2, op := .assign (.const (.pointer none)), type := 30, pos := pos0, after := #[], guard := none }] false) (.seq (.seq (.region 1 #[{ dst := some 3, op := .move (.tmp 0), type := 5, pos := pos1, after := #[], guard := none }] false) (.block 0 (chain 0 table))) last)) := by kernel_rfl
/-- The opcode of a byte is made anew. -/
theorem opcodeC (v : Nat) (hv : v < 256) (w : World) :
    Calls Try.prog 17 #[.int .u8 v] w fun e w' => e = .returned (.pointer (some ⟨w.heap.size, 0, none⟩)) ∧ ∃ nm, w' = w.alloc (.cells #[.int .u8 v, .string nm, .int .i64 (olen v)] 49) := by
  obtain ⟨l, hl, hl1, hl2⟩ := table_find v hv
  refine calls_of_wp Try.func17 whole ?_
  have hsz : ((#[.int .u8 v] : Array Value) ++ Array.replicate (Try.f17.ntmps - (#[Value.int .u8 v] : Array Value).size) undef).size = 1028 := by
    rw [Array.size_append, Array.size_replicate]; rfl
  have h0 : ((#[.int .u8 v] : Array Value) ++ Array.replicate (Try.f17.ntmps - (#[Value.int .u8 v] : Array Value).size) undef)[0]? = some (.int .u8 v) := by
    simp
  obtain ⟨t, ht⟩ : ∃ t, (#[.int .u8 v] : Array Value) ++ Array.replicate (Try.f17.ntmps - (#[Value.int .u8 v] : Array Value).size) undef = t := ⟨_, rfl⟩
  rw [ht] at hsz h0 ⊢
  refine wp_seq (wp_region_list ?_)
  refine wpList_run rfl (.pointer none) (w' := w) ?_ ?_
  · unfold execOp; go_simp
  refine wpList_nil ?_
  refine wp_seq (wp_seq (wp_region_list ?_))
  refine wpList_run rfl (.int .u8 v) (w' := w) ?_ ?_
  · unfold execOp; simp only [eval_tmp (show (Act.tmps (Act.put { tmps := t, defers := [] } (some 2) (.pointer none)))[0]? = some (.int .u8 v) by rw [put_tmp _ _ _ _ (by decide)]; exact h0)]; go_simp
  refine wpList_nil ?_
  refine wp_block ?_
  have hlen : table.length = 256 := table_256
  refine chainWalk v _ w table 0 l _ ?_ ?_ hl ?_
  · rw [hlen]; simp only [Act.put, Array.size_setIfInBounds, hsz]; decide
  · exact put_tmp_same _ 3 _ (by rw [put_size]; simp only [hsz]; decide)
  · intro a' x1 x2 x3
    rw [hl1, hl2]
    refine ⟨x2, _, ?_, rfl, l.name, rfl⟩
    have hr : Try.f17.results = #[.tmp 2] := rfl
    unfold results
    rw [hr]
    simp [x1]
end Go.Proofs.Ytnnegacjgpejdaa.Tok
