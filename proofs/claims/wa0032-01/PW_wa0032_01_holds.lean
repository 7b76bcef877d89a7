import PyProof.Rows.All
import Wide.All
import OpenK.AllK
import Wide.FinOn
import KE.KxDecode
import PySem.Challenge.RW_wa0032_01
open PySem PySem.W PyProof.Rows
set_option Elab.async false
section
open PySem PySem.W PyProof.Rows
namespace Mine
set_option maxRecDepth 100000
set_option maxHeartbeats 8000000
open_top hd for PySem.Challenge.rw_wa0032_01
end Mine
end
section
open PySem PySem.W PyProof.Rows
namespace Mine
theorem kc_nine {cm : Str → Option Value} {n₁ n₂ n₃ n₄ n₅ n₆ n₇ n₈ n₉ : Str} {c₁ c₂ c₃ c₄ c₅ c₆ c₇ c₈ c₉ : Addr} {cells : List (Addr × Obj)} (x : CellsAre cm [(n₁, c₁), (n₂, c₂), (n₃, c₃), (n₄, c₄), (n₅, c₅), (n₆, c₆), (n₇, c₇), (n₈, c₈), (n₉, c₉)] cells) :
    ∃ o₁ o₂ o₃ o₄ o₅ o₆ o₇ o₈ o₉, cells = [(c₁, o₁), (c₂, o₂), (c₃, o₃), (c₄, o₄), (c₅, o₅), (c₆, o₆), (c₇, o₇), (c₈, o₈), (c₉, o₉)] ∧ o₁.data = .cell (cm n₁) ∧ o₂.data = .cell (cm n₂) ∧ o₃.data = .cell (cm n₃) ∧ o₄.data = .cell (cm n₄) ∧ o₅.data = .cell (cm n₅) ∧ o₆.data = .cell (cm n₆) ∧ o₇.data = .cell (cm n₇) ∧ o₈.data = .cell (cm n₈) ∧ o₉.data = .cell (cm n₉) := by
  cases x with | cons h r => obtain ⟨o₂, o₃, o₄, o₅, o₆, o₇, o₈, o₉, rfl, h₂, h₃, h₄, h₅, h₆, h₇, h₈, h₉⟩ := PyProof.Rows.kc_eight r; exact ⟨_, o₂, o₃, o₄, o₅, o₆, o₇, o₈, o₉, rfl, h, h₂, h₃, h₄, h₅, h₆, h₇, h₈, h₉⟩
end Mine
end
section
open PySem PySem.W PyProof.Rows PySem.Calls
namespace Mine
set_option maxRecDepth 100000
set_option maxHeartbeats 8000000
abbrev prg : Program := PySem.Challenge.rw_wa0032_01.row.prog
noncomputable abbrev KF (w : World) : Frag := hd.heap_39 w.params
abbrev TopP (mean : ExcName → Option Value) (mg mb : Str → Option Value) (h : Heap) : Prop := Top hd.view_39 (looseW hd.view_39 [Str.ofString "_name_disallowed_re", Str.ofString "_value_disallowed_re"]) mean mg mb h

theorem enterK {prog : Program} {w : World} {A : Around} {s : Shared} {K : Frag} {p : Program} {loose : List Str} {mean : ExcName → Option Value} {mg mb : Str → Option Value}
    {R : Result → Shared → Prop} {name qual : Str} {params : Arguments} {body : List Stmt} {scope : Scope} {dV kV doc pm cdv ct oc : Value} {an od : Option Addr} {osl : Array (Option Value)} {f : Addr} {args : Args} {binds : List (Str × Value)}
    (X : K.In s.heap) (T : Top p loose mean mg mb s.heap)
    (ho : K.lookup f = some ⟨oc, od, .func (fnOf name qual params body scope dV kV doc pm an cdv ct), osl⟩) (hcd : codeIn K cdv qual = true) (hroom : A.depth < recursionLimit)
    (hbind : BindsTo s (fnOf name qual params body scope dV kV doc pm an cdv ct) args binds) (hloc : ∀ y ∈ binds, scope.names.lookup y.1 = some .local)
    (h : ∀ h₁, Fr s.heap s.heap.objs.size h₁ (fun y => binds.reverse.lookup y) →
      wpAny (model prog w) (A.deeper (envOf qual scope s.heap.objs.size f cdv)) (execs body (envOf qual scope s.heap.objs.size f cdv))
        (fun fl s' => R (.ok (.ret (match fl with | .ret v => v | _ => .none))) s') (fun _ _ => False) { s with heap := h₁, toks := s.toks + binds.length })
    (hcell : ∀ x ∈ scope.names, x.2 ≠ .cell) (hco : scope.isCoroutine = false) (hgen : scope.isGenerator = false) (hk : scope.kind = .function) : codeAny (model prog w) A (.call (.ref f) args) R s :=
  codeAny_call_def (fd := fnOf name qual params body scope dV kV doc pm an cdv ct) (body := body) (binds := binds) hroom (X _ _ ho) rfl T.nolimit (codeRec_of X hcd) rfl hbind hcell hloc
    (fun h₀ hns hk₀ => wpAny_mono (h h₀ ⟨hns, hk₀, Nat.le_refl _⟩) (fun _ _ x => x) fun _ _ x => x.elim) hco hgen hk

theorem seeF {h₀ h : Heap} {L : Addr} {m : Str → Option Value} {x : Str} {v : Value} (F : Fr h₀ L h m) (e : m x = some v) : Fr h₀ L h (fun y => if y = x then some v else m y) := by
  have : (fun y => if y = x then some v else m y) = m := by
    funext y
    by_cases hy : y = x
    · rw [if_pos hy, hy, e]
    · rw [if_neg hy]
  rw [this]; exact F

theorem while_ok {prog : Program} {w : World} {A : Around} {E : Value → Shared → Prop} {s : Shared} {test : PySem.Expr} {body : List Stmt} {pos : Pos} {env : Env} {Q : Flow → Shared → Prop} (I : Nat → Shared → Prop)
    (turn : ∀ n s, I n s → wpAny (model prog w) A (isTrue test env (eval test env)) (fun b s₂ =>
        if b = true then wpAny (model prog w) A (execs body env) (fun f s₃ => match f with
            | .next => ∃ m, m < n ∧ I m s₃
            | .cont => ∃ m, m < n ∧ I m s₃
            | .brk => Q .next s₃
            | .ret v => Q (.ret v) s₃) (fun _ _ => False) s₂
        else Q .next s₂) (fun _ _ => False) s)
    (n : Nat) (h : I n s) : wpAny (model prog w) A (exec (.While test body [] pos) env) Q E s := by
  refine wpAny_While (codeAny_whileLoop I (fun n s hI => ?_) n h)
  refine wpAny_mono (turn n s hI) (fun b s₂ hb => ?_) fun _ _ x => x.elim
  cases b with
  | true =>
    rw [if_pos rfl] at hb ⊢
    refine wpAny_mono hb (fun f s₃ hf => ?_) fun _ _ x => x.elim
    cases f <;> exact hf
  | false =>
    rw [if_neg Bool.false_ne_true] at hb ⊢
    exact wpAny_execs_nil hb

theorem forLoop_ok {prog : Program} {w : World} {A : Around} {R : Result → Shared → Prop} {s : Shared} {target : PySem.Expr} {it : Value} {body : List Stmt} {env : Env} (I : Nat → Shared → Prop)
    (turn : ∀ n s, I n s → wpAny (model prog w) A (pyNext it) (fun r s₁ => match r with
      | none => R (.ok .next) s₁
      | some v => wpAny (model prog w) A (letOwnedTupleGo target it v) (fun _ s₁' =>
          wpAny (model prog w) A (assign target env v) (fun _ s₂ => wpAny (model prog w) A (execs body env) (fun f s₃ => match f with
            | .next => ∃ m, m < n ∧ I m s₃
            | .cont => ∃ m, m < n ∧ I m s₃
            | .brk => R (.ok .next) s₃
            | .ret v => R (.ok (.ret v)) s₃) (fun _ _ => False) s₂) (fun _ _ => False) s₁') (fun _ _ => False) s₁) (fun _ _ => False) s)
    (n : Nat) (h : I n s) : codeAny (model prog w) A (.forLoop target it body [] env) R s := by
  refine codeAny_forLoop_any I (fun n s hI => ?_) n h
  refine wpAny_mono (turn n s hI) (fun r s₁ hr => ?_) fun _ _ x => x.elim
  cases r with
  | none => exact wpAny_execs_nil hr
  | some v =>
    refine wpAny_mono hr (fun _ s₂ h₂ => ?_) fun _ _ x => x.elim
    refine wpAny_mono h₂ (fun _ s₃ h₃ => ?_) fun _ _ x => x.elim
    refine wpAny_mono h₃ (fun f s₄ hf => ?_) fun _ _ x => x.elim
    cases f <;> exact hf
end Mine
end
section
open PySem PySem.W PyProof.Rows PySem.Calls
namespace Mine
set_option maxRecDepth 100000
set_option maxHeartbeats 8000000
def hexs : Nat → Nat → List Nat
  | 0, _ => []
  | f + 1, n => if n = 0 then [] else hexs f (n / 16) ++ [n % 16]
def apArr (l : List Nat) : Array UInt8 := (l.map fun d => UInt8.ofNat (65 + d)).toArray

theorem ap_pick (k : Nat) : KBy.picked #[65, 66, 67, 68, 69, 70, 71, 72, 73, 74, 75, 76, 77, 78, 79, 80] (some (Int.fmod (k : Int) 16)) (some (Int.fmod (k : Int) 16 + 1)) = apArr [k % 16] := by
  have h : Int.fmod (k : Int) 16 = ((k % 16 : Nat) : Int) := by rw [Int.fmod_eq_emod_of_nonneg _ (by decide)]; omega
  have key : ∀ j : Fin 16, KBy.picked #[65, 66, 67, 68, 69, 70, 71, 72, 73, 74, 75, 76, 77, 78, 79, 80] (some ((j.val : Nat) : Int)) (some (((j.val : Nat) : Int) + 1)) = apArr [j.val] := by decide +kernel
  rw [h]
  exact key ⟨k % 16, Nat.mod_lt _ (by decide)⟩
theorem apArr_app (a b : List Nat) : apArr a ++ apArr b = apArr (a ++ b) := by simp [apArr]
theorem apArr_size (a : List Nat) : (apArr a).size = a.length := by simp [apArr]
theorem hexs_len : ∀ (f n : Nat), (hexs f n).length ≤ f
  | 0, _ => Nat.le_refl _
  | f + 1, n => by
    unfold hexs
    split
    · exact Nat.zero_le _
    · rw [List.length_append]; have := hexs_len f (n / 16); simp; omega

theorem int2ap {w : World} {mean : ExcName → Option Value} {mg mb : Str → Option Value} {dp un : Nat} {fr : Option (List Env)} {gd : Option (List Code)} {s : Shared} {Q E : Value → Shared → Prop} (n : Nat) (hn : n < 16 ^ 3) (t : Tok)
    (KX : (KF w).In s.heap) (T : TopP mean mg mb s.heap) (hdp : dp < 500) (hu : un < 100)
    (hQ : ∀ t' h' tk, (∀ b o, s.heap.get? b = some o → h'.get? b = some o) → Q (.bytes (apArr (hexs 3 n)) t') { s with heap := h', toks := tk }) : wpAny (model prg w) ⟨none, dp, fr, gd, un⟩ (call (.ref 189) [.int n t]) Q E s := by
  w_on; w_top on
  dsimp only [KF, TopP, prg] at KX T ⊢
  revert KX; k_fill; intro KX
  refine wpAny_call ?_
  refine enterK (f := 189) KX T rfl rfl (by unfold recursionLimit; dsimp only; omega) (BindsTo.of_eq rfl) (locs rfl) (fun h₁ F => ?_) (by decide) rfl rfl rfl
  w_binds F
  have N : News s.heap s.heap.objs.size h₁ [] := News.nil
  (iterate 24 (first | (k_unfold; (try dsimp only)) | (k_end; wrow_close) | walk1 | (dsimp only; walk1) | (leave1; try dsimp only)))
  refine wpAny_execs_cons ?_
  refine while_ok (fun k s' => ∃ h tk m u1 u2 u3 f b, s' = { s with heap := h, toks := tk } ∧ Fr s.heap s.heap.objs.size h m ∧ m (Str.ofString "num") = some (.int (k : Int) u1) ∧ m (Str.ofString "AP") = some (.bytes #[65, 66, 67, 68, 69, 70, 71, 72, 73, 74, 75, 76, 77, 78, 79, 80] u2)
    ∧ m (Str.ofString "val") = some (.bytes (apArr b) u3) ∧ k < 16 ^ f ∧ f ≤ 3 ∧ hexs f k ++ b = hexs 3 n) ?_ n ?_
  · rintro k s' ⟨h, tk, m, u1, u2, u3, f, b, rfl, F, hm1, hm2, hm3, hk, hf, hb⟩
    replace F := seeF F hm2
    replace F := seeF (x := Str.ofString "val") F hm3
    replace F := seeF (x := Str.ofString "num") F hm1
    have N : News s.heap s.heap.objs.size h [] := News.nil
    (iterate 37 (first | (k_unfold; (try dsimp only)) | (k_end; wrow_close) | walk1 | (dsimp only; walk1) | (leave1; try dsimp only)))
    rotate_left
    · (iterate 3 (first | (k_unfold; (try dsimp only)) | (k_end; wrow_close) | walk1 | (dsimp only; walk1) | (leave1; try dsimp only)))
      (with_reducible rename Fr _ _ _ _ => FF)
      have hk0 : k = 0 := by omega
      subst hk0
      have e0 : hexs f 0 = [] := by cases f <;> rfl
      rw [e0, List.nil_append] at hb
      subst hb
      exact hQ _ _ _ FF.keep
    (with_reducible rename Fr _ _ _ _ => F'); (with_reducible rename News _ _ _ _ => N')
    refine KBc.slice_K (s := ⟨_, _, _, _, _⟩) F' N' rfl (by constructor) (by constructor) (by decide) ?_
    intro h5 t5 k5 F5 N5 hk5
    clear F' N'
    (iterate 1 (first | (k_unfold; (try dsimp only)) | (k_end; wrow_close) | walk1 | (dsimp only; walk1) | (leave1; try dsimp only)))
    rw [ap_pick]
    have hl : b.length ≤ 3 := by
      have h1 := congrArg List.length hb
      have h2 := hexs_len 3 n
      rw [List.length_append] at h1
      omega
    refine KBy.add_bytes (by rw [apArr_size, apArr_size]; simp; omega) ?_
    intro t6 k6
    rw [apArr_app]
    (iterate 2 (first | (k_unfold; (try dsimp only)) | (k_end; wrow_close) | walk1 | (dsimp only; walk1) | (leave1; try dsimp only)))
    have hk0 : k ≠ 0 := by omega
    have e : Int.fdiv (k : Int) 16 = ((k / 16 : Nat) : Int) := by rw [Int.fdiv_eq_ediv_of_nonneg _ (by decide)]; omega
    (with_reducible rename Fr _ _ _ _ => FF)
    cases f with
    | zero => exact absurd hk (by simp; omega)
    | succ f =>
      refine ⟨k / 16, by omega, _, _, _, _, _, _, f, [k % 16] ++ b, rfl, FF, congrArg (fun z => some (Value.int z _)) e, rfl, rfl, ?_, by omega, ?_⟩
      · rw [Nat.pow_succ] at hk; omega
      · rw [← hb, ← List.append_assoc]
        congr 1
        conv => rhs; unfold hexs
        rw [if_neg hk0]
  · (with_reducible rename Fr _ _ _ _ => FF)
    have hn0 : ¬ ((n : Int) < 0) := by omega
    exact ⟨_, _, _, _, _, _, 3, [], rfl, FF, congrArg (fun z => some (Value.int z _)) (if_neg hn0), rfl, rfl, hn, Nat.le_refl _, List.append_nil _⟩
end Mine
end
section
open PySem PySem.W PyProof.Rows PySem.Calls
namespace Mine
set_option maxRecDepth 100000
set_option maxHeartbeats 8000000
def apStr (l : List Nat) : Str := ⟨(l.map fun d => 65 + d).toArray⟩

theorem ap_item (k : Nat) : Txt.item (Str.ofString "ABCDEFGHIJKLMNOP") (Int.fmod (k : Int) 16) = apStr [k % 16] := by
  have h : Int.fmod (k : Int) 16 = ((k % 16 : Nat) : Int) := by rw [Int.fmod_eq_emod_of_nonneg _ (by decide)]; omega
  have key : ∀ j : Fin 16, Txt.item (Str.ofString "ABCDEFGHIJKLMNOP") ((j.val : Nat) : Int) = apStr [j.val] := by decide +kernel
  rw [h]
  exact key ⟨k % 16, Nat.mod_lt _ (by decide)⟩
theorem apStr_app (a b : List Nat) : apStr a ++ apStr b = apStr (a ++ b) := by
  show (⟨_⟩ : Str) = ⟨_⟩
  simp [apStr]
theorem apStr_len (a : List Nat) : (apStr a).length = a.length := by simp [apStr, Str.length]

theorem lawPlain {w : World} {mean : ExcName → Option Value} {mg mb : Str → Option Value} {dp un : Nat} {fr : Option (List Env)} {gd : Option (List Code)} {s : Shared} {Q E : Value → Shared → Prop} (n : Nat) (hn : n < 16 ^ 3) (t : Tok)
    (KX : (KF w).In s.heap) (T : TopP mean mg mb s.heap) (hdp : dp < 500) (hu : un < 100)
    (hQ : ∀ t' h' tk, (∀ b o, s.heap.get? b = some o → h'.get? b = some o) → Q (.str (apStr (hexs 3 n)) t') { s with heap := h', toks := tk }) : wpAny (model prg w) ⟨none, dp, fr, gd, un⟩ (call (.ref 196) [.int n t]) Q E s := by
  w_on; w_top on
  dsimp only [KF, TopP, prg] at KX T ⊢
  revert KX; k_fill; intro KX
  refine wpAny_call ?_
  refine enterK (f := 196) KX T rfl rfl (by unfold recursionLimit; dsimp only; omega) (BindsTo.of_eq rfl) (locs rfl) (fun h₁ F => ?_) (by decide) rfl rfl rfl
  w_binds F
  have N : News s.heap s.heap.objs.size h₁ [] := News.nil
  (iterate 4 (first | (k_unfold; (try dsimp only)) | (k_end; wrow_close) | walk1 | (dsimp only; walk1) | (leave1; try dsimp only)))
  refine wpAny_execs_cons ?_
  (with_reducible rename Fr _ _ _ _ => FF)
  refine while_ok (fun k s' => ∃ h tk m u1 u3 f b, s' = { s with heap := h, toks := tk } ∧ Fr s.heap s.heap.objs.size h m ∧ m (Str.ofString "number") = some (.int (k : Int) u1)
    ∧ m (Str.ofString "word") = some (.str (apStr b) u3) ∧ k < 16 ^ f ∧ f ≤ 3 ∧ hexs f k ++ b = hexs 3 n) ?_ n ?_
  · clear FF
    rintro k s' ⟨h, tk, m, u1, u3, f, b, rfl, F, hm1, hm3, hk, hf, hb⟩
    replace F := seeF F hm3
    replace F := seeF (x := Str.ofString "number") F hm1
    have N : News s.heap s.heap.objs.size h [] := News.nil
    (iterate 18 (first | (k_unfold; (try dsimp only)) | (k_end; wrow_close) | walk1 | (dsimp only; walk1) | (leave1; try dsimp only)))
    rotate_left
    · (iterate 3 (first | (k_unfold; (try dsimp only)) | (k_end; wrow_close) | walk1 | (dsimp only; walk1) | (leave1; try dsimp only)))
      (with_reducible rename Fr _ _ _ _ => FF)
      have hk0 : k = 0 := by omega
      subst hk0
      have e0 : hexs f 0 = [] := by cases f <;> rfl
      rw [e0, List.nil_append] at hb
      subst hb
      exact hQ _ _ _ FF.keep
    rw [ap_item]
    have hl : b.length ≤ 3 := by
      have h1 := congrArg List.length hb
      have h2 := hexs_len 3 n
      rw [List.length_append] at h1
      omega
    refine KOpn.add (by rw [apStr_len, apStr_len]; simp; omega) ?_
    intro t6 k6 _
    rw [apStr_app]
    (iterate 8 (first | (k_unfold; (try dsimp only)) | (k_end; wrow_close) | walk1 | (dsimp only; walk1) | (leave1; try dsimp only)))
    have hk0 : k ≠ 0 := by omega
    have e : Int.fdiv (k : Int) 16 = ((k / 16 : Nat) : Int) := by rw [Int.fdiv_eq_ediv_of_nonneg _ (by decide)]; omega
    (with_reducible rename Fr _ _ _ _ => FF)
    cases f with
    | zero => exact absurd hk (by simp; omega)
    | succ f =>
      refine ⟨k / 16, by omega, _, _, _, _, _, f, [k % 16] ++ b, rfl, FF, congrArg (fun z => some (Value.int z _)) e, rfl, ?_, by omega, ?_⟩
      · rw [Nat.pow_succ] at hk; omega
      · rw [← hb, ← List.append_assoc]
        congr 1
        conv => rhs; unfold hexs
        rw [if_neg hk0]
  · exact ⟨_, _, _, _, _, 3, [], rfl, FF, rfl, rfl, hn, Nat.le_refl _, List.append_nil _⟩
end Mine
end
section
open PySem PySem.W PyProof.Rows PySem.Calls
namespace Mine
set_option maxRecDepth 100000
set_option maxHeartbeats 8000000

theorem enterKN {prog : Program} {w : World} {A : Around} {s : Shared} {K : Frag} {p : Program} {loose : List Str} {mean : ExcName → Option Value} {mg mb : Str → Option Value}
    {R : Result → Shared → Prop} {name qual : Str} {params : Arguments} {body : List Stmt} {scope : Scope} {dV kV doc pm cdv ct oc : Value} {an od : Option Addr} {osl : Array (Option Value)} {f : Addr} {args : Args} {binds : List (Str × Value)}
    {base : Heap} {news : List (Addr × Obj)} (hb : ∀ b o, base.get? b = some o → s.heap.get? b = some o) (hn : ∀ p ∈ news, s.heap.get? p.1 = some p.2 ∧ base.get? p.1 = none)
    (X : K.In base) (T : Top p loose mean mg mb base)
    (ho : K.lookup f = some ⟨oc, od, .func (fnOf name qual params body scope dV kV doc pm an cdv ct), osl⟩) (hcd : codeIn K cdv qual = true) (hroom : A.depth < recursionLimit)
    (hbind : BindsTo s (fnOf name qual params body scope dV kV doc pm an cdv ct) args binds) (hloc : ∀ y ∈ binds, scope.names.lookup y.1 = some .local)
    (h : ∀ g h₁, (∀ b o, base.get? b = some o → g.get? b = some o) → (∀ b o, b ∉ news.map (·.1) → s.heap.get? b = some o → g.get? b = some o) →
      Fr g s.heap.objs.size h₁ (fun y => binds.reverse.lookup y) → News g s.heap.objs.size h₁ news → K.In g → Top p loose mean mg mb g →
      wpAny (model prog w) (A.deeper (envOf qual scope s.heap.objs.size f cdv)) (execs body (envOf qual scope s.heap.objs.size f cdv))
        (fun fl s' => R (.ok (.ret (match fl with | .ret v => v | _ => .none))) s') (fun _ _ => False) { s with heap := h₁, toks := s.toks + binds.length })
    (hcell : ∀ x ∈ scope.names, x.2 ≠ .cell) (hco : scope.isCoroutine = false) (hgen : scope.isGenerator = false) (hk : scope.kind = .function) : codeAny (model prog w) A (.call (.ref f) args) R s := by
  have nm : ∀ b o, base.get? b = some o → b ∉ news.map (·.1) := fun b o e q => by
    obtain ⟨p, hp, rfl⟩ := List.mem_map.mp q
    rw [(hn p hp).2] at e; cases e
  have bg : ∀ b o, base.get? b = some o → (hideAll s.heap (news.map (·.1))).get? b = some o := fun b o e => hideAll_get _ (hb b o e) (nm b o e)
  refine codeAny_call_def (fd := fnOf name qual params body scope dV kV doc pm an cdv ct) (body := body) (binds := binds) hroom ((X.keeps hb) _ _ ho) rfl (T.nolimit.keeps hb) (codeRec_of (X.keeps hb) hcd) rfl hbind hcell hloc
    (fun h₀ hns hk₀ => ?_) hco hgen hk
  refine wpAny_mono (h (hideAll s.heap (news.map (·.1))) h₀ bg (fun b o hnb e => hideAll_get _ e hnb)
    ⟨hns, fun b o e => hk₀ b o (of_hideAll _ e), Nat.le_of_eq (hideAll_size _ _)⟩ (fun p hp => ⟨hk₀ _ _ (hn p hp).1, Nat.ne_of_lt (Heap.lt_size (hn p hp).1), hideAll_none _ (List.mem_map_of_mem hp)⟩)
    (X.keeps bg) (T.keeps bg)) (fun _ _ x => x) fun _ _ x => x.elim
end Mine
end
section
open PySem PySem.W PyProof.Rows PySem.Calls
namespace Mine
set_option maxRecDepth 100000
set_option maxHeartbeats 8000000
theorem plainAttrs_re : PlainAttrs "re.Pattern" :=
  ⟨⟨"object.__getattribute__", by rw [typeLookup_type, builtinLookup_eq_fast]; kernel_rfl, by decide +kernel⟩, by rw [typeLookup_type, builtinLookup_eq_fast]; kernel_rfl⟩
theorem owner_re : Manifest.owners.lookup (String.ofList ['n', 'r', 'e', 't', 't', 'a', 'P', '.', 'e', 'r'].reverse) = some Manifest.sig_re_Pattern := by kernel_rfl
theorem slot_re_search : Slot "re.Pattern" "search" "re.Pattern.search" :=
  .of (owner := "re.Pattern") (n := "search") (by rw [typeLookup_type, builtinLookup_eq_fast]; kernel_rfl) (by decide +kernel) (by decide +kernel) (by decide +kernel)
    (by first | exact .inl (by decide +kernel) | exact .inr (by decide +kernel)) (by rw [isSubtype_type]; kernel_rfl)
theorem type_re_search : typeOf (.builtin "re.Pattern.search") = pure (.type "method_descriptor") := by show builtinType _ = _; rw [builtinType_eq_fast]; kernel_rfl
theorem entry_re_search : entryFor table "re.Pattern.search" = some Builtin.«re.Pattern.search» := entryFor_of_tree (by kernel_rfl)
theorem args_re_search (a b : Value) : argsOk "re.Pattern.search" ⟨[a, b], []⟩ := by
  unfold argsOk; rw [signature?_of (id := "re.Pattern.search") (n := ['h', 'c', 'r', 'a', 'e', 's']) (o := ['n', 'r', 'e', 't', 't', 'a', 'P', '.', 'e', 'r']) (by kernel_rfl) owner_re]; kernel_rfl
end Mine
end
section
open PySem PySem.W PyProof.Rows PySem.Calls PySem.Builtin.Re
namespace Mine
set_option maxRecDepth 100000
set_option maxHeartbeats 8000000
section
variable {prog : Program} {w : World} {A : Around} {E : Value → Shared → Prop} {s : Shared}
theorem wif_neg {M : Model} {α : Type} {c : Prop} [Decidable c] {t e : Sem α} {Q : α → Shared → Prop} (h : ¬ c) (k : wpAny M A e Q E s) : wpAny M A (if c then t else e) Q E s := by rw [if_neg h]; exact k
theorem wif_pos {M : Model} {α : Type} {c : Prop} [Decidable c] {t e : Sem α} {Q : α → Shared → Prop} (h : c) (k : wpAny M A t Q E s) : wpAny M A (if c then t else e) Q E s := by rw [if_pos h]; exact k
theorem drive_done {m : Sre.M} {Q : Sre.M → Shared → Prop} (h1 : (m.runFor 4).outcome.isSome = true) (h : Q (m.runFor 4) s) : wpAny (model prog w) A (reDrive (2 ^ 64) m) Q E s := by
  have e : (2 ^ 64 : Nat) = 18446744073709551615 + 1 := by decide
  rw [e]
  unfold reDrive
  dsimp only [reTurnSteps]
  rw [if_pos h1]
  exact wpAny_pure h
theorem run_none {m : Sre.M} {Q : Option Sre.M → Shared → Prop} (h1 : (m.runFor 4).outcome = some .failed) (h : Q none s) : wpAny (model prog w) A (reRunToEnd m) Q E s := by
  unfold reRunToEnd
  refine wpAny_bind (drive_done (by rw [h1]; rfl) ?_)
  refine wpAny_bind (wpAny_forIn_list _ (fun _ _ s' => s' = s) (fun _ s' => wpAny (model prog w) A _ Q E s') (fun i rest b s' hs => ?_) (fun b s' hs => ?_) _ _ rfl)
  · subst hs
    split
    · exact wpAny_bind (wpAny_rule (wpAny_pure rfl))
    · exact wpAny_pure rfl
  · subst hs
    rw [h1]
    exact wpAny_pure h
theorem named_1 (x : Str) (t : Tok) : reNamed "re.Pattern.search" "search" ["string", "pos", "endpos"] 1 [.str x t] [] = pure [some (.str x t), none, none] := by
  rfl
theorem re_search_none {pat ct : Addr} {v0 v1 : Value} {v2' v3' : Tok} {codes : Array Value} {n : Nat} {x : Str} {t : Tok} {Q : Value → Shared → Prop}
    (hp : s.heap.get? pat = some { cls := .type "re.Pattern", data := .fields #[v0, v1, .int 0 v2', .none, .none, .ref ct, .int 0 v3'] })
    (hc : s.heap.get? ct = some { cls := .type "tuple", data := .seq codes n }) (hx : x.cps.size < 2 ^ 24)
    {code : Array Nat} (hcode : (codes.map reRawOf).map (·.toNat) = code) (hrun : ((Sre.forSearch code x.cps 0 0 x.cps.size false).runFor 4).outcome = some .failed) (h : Q .none s) :
    wpAny (model prog w) A (Builtin.«re.Pattern.search» ⟨[.ref pat, .str x t], []⟩) (fun fin s' => ∃ v, fin = .done (.ret v) ∧ Q v s') E s := by
  subst hcode
  unfold Builtin.«re.Pattern.search» reTarget
  refine wpAny_bind ?_
  dsimp only
  rw [named_1]
  refine wpAny_bind (wpAny_pure ?_)
  dsimp only
  refine wpAny_bind (wpAny_pure ?_)
  refine wpAny_bind (wpAny_pure ?_)
  refine wpAny_bind (wpAny_fieldsOf hp rfl ?_)
  refine wpAny_bind (m := reTextOf (.str x t)) (wpAny_pure ?_)
  dsimp only
  refine wif_neg Bool.false_ne_true ?_
  refine wif_neg Bool.false_ne_true ?_
  refine wpAny_bind (m := reNoCollectionInside (.str x t) 0) (wpAny_pure ?_)
  refine wpAny_bind (m := reRawItems (.ref ct)) ?_
  · unfold reRawItems
    refine wpAny_bind (wpAny_seqItems hc rfl (wpAny_pure ?_))
    refine wpAny_pure ?_
    have e1 : min (Int.toNat 0) x.cps.size = 0 := Nat.zero_min _
    have e2 : min (2 ^ 63 - 1 : Int).toNat x.cps.size = x.cps.size := by
      have : (2 ^ 63 - 1 : Int).toNat = 9223372036854775807 := by decide
      rw [this]
      omega
    dsimp only
    rw [e1, e2]
    unfold reAnswer
    refine wpAny_bind (run_none hrun ?_)
    exact wpAny_pure ⟨_, rfl, h⟩
end
end Mine
end
section
open PySem PySem.W PyProof.Rows PySem.Calls PySem.Builtin.Re
namespace Mine
set_option maxRecDepth 100000
set_option maxHeartbeats 8000000
def nameCode : Array Nat := #[14,10,4,1,1,22,0,31,16,127,0,13,7,22,0,31,16,127,0,1]
def valueCode : Array Nat := #[14,14,4,1,1,9,4294966783,0,0,2147483648,0,0,0,0,0,13,11,9,4294966783,0,0,2147483648,0,0,0,0,0,1]
theorem inset_name (c : Nat) (seen : Sre.Seen) (h1 : 32 ≤ c) (h2 : c < 127) : ∃ seen', Sre.inSet nameCode c 20 5 true seen = .ok (false, seen') := by
  have e1 : (decide (0 ≤ c) && decide (c ≤ 31)) = false := by
    rw [Bool.and_eq_false_iff]; right; exact decide_eq_false (by omega)
  have e2 : (c == 127) = false := by simpa using (by omega : c ≠ 127)
  refine ⟨((seen.add 22).add 16).add 0, ?_⟩
  show (if (decide (0 ≤ c) && decide (c ≤ 31)) = true then Except.ok (true, _) else (if (c == 127) = true then Except.ok (true, _) else Except.ok (!true, _))) = _
  rw [e1, e2]
  rfl
theorem inset_value (c : Nat) (seen : Sre.Seen) (h1 : 32 ≤ c) (h2 : c < 127) : ∃ seen', Sre.inSet valueCode c 28 5 true seen = .ok (false, seen') := by
  have key : ∀ c : Fin 128, 32 ≤ c.val → c.val < 127 → (decide (c.val < 256) && (valueCode.getD (5 + (1 + c.val / 32)) 0).testBit (c.val % 32)) = false := by decide +kernel
  have e1 := key ⟨c, by omega⟩ h1 h2
  dsimp only at e1
  refine ⟨(seen.add 9).add 0, ?_⟩
  show (if (decide (c < 256) && (valueCode.getD (5 + (1 + c / 32)) 0).testBit (c % 32)) = true then Except.ok (true, _) else Except.ok (!true, _)) = _
  rw [e1]
  rfl
theorem admitted_none {m : Sre.M} {code : Array Nat} (hc : m.code = code) (hin : ∀ c seen, 32 ≤ c → c < 127 → ∃ seen', Sre.inSet code c code.size 5 true seen = .ok (false, seen'))
    (ht : ∀ i, i < m.lim → 32 ≤ m.text.getD i 0 ∧ m.text.getD i 0 < 127) : ∀ (fuel s : Nat) (seen : Sre.Seen), ∃ seen', Sre.M.admitted m fuel s seen = .ok (none, seen')
  | 0, _, seen => ⟨seen, rfl⟩
  | fuel + 1, s, seen => by
    unfold Sre.M.admitted
    by_cases h : s ≥ m.lim
    · rw [if_pos h]; exact ⟨_, rfl⟩
    · rw [if_neg h, hc]
      obtain ⟨s1, e1⟩ := hin (m.text.getD s 0) seen (ht s (by omega)).1 (ht s (by omega)).2
      rw [e1]
      exact admitted_none hc hin ht fuel (s + 1) s1
theorem run_say (m : Sre.M) (h1 : m.outcome = none) (h2 : m.answer = some false) (h3 : m.frames = []) : (m.runFor 4).outcome = some .failed := by
  have s1 : m.step = { m with outcome := some .failed } := by
    unfold Sre.M.step
    rw [h1, h2, h3]
    rfl
  have e : (4 : Nat) = 3 + 1 := rfl
  rw [e]
  unfold Sre.M.runFor
  rw [h1]
  show (Sre.M.runFor 3 m.step).outcome = _
  rw [s1]
  rfl
theorem fin_of {m : Sre.M} (h1 : m.hasFirstSet = true) (h2 : ∃ seen', m.admitted (m.lim + 1 - 0) 0 m.seen = .ok (none, seen')) (h3 : m.outcome = none) (h4 : m.frames = []) : ((m.attemptFrom 0 true).runFor 4).outcome = some .failed := by
  obtain ⟨s1, e⟩ := h2
  have e1 : m.attemptFrom 0 true = { m with seen := s1 }.say false := by
    unfold Sre.M.attemptFrom
    rw [h1, e]
    rfl
  rw [e1]
  exact run_say _ h3 rfl h4
theorem search_of {code x : Array Nat} (h0 : 0 < x.size) (hc : (Sre.header code).1 = 1) (hf : ∀ m : Sre.M, m.code = code → m.hasFirstSet = true)
    (hin : ∀ c seen, 32 ≤ c → c < 127 → ∃ seen', Sre.inSet code c code.size 5 true seen = .ok (false, seen'))
    (hx : ∀ i, i < x.size → 32 ≤ x.getD i 0 ∧ x.getD i 0 < 127) : ((Sre.forSearch code x 0 0 x.size false).runFor 4).outcome = some .failed := by
  unfold Sre.forSearch
  dsimp only
  have e : (decide (0 > x.size) || decide (x.size - 0 < (Sre.header code).1)) = false := by
    rw [hc, Bool.or_eq_false_iff]; exact ⟨decide_eq_false (by omega), decide_eq_false (by omega)⟩
  rw [e, if_neg Bool.false_ne_true]
  exact fin_of (hf _ rfl) (admitted_none rfl hin hx _ _ _) rfl rfl
theorem search_name {x : Array Nat} (h0 : 0 < x.size) (hx : ∀ i, i < x.size → 32 ≤ x.getD i 0 ∧ x.getD i 0 < 127) : ((Sre.forSearch nameCode x 0 0 x.size false).runFor 4).outcome = some .failed :=
  search_of h0 rfl (fun m e => by unfold Sre.M.hasFirstSet; rw [e]; rfl) inset_name hx
theorem search_value {x : Array Nat} (h0 : 0 < x.size) (hx : ∀ i, i < x.size → 32 ≤ x.getD i 0 ∧ x.getD i 0 < 127) : ((Sre.forSearch valueCode x 0 0 x.size false).runFor 4).outcome = some .failed :=
  search_of h0 rfl (fun m e => by unfold Sre.M.hasFirstSet; rw [e]; rfl) inset_value hx
end Mine
end
section
open PySem PySem.W PyProof.Rows PySem.Calls
namespace Mine
set_option maxRecDepth 100000
set_option maxHeartbeats 8000000
theorem conv {w : World} {mean : ExcName → Option Value} {mg mb : Str → Option Value} {dp un : Nat} {fr : Option (List Env)} {gd : Option (List Code)} {s : Shared} {base : Heap} {Q E : Value → Shared → Prop}
    (hb : ∀ b o, base.get? b = some o → s.heap.get? b = some o) (KX : (KF w).In base) (T : TopP mean mg mb base) (hdp : dp < 500) (hu : un < 100) (self : Addr) (x : Str) (t : Tok) (b : Bool) (hx0 : 0 < x.cps.size) (hx1 : x.cps.size < 2 ^ 24) (hx : ∀ i, i < x.cps.size → 32 ≤ x.cps.getD i 0 ∧ x.cps.getD i 0 < 127)
    (hQ : ∀ h' tk, (∀ b o, s.heap.get? b = some o → h'.get? b = some o) → Q (.str x t) { s with heap := h', toks := tk }) : wpAny (model prg w) ⟨none, dp, fr, gd, un⟩ (call (.ref 70) [.ref self, .str x t] [(Str.ofString "name", .bool b)]) Q E s := by
  w_on; w_top on
  dsimp only [KF, TopP, prg] at KX T ⊢
  revert KX; k_fill; intro KX
  refine wpAny_call ?_
  refine enterKN (news := []) (f := 70) hb (fun p hp => nomatch hp) KX T rfl rfl (by unfold recursionLimit; dsimp only; omega) (BindsTo.of_eq rfl) (locs rfl) (fun g h₁ hg1 hg2 F N KG TG => ?_) (by decide) rfl rfl rfl
  w_binds F
  (iterate 29 (first | (k_unfold; (try dsimp only)) | (k_end; wrow_close) | walk1 | (dsimp only; walk1) | (leave1; try dsimp only)))
  · (with_reducible rename Fr _ _ _ _ => FF)
    have h43 := FF.keep 43 _ (KG 43 _ rfl)
    have h42 := FF.keep 42 _ (KG 42 _ rfl)
    refine getMethod_builtin (T := "re.Pattern") ⟨_, h43, rfl⟩ plainAttrs_re slot_re_search type_re_search (fun a e => by cases e; exact ⟨_, h43, rfl⟩) ?_
    (iterate 4 (first | (k_unfold; (try dsimp only)) | (k_end; wrow_close) | walk1 | (dsimp only; walk1) | (leave1; try dsimp only)))
    refine wpAny_call_entry slot_re_search ⟨_, h43, rfl⟩ entry_re_search (re_search_none h43 h42 hx1 (code := nameCode) (by decide +kernel) (search_name hx0 hx) ?_) (args_re_search _ _)
    (iterate 7 (first | (k_unfold; (try dsimp only)) | (k_end; wrow_close) | walk1 | (dsimp only; walk1) | (leave1; try dsimp only)))
    (with_reducible rename Fr _ _ _ _ => F9)
    exact hQ _ _ fun b o e => F9.keep b o (hg2 b o (fun h => nomatch h) e)
  · (iterate 7 (first | (k_unfold; (try dsimp only)) | (k_end; wrow_close) | walk1 | (dsimp only; walk1) | (leave1; try dsimp only)))
    (with_reducible rename Fr _ _ _ _ => FF)
    have h43 := FF.keep 48 _ (KG 48 _ rfl)
    have h42 := FF.keep 47 _ (KG 47 _ rfl)
    refine getMethod_builtin (T := "re.Pattern") ⟨_, h43, rfl⟩ plainAttrs_re slot_re_search type_re_search (fun a e => by cases e; exact ⟨_, h43, rfl⟩) ?_
    (iterate 4 (first | (k_unfold; (try dsimp only)) | (k_end; wrow_close) | walk1 | (dsimp only; walk1) | (leave1; try dsimp only)))
    refine wpAny_call_entry slot_re_search ⟨_, h43, rfl⟩ entry_re_search (re_search_none h43 h42 hx1 (code := valueCode) (by decide +kernel) (search_value hx0 hx) ?_) (args_re_search _ _)
    (iterate 7 (first | (k_unfold; (try dsimp only)) | (k_end; wrow_close) | walk1 | (dsimp only; walk1) | (leave1; try dsimp only)))
    (with_reducible rename Fr _ _ _ _ => F9)
    exact hQ _ _ fun b o e => F9.keep b o (hg2 b o (fun h => nomatch h) e)
end Mine
end
section
open PySem PySem.W PyProof.Rows PySem.Calls
namespace Mine
set_option maxRecDepth 100000
set_option maxHeartbeats 8000000

theorem frOff {h₀ h h' : Heap} {L : Addr} {m : Str → Option Value} {wr : List Addr} (F : Fr h₀ L h m) (hk : ∀ b o, b ∉ wr → h.get? b = some o → h'.get? b = some o) (hL : L ∉ wr) (h0 : ∀ b ∈ wr, h₀.get? b = none) : Fr h₀ L h' m :=
  ⟨F.ns.at' fun o e => hk L o hL e, fun b o e => hk b o (fun hb => by rw [h0 b hb] at e; cases e) (F.keep b o e), F.above⟩
theorem newsOff {h₀ h h' : Heap} {L : Addr} {news : List (Addr × Obj)} {wr : List Addr} (N : News h₀ L h news) (hk : ∀ b o, b ∉ wr → h.get? b = some o → h'.get? b = some o) (hn : ∀ p ∈ news, p.1 ∉ wr) : News h₀ L h' news :=
  fun p hp => ⟨hk _ _ (hn p hp) (N p hp).1, (N p hp).2⟩

structure HdrAt (h : Heap) (x dx hl : Addr) (hsh : Int) (tk : Tok) (n1 n2 : Nat) (items : Array Value) : Prop where
  inst : h.get? x = some (instObj 171 dx)
  dict : h.get? dx = some (dictOf [⟨hsh, .str (Str.ofString "_headers") tk, .ref hl⟩] n1)
  list : h.get? hl = some (listOf items n2)
structure Ents (h : Heap) (items : Array Value) (es : List (Str × Str)) : Prop where
  size : items.size = es.length
  ent : ∀ (j : Nat) (e : Str × Str), es[j]? = some e → ∃ (T : Addr) (tk tv : Tok), items[j]? = some (Value.ref T) ∧ h.IsTuple T #[.str e.1 tk, .str e.2 tv]
theorem frKeep {h₀ h h' : Heap} {L : Addr} {m : Str → Option Value} (F : Fr h₀ L h m) (hk : ∀ b o, h.get? b = some o → h'.get? b = some o) : Fr h₀ L h' m :=
  ⟨F.ns.at' fun o e => hk L o e, fun b o e => hk b o (F.keep b o e), F.above⟩
theorem newsKeep {h₀ h h' : Heap} {L : Addr} {news : List (Addr × Obj)} (N : News h₀ L h news) (hk : ∀ b o, h.get? b = some o → h'.get? b = some o) : News h₀ L h' news :=
  fun p hp => ⟨hk _ _ (N p hp).1, (N p hp).2⟩
structure Clean (x : Str) : Prop where
  pos : 0 < x.cps.size
  small : x.cps.size < 1000
  ok : ∀ i, i < x.cps.size → 32 ≤ x.cps.getD i 0 ∧ x.cps.getD i 0 < 127
def hfind (es : List (Str × Str)) (nm : Str) : Option Str := (es.find? fun p => Txt.lower p.1 == nm).map (·.2)
def ansV : Option Str → Tok → Value
  | some v, t => .str v t
  | none, _ => .none

theorem hfind_hit {es : List (Str × Str)} {nm : Str} : ∀ {j : Nat} (hj : j < es.length), (Txt.lower es[j].1 == nm) = true → (∀ i e, i < j → es[i]? = some e → (Txt.lower e.1 == nm) = false) → hfind es nm = some es[j].2 := by
  unfold hfind
  induction es with
  | nil => intro j hj; exact absurd hj (Nat.not_lt_zero _)
  | cons a r ih =>
    intro j hj hc hno
    cases j with
    | zero =>
      have hc' : (Txt.lower a.1 == nm) = true := hc
      rw [List.find?_cons, hc']; rfl
    | succ j =>
      rw [List.find?_cons, hno 0 a (Nat.zero_lt_succ _) rfl]
      exact ih (j := j) (Nat.lt_of_succ_lt_succ hj) hc fun i e hi he => hno (i + 1) e (Nat.succ_lt_succ hi) (by simpa using he)
theorem hfind_miss {es : List (Str × Str)} {nm : Str} (hno : ∀ (i : Nat) e, es[i]? = some e → (Txt.lower e.1 == nm) = false) : hfind es nm = none := by
  unfold hfind
  rw [Option.map_eq_none_iff, List.find?_eq_none]
  intro e he
  obtain ⟨i, hi⟩ := List.getElem?_of_mem he
  rw [hno i e hi]; decide
theorem keepAll {g h hs : Heap} {L : Addr} {m : Str → Option Value} {news news' : List (Addr × Obj)} (hg2 : ∀ b o, b ∉ news.map (·.1) → hs.get? b = some o → g.get? b = some o) (hn : ∀ p ∈ news, hs.get? p.1 = some p.2)
    (F : Fr g L h m) (N : News g L h news') (hsub : ∀ p ∈ news, p ∈ news') : ∀ b o, hs.get? b = some o → h.get? b = some o := fun b o e => by
  by_cases hb : b ∈ news.map (·.1)
  · obtain ⟨p, hp, rfl⟩ := List.mem_map.mp hb
    rw [hn p hp] at e
    cases e
    exact (N p (hsub p hp)).1
  · exact F.keep b o (hg2 b o hb e)
theorem Ents.keep {h h' : Heap} {items : Array Value} {es : List (Str × Str)} (x : Ents h items es) (hk : ∀ b o, h.get? b = some o → o.cls = .type "tuple" → h'.get? b = some o) : Ents h' items es :=
  ⟨x.size, fun j e he => by
    obtain ⟨T, tk, tv, h1, o, ho, hc, n, hd⟩ := x.ent j e he
    exact ⟨T, tk, tv, h1, o, hk T o ho hc, hc, n, hd⟩⟩
theorem iterNews {g h : Heap} {L I l : Addr} {j : Nat} {news : List (Addr × Obj)} (N : News g L h news) (hI : h.IsListIter I l j) (hL : I ≠ L) (hg : g.get? I = none) :
    ∃ oi : Obj, oi.cls = .type "list_iterator" ∧ oi.data = .fields #[.ref l, .int j 0] ∧ News g L h ((I, oi) :: news) := by
  obtain ⟨o, ho, hc, hd⟩ := hI
  refine ⟨o, hc, hd, fun p hp => ?_⟩
  rcases List.mem_cons.mp hp with rfl | hp
  · exact ⟨ho, hL, hg⟩
  · exact N p hp

theorem hget {w : World} {mean : ExcName → Option Value} {mg mb : Str → Option Value} {dp un : Nat} {fr : Option (List Env)} {gd : Option (List Code)} {s : Shared} {base : Heap} {Q E : Value → Shared → Prop}
    (hb : ∀ b o, base.get? b = some o → s.heap.get? b = some o) (KX : (KF w).In base) (T : TopP mean mg mb base) (hdp : dp < 450) (hu : un < 50)
    {x dx hl : Addr} {hsh : Int} {tk0 : Tok} {n1 n2 : Nat} {items : Array Value} {es : List (Str × Str)} (H : HdrAt s.heap x dx hl hsh tk0 n1 n2 items) (hE : Ents s.heap items es) (hxn : base.get? x = none) (hdn : base.get? dx = none) (hdx : dx < x)
    (hsm : ∀ e ∈ es, e.1.cps.size < 1000)
    (nm : Str) (t : Tok) (hs : nm.cps.size < 1000) (hc : Clean (Txt.lower nm))
    (hQ : ∀ t' h' tk, (∀ b o, s.heap.get? b = some o → h'.get? b = some o) → Q (ansV (hfind es (Txt.lower nm)) t') { s with heap := h', toks := tk }) : wpAny (model prg w) ⟨none, dp, fr, gd, un⟩ (call (.ref 118) [.ref x, .str nm t]) Q E s := by
  w_on; w_top on
  dsimp only [KF, TopP, prg] at KX T ⊢
  revert KX; k_fill; intro KX
  have hn0 : ∀ p ∈ [(x, instObj 171 dx), (dx, dictOf [⟨hsh, .str (Str.ofString "_headers") tk0, .ref hl⟩] n1)], s.heap.get? p.1 = some p.2 ∧ base.get? p.1 = none := fun p hp => by
    rcases List.mem_cons.mp hp with rfl | hp
    · exact ⟨H.inst, hxn⟩
    · rcases List.mem_cons.mp hp with rfl | hp
      · exact ⟨H.dict, hdn⟩
      · cases hp
  refine wpAny_call ?_
  refine enterKN (news := [(x, instObj 171 dx), (dx, dictOf [⟨hsh, .str (Str.ofString "_headers") tk0, .ref hl⟩] n1)]) (f := 118) hb hn0 KX T rfl rfl (by unfold recursionLimit; dsimp only; omega) (binds_K (KX.keeps hb) rfl (by rfl) rfl rfl rfl) (locs rfl) (fun g h₁ hg1 hg2 F N KG TG => ?_) (by decide) rfl rfl rfl
  w_binds F
  (iterate 12 (first | (k_unfold; (try dsimp only)) | (k_end; wrow_close) | walk1 | (dsimp only; walk1) | (leave1; try dsimp only)))
  refine SCL.lower (by show nm.cps.size ≤ _; omega) ?_
  intro _
  (iterate 5 (first | (k_unfold; (try dsimp only)) | (k_end; wrow_close) | walk1 | (dsimp only; walk1) | (leave1; try dsimp only)))
  (with_reducible rename Fr _ _ _ _ => F1); (with_reducible rename News _ _ _ _ => N1)
  show wpAny _ (Around.mk none (dp + 1) _ _ _) (call (Value.ref 70) [Value.ref x, Value.str (Txt.lower nm) _] [(Str.ofString "name", Value.bool true)]) _ _ _
  refine conv (base := g) (by exact F1.keep) KG TG (by first | omega | (dsimp only; omega)) (by first | omega | (dsimp only; omega)) x (Txt.lower nm) _ true hc.pos (Nat.lt_trans hc.small (by decide)) hc.ok ?_
  intro h2 tk2 hk2
  replace F1 := frKeep F1 hk2
  replace N1 := newsKeep N1 hk2
  (iterate 1 (first | (k_unfold; (try dsimp only)) | (k_end; wrow_close) | walk1 | (dsimp only; walk1) | (leave1; try dsimp only)))
  (with_reducible rename Fr _ _ _ _ => F3); (with_reducible rename News _ _ _ _ => N3)
  refine wpAny_execs_cons (wpAny_For ?_)
  (iterate 3 (first | (k_unfold; (try dsimp only)) | (k_end; wrow_close) | walk1 | (dsimp only; walk1) | (leave1; try dsimp only)))
  have F1 := F3; have N1 := N3
  clear F3 N3
  rename_i h'
  have hlx : hl ≠ x := fun e => by have h := H.list; rw [e, H.inst] at h; exact absurd (congrArg Obj.cls (Option.some.inj h)) (show ¬ Value.ref 171 = Value.type "list" by decide)
  have hld : hl ≠ dx := fun e => by have h := H.list; rw [e, H.dict] at h; exact absurd (congrArg Obj.cls (Option.some.inj h)) (show ¬ Value.type "dict" = Value.type "list" by decide)
  have hlg : g.get? hl = some (listOf items n2) := hg2 hl _ (by simp [hlx, hld]) H.list
  have hEg : Ents g items es := hE.keep fun b o e hcl => hg2 b o (by
    intro hm
    simp only [List.map_cons, List.map_nil, List.mem_cons, List.not_mem_nil, or_false] at hm
    rcases hm with rfl | rfl
    · rw [H.inst] at e; rw [← Option.some.inj e] at hcl; exact absurd hcl (show ¬ Value.ref 171 = Value.type "tuple" by decide)
    · rw [H.dict] at e; rw [← Option.some.inj e] at hcl; exact absurd hcl (show ¬ Value.type "dict" = Value.type "tuple" by decide)) e
  refine wpAny_pyIter_list (l := hl) ⟨_, F1.keep hl _ hlg, rfl, _, rfl⟩ ?_
  have hIg : g.get? h'.objs.size = none := next_is_new F1
  have hLI : s.heap.objs.size < h'.objs.size := F1.ns.lt
  have hnI : ∀ p ∈ [(x, instObj 171 dx), (dx, dictOf [⟨hsh, .str (Str.ofString "_headers") tk0, .ref hl⟩] n1)], p.1 ≠ h'.objs.size := fun p hp => Nat.ne_of_lt (Heap.lt_size (N1 p hp).1)
  have hlI : hl ≠ h'.objs.size := Nat.ne_of_lt (Heap.lt_size (F1.keep _ _ hlg))
  generalize hI : h'.objs.size = I at *
  refine forLoop_ok (fun k s' => ∃ (j : Nat) (h : Heap) (tk : Nat) (m : Str → Option Value) (u : Tok) (oi : Obj), s' = { s with heap := h, toks := tk } ∧ k = es.length + 1 - j ∧ j ≤ es.length ∧ Fr g s.heap.objs.size h m
    ∧ m (Str.ofString "name") = some (.str (Txt.lower nm) u) ∧ m (Str.ofString "default") = some .none ∧ oi.cls = .type "list_iterator" ∧ oi.data = .fields #[.ref hl, .int j 0]
    ∧ News g s.heap.objs.size h ((I, oi) :: [(x, instObj 171 dx), (dx, dictOf [⟨hsh, .str (Str.ofString "_headers") tk0, .ref hl⟩] n1)]) ∧ (∀ i e, i < j → es[i]? = some e → (Txt.lower e.1 == Txt.lower nm) = false)) ?_ (es.length + 1) ?_
  · clear F1 N1 hI
    rintro k s' ⟨j, h, tk, m, u, oi, rfl, rfl, hj, F, hm1, hm2, hoc, hod, N, hno⟩
    have hit : h.IsListIter I hl j := ⟨oi, N.get (.head _), hoc, hod⟩
    have hls : h.IsList hl items := ⟨_, F.keep _ _ hlg, rfl, _, rfl⟩
    by_cases hlt : j < es.length
    · obtain ⟨T, tk1, tv, hj1, hT⟩ := hEg.ent j es[j] (by simp [hlt])
      refine wpAny_pyNext_list_item hit hls hj1 fun h' hit' hs' => ?_
      dsimp only
      refine wpAny_letOwnedTupleGo_listiter hit' ?_
      have hk : ∀ b o, b ∉ [I] → h.get? b = some o → h'.get? b = some o := fun b o hb e => hs'.extBut b o (by simpa using hb) e
      have F2 : Fr g s.heap.objs.size h' m := frOff F hk (by simpa using Nat.ne_of_lt hLI) (by simpa using hIg)
      have N0 := newsOff (wr := [I]) (fun p hp => N p (.tail _ hp)) hk (fun p hp => by simpa using hnI p hp)
      obtain ⟨oi', hoc', hod', N2⟩ := iterNews N0 hit' (Nat.ne_of_gt hLI) hIg
      replace F2 := seeF F2 hm2
      replace F2 := seeF (x := Str.ofString "name") F2 hm1
      clear hm1 hm2 F N N0 hit hls
      obtain ⟨oT, hoT, hTc, nT, hTd⟩ := hT
      have hTup : IsTup h' T #[.str es[j].1 tk1, .str es[j].2 tv] := ⟨oT, F2.keep _ _ hoT, hTc, nT, hTd⟩
      refine unpackN_ F2 N2 hTup rfl rfl rfl fun h3 F3 N3 => ?_
      (iterate 15 (first | (k_unfold; (try dsimp only)) | (k_end; wrow_close) | walk1 | (dsimp only; walk1) | (leave1; try dsimp only)))
      refine SCL.lower (by show es[j].1.cps.size ≤ _; have := hsm es[j] (List.getElem_mem hlt); omega) ?_
      intro _
      (iterate 4 (first | (k_unfold; (try dsimp only)) | (k_end; wrow_close) | walk1 | (dsimp only; walk1) | (leave1; try dsimp only)))
      · rename (_ == _) = true => hcnd
        (iterate 4 (first | (k_unfold; (try dsimp only)) | (k_end; wrow_close) | walk1 | (dsimp only; walk1) | (leave1; try dsimp only)))
        (with_reducible rename Fr _ _ _ _ => F9); (with_reducible rename News _ _ _ _ => N9)
        have hans : hfind es (Txt.lower nm) = some es[j].2 := hfind_hit hlt hcnd hno
        have hq := hQ tv
        rw [hans] at hq
        exact hq _ _ (keepAll hg2 (fun p hp => (hn0 p hp).1) F9 N9 (fun p hp => .tail _ hp))
      · rename (_ == _) = false => hcnd
        (iterate 3 (first | (k_unfold; (try dsimp only)) | (k_end; wrow_close) | walk1 | (dsimp only; walk1) | (leave1; try dsimp only)))
        (with_reducible rename Fr _ _ _ _ => F9); (with_reducible rename News _ _ _ _ => N9)
        refine ⟨es.length + 1 - (j + 1), by omega, j + 1, _, _, _, _, oi', rfl, rfl, hlt, F9, rfl, rfl, hoc', hod', N9, fun i e hi he => ?_⟩
        rcases Nat.lt_or_ge i j with h | h
        · exact hno i e h he
        · have : i = j := by omega
          subst this
          have : e = es[i] := by simpa using (List.getElem?_eq_some_iff.mp he).2.symm
          rw [this]; exact hcnd
    · have hje : j = es.length := by omega
      refine wpAny_pyNext_list_end rfl hit hls (Array.getElem?_eq_none (by rw [hEg.size]; omega)) fun h' hx' => ?_
      dsimp only
      have hk : ∀ b o, b ∉ [I] → h.get? b = some o → h'.get? b = some o := fun b o hb e => hx' b o (by simpa using hb) e
      have F2 : Fr g s.heap.objs.size h' m := frOff F hk (by simpa using Nat.ne_of_lt hLI) (by simpa using hIg)
      have N0 := newsOff (wr := [I]) (fun p hp => N p (.tail _ hp)) hk (fun p hp => by simpa using hnI p hp)
      replace F2 := seeF F2 hm2
      clear hm1 hm2 F N hit hls
      (iterate 3 (first | (k_unfold; (try dsimp only)) | (k_end; wrow_close) | walk1 | (dsimp only; walk1) | (leave1; try dsimp only)))
      (with_reducible rename Fr _ _ _ _ => F9); (with_reducible rename News _ _ _ _ => N9)
      have hans : hfind es (Txt.lower nm) = none := hfind_miss fun i e he => hno i e (by have := (List.getElem?_eq_some_iff.mp he).1; omega) he
      have hq := hQ 0
      rw [hans] at hq
      exact hq _ _ (keepAll hg2 (fun p hp => (hn0 p hp).1) F9 N9 (fun p hp => hp))
  · exact ⟨0, _, _, _, _, _, rfl, by omega, by omega, F1.push _, rfl, rfl, rfl, rfl, hI ▸ News.push F1 N1 _, fun i e hi => absurd hi (by omega)⟩
end Mine
end
section
open PySem PySem.W PyProof.Rows PySem.Calls
namespace Mine
set_option maxRecDepth 100000
set_option maxHeartbeats 8000000

theorem freshT {g hs h : Heap} {L TT : Addr} {oT : Obj} {news news' : List (Addr × Obj)} (N : News g L h ((TT, oT) :: news)) (hcls : ∀ p ∈ news, p.2.cls ≠ oT.cls) (hol : news'.map (·.1) = news.map (·.1))
    (hg2 : ∀ b o, b ∉ news'.map (·.1) → hs.get? b = some o → g.get? b = some o) : hs.get? TT = none := by
  refine Option.eq_none_iff_forall_ne_some.mpr fun o e => ?_
  have hT := N _ (.head _)
  by_cases hm : TT ∈ news'.map (·.1)
  · rw [hol] at hm
    obtain ⟨p, hp, hq⟩ := List.mem_map.mp hm
    have h2 := (N p (.tail _ hp)).1
    rw [hq] at h2
    have h3 := hT.1.symm.trans h2
    exact hcls p hp (congrArg Obj.cls (Option.some.inj h3)).symm
  · have := hg2 TT o hm e
    rw [hT.2.2] at this; cases this
theorem hset {w : World} {mean : ExcName → Option Value} {mg mb : Str → Option Value} {dp un : Nat} {fr : Option (List Env)} {gd : Option (List Code)} {s : Shared} {base : Heap} {Q E : Value → Shared → Prop}
    (hb : ∀ b o, base.get? b = some o → s.heap.get? b = some o) (KX : (KF w).In base) (T : TopP mean mg mb base) (hdp : dp < 440) (hu : un < 40)
    {x dx hl : Addr} {hsh : Int} {tk0 : Tok} {n1 n2 : Nat} {items : Array Value} {es : List (Str × Str)} (H : HdrAt s.heap x dx hl hsh tk0 n1 n2 items) (hE : Ents s.heap items es) (hxn : base.get? x = none) (hdn : base.get? dx = none) (hln : base.get? hl = none) (hdx : dx < x)
    (hsm : ∀ e ∈ es, e.1.cps.size < 1000) (hlen : es.length < 1000)
    (nm val : Str) (t tv : Tok) (hs : Clean nm) (hc : Clean (Txt.lower nm)) (hv : Clean val) (hnone : hfind es (Txt.lower nm) = none)
    (hQ : ∀ n' TT h' tk, HdrAt h' x dx hl hsh tk0 n1 n' (items.push (.ref TT)) → h'.IsTuple TT #[.str nm t, .str val tv] → (∀ b o, b ≠ hl → s.heap.get? b = some o → h'.get? b = some o) → s.heap.get? TT = none → Q (.str val tv) { s with heap := h', toks := tk }) :
    wpAny (model prg w) ⟨none, dp, fr, gd, un⟩ (call (.ref 161) [.ref x, .str nm t, .str val tv]) Q E s := by
  w_on; w_top on
  dsimp only [KF, TopP, prg] at KX T ⊢
  revert KX; k_fill; intro KX
  have hn0 : ∀ p ∈ [(x, instObj 171 dx), (dx, dictOf [⟨hsh, .str (Str.ofString "_headers") tk0, .ref hl⟩] n1), (hl, listOf items n2)], s.heap.get? p.1 = some p.2 ∧ base.get? p.1 = none := fun p hp => by
    rcases List.mem_cons.mp hp with rfl | hp
    · exact ⟨H.inst, hxn⟩
    · rcases List.mem_cons.mp hp with rfl | hp
      · exact ⟨H.dict, hdn⟩
      · rcases List.mem_cons.mp hp with rfl | hp
        · exact ⟨H.list, hln⟩
        · cases hp
  refine wpAny_call ?_
  refine enterKN (news := [(x, instObj 171 dx), (dx, dictOf [⟨hsh, .str (Str.ofString "_headers") tk0, .ref hl⟩] n1), (hl, listOf items n2)]) (f := 161) hb hn0 KX T rfl rfl (by unfold recursionLimit; dsimp only; omega) (BindsTo.of_eq rfl) (locs rfl) (fun g h₁ hg1 hg2 F N KG TG => ?_) (by decide) rfl rfl rfl
  w_binds F
  have hlx : hl ≠ x := fun e => by have h := H.list; rw [e, H.inst] at h; exact absurd (congrArg Obj.cls (Option.some.inj h)) (show ¬ Value.ref 171 = Value.type "list" by decide)
  have hld : hl ≠ dx := fun e => by have h := H.list; rw [e, H.dict] at h; exact absurd (congrArg Obj.cls (Option.some.inj h)) (show ¬ Value.type "dict" = Value.type "list" by decide)
  have hEg : Ents g items es := hE.keep fun b o e hcl => hg2 b o (by
    intro hm
    simp only [List.map_cons, List.map_nil, List.mem_cons, List.not_mem_nil, or_false] at hm
    rcases hm with rfl | rfl | rfl
    · rw [H.inst] at e; rw [← Option.some.inj e] at hcl; exact absurd hcl (show ¬ Value.ref 171 = Value.type "tuple" by decide)
    · rw [H.dict] at e; rw [← Option.some.inj e] at hcl; exact absurd hcl (show ¬ Value.type "dict" = Value.type "tuple" by decide)
    · rw [H.list] at e; rw [← Option.some.inj e] at hcl; exact absurd hcl (show ¬ Value.type "list" = Value.type "tuple" by decide)) e
  (iterate 10 (first | (k_unfold; (try dsimp only)) | (k_end; wrow_close) | walk1 | (dsimp only; walk1) | (leave1; try dsimp only)))
  (with_reducible rename Fr _ _ _ _ => F1); (with_reducible rename News _ _ _ _ => N1)
  refine hget (base := g) (by exact F1.keep) KG TG (by first | omega | (dsimp only; omega)) (by first | omega | (dsimp only; omega)) (es := es) ⟨N1.get (.head _), N1.get (.tail _ (.head _)), N1.get (.tail _ (.tail _ (.head _)))⟩
    (hEg.keep fun b o e _ => F1.keep b o e) (N1.fresh (.head _)) (N1.fresh (.tail _ (.head _))) hdx hsm nm t hs.small hc ?_
  intro t2 h2 tk2 hk2
  rw [hnone]
  replace F1 := frKeep F1 hk2
  replace N1 := newsKeep N1 hk2
  dsimp only [ansV]
  (iterate 32 (first | (k_unfold; (try dsimp only)) | (k_end; wrow_close) | walk1 | (dsimp only; walk1) | (leave1; try dsimp only)))
  (with_reducible rename Fr _ _ _ _ => F3); (with_reducible rename News _ _ _ _ => N3)
  show wpAny _ (Around.mk none (dp + 1) _ _ _) (call (Value.ref 70) [Value.ref x, Value.str nm _] [(Str.ofString "name", Value.bool true)]) _ _ _
  refine conv (base := g) (by exact F3.keep) KG TG (by first | omega | (dsimp only; omega)) (by first | omega | (dsimp only; omega)) x nm _ true hs.pos (Nat.lt_trans hs.small (by decide)) hs.ok ?_
  intro h3 tk3 hk3
  replace F3 := frKeep F3 hk3
  replace N3 := newsKeep N3 hk3
  (iterate 12 (first | (k_unfold; (try dsimp only)) | (k_end; wrow_close) | walk1 | (dsimp only; walk1) | (leave1; try dsimp only)))
  show wpAny _ (Around.mk none (dp + 1) _ _ _) (call (Value.ref 70) [Value.ref x, Value.str val _] [(Str.ofString "name", Value.bool false)]) _ _ _
  refine conv (base := g) (by exact F3.keep) KG TG (by first | omega | (dsimp only; omega)) (by first | omega | (dsimp only; omega)) x val _ false hv.pos (Nat.lt_trans hv.small (by decide)) hv.ok ?_
  intro h4 tk4 hk4
  replace F3 := frKeep F3 hk4
  replace N3 := newsKeep N3 hk4
  have hszI : items.size ≤ sizeLine := by rw [hE.size, sizeLine_eq]; omega
  have hlx' : x ≠ hl := fun e => hlx e.symm
  have hld' : dx ≠ hl := fun e => hld e.symm
  (iterate 3 (first | (k_unfold; (try dsimp only)) | (k_end; wrow_close) | walk1 | (dsimp only; walk1) | (leave1; try dsimp only)))
  k_dflt (refine' append_K ?k1 ?k2 ?k3 ?_ ?z)
  case k1 => k_asm
  case k2 => k_asm
  case k3 => k_upd
  case z => exact hszI
  intro h' F' N'
  (iterate 4 (first | (k_unfold; (try dsimp only)) | (k_end; wrow_close) | walk1 | (dsimp only; walk1) | (leave1; try dsimp only)))
  refine hQ (n2 + 1) _ h' _ ⟨N'.get (.tail _ (.head _)), N'.get (.tail _ (.tail _ (.head _))), N'.get (.tail _ (.tail _ (.tail _ (.head _))))⟩ ⟨_, N'.get (.head _), rfl, _, rfl⟩ (fun b o hbl e => ?_) ?_
  · by_cases h1 : b = x
    · subst h1; rw [H.inst] at e; rw [← e]; exact N'.get (.tail _ (.head _))
    · by_cases h2 : b = dx
      · subst h2; rw [H.dict] at e; rw [← e]; exact N'.get (.tail _ (.tail _ (.head _)))
      · exact F'.keep b o (hg2 b o (by simp [h1, h2, hbl]) e)
  · refine freshT N' (fun p hp => ?_) (news' := [(x, instObj 171 dx), (dx, dictOf [⟨hsh, .str (Str.ofString "_headers") tk0, .ref hl⟩] n1), (hl, listOf items n2)]) rfl hg2
    rcases List.mem_cons.mp hp with rfl | hp
    · exact (show ¬ Value.ref 171 = Value.type "tuple" by decide)
    rcases List.mem_cons.mp hp with rfl | hp
    · exact (show ¬ Value.type "dict" = Value.type "tuple" by decide)
    rcases List.mem_cons.mp hp with rfl | hp
    · exact (show ¬ Value.type "list" = Value.type "tuple" by decide)
    · cases hp
end Mine
end
section
open PySem PySem.W PyProof.Rows PySem.Calls
namespace Mine
set_option maxRecDepth 100000
set_option maxHeartbeats 8000000
section
variable {prog : Program} {w : World} {A : Around} {R : GenEnd} {Y : Protocol} {n : Nat} {s₀ : Shared} {c : Code} {fs : List Frame} {s : Shared} {env : Env}
  {K : Flow → Sem Fin} {H : Value → Sem Fin} {gd : Bool → Bool} {lv : List Value → List Value}

theorem segIf {test : PySem.Expr} {body orelse : List Stmt} {pos : Pos}
    (h : wpAny (model prog w) (A.over c fs) (isTrue test env (eval test env)) (fun b s' =>
      if b = true then Seg (model prog w) A R Y n s₀ c ((execs body env).wrap K H gd lv) fs s' else Seg (model prog w) A R Y n s₀ c ((execs orelse env).wrap K H gd lv) fs s') (fun _ _ => False) s) :
    Seg (model prog w) A R Y n s₀ c ((exec (.If test body orelse pos) env).wrap K H gd lv) fs s := by
  rw [exec_If]
  show Seg _ A R Y n s₀ c (.at pos fun _ => (isTrue test env (eval test env) >>= fun b => if b = true then execs body env else execs orelse env).wrap K H gd lv) fs s
  refine seg_at ?_
  rw [Sem.bind_eq_wrap', Sem.wrap_wrap]
  refine seg_wrap (wpAny_mono h (fun b s' hb => ?_) fun _ _ x => x.elim)
  cases b with
  | true => rw [if_pos rfl] at hb ⊢; exact hb
  | false => rw [if_neg Bool.false_ne_true] at hb ⊢; exact hb

theorem segPlain {st : Stmt} {rest : List Stmt}
    (h : wpAny (model prog w) (A.over c fs) (exec st env) (fun f s' => f = .next ∧ Seg (model prog w) A R Y n s₀ c ((execs rest env).wrap K H gd lv) fs s') (fun _ _ => False) s) :
    Seg (model prog w) A R Y n s₀ c ((execs (st :: rest) env).wrap K H gd lv) fs s := by
  rw [execs_cons_wrap]
  refine seg_wrap (wpAny_mono h (fun f s' hf => ?_) fun _ _ x => x.elim)
  obtain ⟨rfl, hs⟩ := hf
  exact hs

def forKb (target : PySem.Expr) (it : Value) (body : List Stmt) (env : Env) (f : Flow) : Sem Fin := match f with
  | .next => .pure (.again (.forLoop target it body [] env))
  | .cont => .pure (.again (.forLoop target it body [] env))
  | .brk => .pure (.done .next)
  | .ret v => .pure (.done (.ret v))
def noteH (env : Env) (e : Value) : Sem Fin := (do noteFrame e env; theTreesLotGoes e : Sem Unit).wrap (fun _ => .raise e) .raise id id

theorem segForLoop {target : PySem.Expr} {it : Value} {body : List Stmt}
    (h : wpAny (model prog w) (A.over (.forLoop target it body [] env) fs) (pyNext it) (fun r s' => match r with
      | none => Seg (model prog w) A R Y n s₀ (.block [] env) (.pure (.done .next)) fs s'
      | some v => wpAny (model prog w) (A.over (.forLoop target it body [] env) fs) (letOwnedTupleGo target it v) (fun _ s₁ => wpAny (model prog w) (A.over (.forLoop target it body [] env) fs) (assign target env v) (fun _ s₂ =>
          Seg (model prog w) A R Y n s₀ (.forLoop target it body [] env) ((execs body env).wrap (forKb target it body env) (noteH env) id id) fs s₂) (fun _ _ => False) s₁) (fun _ _ => False) s') (fun _ _ => False) s) :
    Seg (model prog w) A R Y n s₀ (.forLoop target it body [] env) ((model prog w).den (.forLoop target it body [] env)) fs s := by
  show Seg _ A R Y n s₀ _ ((forTurn target it body [] env).onRaise (fun x => do noteFrame x env; theTreesLotGoes x)) fs s
  unfold forTurn
  rw [Sem.onRaise_eq_wrap, Sem.bind_eq_wrap', Sem.wrap_wrap]
  refine seg_wrap (wpAny_standAt ?_)
  rw [Sem.bind_eq_wrap', Sem.wrap_wrap]
  refine seg_wrap (wpAny_onRaise (wpAny_mono h (fun r s' hr => ?_) fun _ _ x => x.elim))
  cases r with
  | none =>
    refine seg_again (c' := .block [] env) rfl ?_
    exact hr
  | some v =>
    dsimp only
    rw [Sem.bind_eq_wrap', Sem.wrap_wrap]
    refine seg_wrap (wpAny_mono hr (fun _ s₁ h₁ => ?_) fun _ _ x => x.elim)
    rw [Sem.bind_eq_wrap', Sem.wrap_wrap]
    refine seg_wrap (wpAny_mono h₁ (fun _ s₂ h₂ => ?_) fun _ _ x => x.elim)
    rw [Sem.bind_eq_wrap', Sem.wrap_wrap]
    rw [Sem.wrap_congr (execs body env) _ _ (K' := forKb target it body env) (H' := noteH env)
      (fun f => by cases f <;> rfl)
      (fun e => by first | exact Sem.bind_eq_wrap _ _ | (show (do noteFrame e env; theTreesLotGoes e : Sem Unit).bind (fun _ => .raise e) = _; rw [Sem.bind_eq_wrap]; rfl))]
    exact h₂
def kFor (env : Env) (K : Flow → Sem Fin) (H : Value → Sem Fin) (gd : Bool → Bool) (lv : List Value → List Value) : Result → Sem Fin := fun r => ((match r with | .ok f => (.pure f : Sem Flow) | .error e => .raise e).onRaise fun (x : Value) => do
        if (← field x 1) == Value.none then unsupported "frame.own-activation:exception-without-traceback"
        setFlight x env.frame).wrap K H gd lv
theorem segFor {target iter : PySem.Expr} {body : List Stmt} {pos : Pos}
    (h : wpAny (model prog w) (A.over c fs) (eval iter env) (fun x s₁ => wpAny (model prog w) (A.over c fs) (pyIter x) (fun it s₂ =>
      ∀ p, Seg (model prog w) A R Y n s₀ (.forLoop target it body [] env) ((model prog w).den (.forLoop target it body [] env)) (.ret (kFor env K H gd lv) none (gd false) (lv []) c p [] :: fs) s₂) (fun _ _ => False) s₁) (fun _ _ => False) s)
    (hs : ∀ x, foldedSetIterable iter env x = pure x) :
    Seg (model prog w) A R Y n s₀ c ((exec (.For target iter body [] pos) env).wrap K H gd lv) fs s := by
  rw [exec_For, Sem.bind_eq_wrap', Sem.wrap_wrap]
  refine seg_wrap (wpAny_standAt ?_)
  rw [Sem.bind_eq_wrap', Sem.wrap_wrap]
  refine seg_wrap (wpAny_mono h (fun x s₁ h₁ => ?_) fun _ _ x => x.elim)
  rw [hs, Sem.bind_eq_wrap', Sem.wrap_wrap]
  refine seg_wrap (m := pure x) (wpAny_pure ?_)
  rw [Sem.bind_eq_wrap', Sem.wrap_wrap]
  refine seg_wrap (wpAny_standAt ?_)
  rw [Sem.bind_eq_wrap', Sem.wrap_wrap]
  refine seg_wrap (wpAny_holding (wpAny_mono h₁ (fun it s₂ h₂ => ?_) fun _ _ x => x.elim))
  exact seg_call h₂
end
end Mine
end
section
open PySem PySem.W PyProof.Rows PySem.Calls
namespace Mine
set_option maxRecDepth 100000
set_option maxHeartbeats 8000000
def utl : Nat → List Nat
  | 0 => [34]
  | 1 => [97]
  | 2 => [92, 34]
  | _ => [92, 92]
def utx (u : Nat) : Str := ⟨(utl u).toArray⟩
def Since (L N : Addr) (s₀ s : Shared) : Prop := ∃ h' tk, s = { s₀ with heap := h', toks := tk } ∧ ∀ b o, b ≠ L → b < N → s₀.heap.get? b = some o → h'.get? b = some o
def gY (L N : Addr) (U : List Nat) : Protocol := fun m s₀ v s kap =>
  (∃ T p t u, v = .ref T ∧ s.heap.IsTuple T #[.int p t, .str (utx (U.getD (U.length - 1 - m) 0)) u]) ∧ Since L N s₀ s ∧
  ∃ wrs : List Addr, (∀ b ∈ wrs, b = L ∨ N ≤ b) ∧ ∀ s'' : Shared, (∀ b ∈ wrs, ∀ o, s.heap.get? b = some o → s''.heap.get? b = some o) → kap (.send .none) s''
def gR (L N : Addr) : GenEnd := fun n s₀ r s₁ => r = .ok (.ret .none) ∧ (n = 0 ∧ Since L N s₀ s₁)
theorem Since.refl (L N : Addr) (s : Shared) : Since L N s s := ⟨s.heap, s.toks, rfl, fun _ _ _ _ e => e⟩
theorem Since.step {L N : Addr} {s₀ s : Shared} (x : Since L N s₀ s) {h' : Heap} {tk : Nat} (hk : ∀ b o, b ≠ L → b < N → s.heap.get? b = some o → h'.get? b = some o) : Since L N s₀ { s with heap := h', toks := tk } := by
  obtain ⟨h₁, tk₁, rfl, hk₁⟩ := x
  exact ⟨h', tk, rfl, fun b o hL hN e => hk b o hL hN (hk₁ b o hL hN e)⟩

end Mine
end
section
open PySem PySem.W PyProof.Rows PySem.Calls
namespace Mine
set_option maxRecDepth 100000
set_option maxHeartbeats 8000000
def pSt (x : Str) (i : Nat) (v : Value) : Prop := ∃ c u, x.cps[i]? = some c ∧ v = .str ⟨#[c]⟩ u
section
variable {prog : Program} {w : World} {A : Around} {elts : List PySem.Expr} {tk0 : Nat} {tpos : Pos} {body : List Stmt} {env : Env} {fs : List Frame} {e it L N : Addr} {U : List Nat} {x : Str} {St : Nat → Heap → Prop}
  {R : GenEnd}

/-- what the body does where the sign ends a unit -/
def HYield (prog : Program) (w : World) (A : Around) (elts : List PySem.Expr) (tk0 : Nat) (tpos : Pos) (body : List Stmt) (env : Env) (fs : List Frame) (e L N : Addr) (U : List Nat) (esc : Bool) : Prop :=
  ∀ (k : Nat) (s₀ s : Shared) (m : Str → Option Value) (i : Int) (tp tc : Tok) (cc : Nat), s.heap.Ns L m → m (Str.ofString "escape") = some (.bool esc) → m (Str.ofString "pos") = some (.int i tp) → m (Str.ofString "ch") = some (.str ⟨#[cc]⟩ tc) → (esc = false → cc ≠ 92) →
    (∀ (T : Addr) (u : Tok) (h' : Heap) (tk : Nat) (kap : Resume → Shared → Prop), (∀ b o, s.heap.get? b = some o → h'.get? b = some o) → h'.IsTuple T #[.int i tp, .str (if esc = true then ⟨#[92, cc]⟩ else ⟨#[cc]⟩) u] →
      (∀ s'' : Shared, s''.heap.Ns L m → (∀ h3 tk3 m3, (∀ b o, b ≠ L → s''.heap.get? b = some o → h3.get? b = some o) → h3.Ns L m3 → m3 (Str.ofString "escape") = some (.bool false) →
          Seg (model prog w) A (gR L N) (gY L N U) k s'' (.forLoop (.Tuple elts tk0 tpos) (.ref e) body [] env) ((model prog w).den (.forLoop (.Tuple elts tk0 tpos) (.ref e) body [] env)) fs { s'' with heap := h3, toks := tk3 }) → kap (.send .none) s'') →
      gY L N U k s₀ (.ref T) { s with heap := h', toks := tk } kap) →
    Seg (model prog w) A (gR L N) (gY L N U) (k + 1) s₀ (.forLoop (.Tuple elts tk0 tpos) (.ref e) body [] env) ((execs body env).wrap (forKb (.Tuple elts tk0 tpos) (.ref e) body env) (noteH env) id id) fs s
def HSkip (prog : Program) (w : World) (A : Around) (elts : List PySem.Expr) (tk0 : Nat) (tpos : Pos) (body : List Stmt) (env : Env) (fs : List Frame) (e L N : Addr) (U : List Nat) : Prop :=
  ∀ (k : Nat) (s₀ s : Shared) (m : Str → Option Value) (i : Int) (tp tc : Tok), s.heap.Ns L m → m (Str.ofString "escape") = some (.bool false) → m (Str.ofString "pos") = some (.int i tp) → m (Str.ofString "ch") = some (.str ⟨#[92]⟩ tc) →
    (∀ h3 tk3 m3, (∀ b o, b ≠ L → s.heap.get? b = some o → h3.get? b = some o) → h3.Ns L m3 → m3 (Str.ofString "escape") = some (.bool true) →
        Seg (model prog w) A (gR L N) (gY L N U) k s₀ (.forLoop (.Tuple elts tk0 tpos) (.ref e) body [] env) ((model prog w).den (.forLoop (.Tuple elts tk0 tpos) (.ref e) body [] env)) fs { s with heap := h3, toks := tk3 }) →
    Seg (model prog w) A (gR L N) (gY L N U) k s₀ (.forLoop (.Tuple elts tk0 tpos) (.ref e) body [] env) ((execs body env).wrap (forKb (.Tuple elts tk0 tpos) (.ref e) body env) (noteH env) id id) fs s
def HAssign (prog : Program) (w : World) (A : Around) (elts : List PySem.Expr) (tk0 : Nat) (tpos : Pos) (env : Env) (L : Addr) : Prop :=
  ∀ (s : Shared) (T : Addr) (i : Int) (tp tc : Tok) (cc : Nat) (b : Bool) (m : Str → Option Value) (Q : Unit → Shared → Prop), s.heap.IsTuple T #[.int i tp, .str ⟨#[cc]⟩ tc] → s.heap.Ns L m → m (Str.ofString "escape") = some (.bool b) →
    (∀ h' tk m', h'.Ns L m' → m' (Str.ofString "escape") = some (.bool b) → m' (Str.ofString "pos") = some (.int i tp) → m' (Str.ofString "ch") = some (.str ⟨#[cc]⟩ tc) → (∀ b o, b ≠ L → s.heap.get? b = some o → h'.get? b = some o) → Q () { s with heap := h', toks := tk }) →
    wpAny (model prog w) A (assign (.Tuple elts tk0 tpos) env (.ref T)) Q (fun _ _ => False) s
def HEnd (prog : Program) (w : World) (A : Around) (env : Env) (fs : List Frame) (L N : Addr) (U : List Nat) : Prop :=
  ∀ (s₀ s : Shared) (m : Str → Option Value), s.heap.Ns L m → m (Str.ofString "escape") = some (.bool false) → Since L N s₀ s → Seg (model prog w) A (gR L N) (gY L N U) 0 s₀ (.block [] env) (.pure (.done .next)) fs s

theorem flat_at (pre r : List Nat) (u : Nat) (i : Nat) (c : Nat) (hc : (utl u)[i]? = some c) (hx : x.cps.toList = (pre ++ u :: r).flatMap utl) : x.cps[(pre.flatMap utl).length + i]? = some c := by
  have : x.cps.toList[(pre.flatMap utl).length + i]? = some c := by
    rw [hx, List.flatMap_append, List.flatMap_cons, List.getElem?_append_right (Nat.le_add_right _ _), Nat.add_sub_cancel_left]
    rw [List.getElem?_append_left (by exact (List.getElem?_eq_some_iff.mp hc).1)]
    exact hc
  simpa using this
theorem flat_len (pre r : List Nat) : ((pre ++ r).flatMap utl).length = (pre.flatMap utl).length + (r.flatMap utl).length := by rw [List.flatMap_append, List.length_append]

theorem genLoop {Pt : Nat → Array Value → Prop} {StE : Nat → Heap → Prop} {Mid : Nat → Addr → Heap → Prop}
    (W : WalksT prog w (A.over (.forLoop (.Tuple elts tk0 tpos) (.ref e) body [] env) fs) e [e, it] [e, it] x.cps.size Pt StE Mid)
    (hPt : ∀ i vals, Pt i vals → ∃ (t : Tok) (c : Nat) (u : Tok), x.cps[i]? = some c ∧ vals = #[.int i t, .str ⟨#[c]⟩ u])
    (heN : N ≤ e) (hiN : N ≤ it) (heL : L ≠ e) (hiL : L ≠ it)
    (HA : HAssign prog w (A.over (.forLoop (.Tuple elts tk0 tpos) (.ref e) body [] env) fs) elts tk0 tpos env L)
    (HY0 : HYield prog w A elts tk0 tpos body env fs e L N U false) (HY1 : HYield prog w A elts tk0 tpos body env fs e L N U true)
    (HS : HSkip prog w A elts tk0 tpos body env fs e L N U) (HE : HEnd prog w A env fs L N U)
    (hxU : x.cps.toList = U.flatMap utl) :
    ∀ (r pre : List Nat) (s₀ s : Shared) (m : Str → Option Value), U = pre ++ r → StE (pre.flatMap utl).length s.heap → s.heap.Ns L m → m (Str.ofString "escape") = some (.bool false) → Since L N s₀ s →
      Seg (model prog w) A (gR L N) (gY L N U) r.length s₀ (.forLoop (.Tuple elts tk0 tpos) (.ref e) body [] env) ((model prog w).den (.forLoop (.Tuple elts tk0 tpos) (.ref e) body [] env)) fs s := by
  have hLw : L ∉ [e, it] := by simp [heL, hiL]
  -- one step of the loop: take a sign, assign, go into the body
  have step : ∀ (k p cc : Nat) (b : Bool) (s₀ s : Shared) (m : Str → Option Value), x.cps[p]? = some cc → StE p s.heap → s.heap.Ns L m → m (Str.ofString "escape") = some (.bool b) → Since L N s₀ s →
      (∀ s' m' tp tc, StE (p + 1) s'.heap → s'.heap.Ns L m' → m' (Str.ofString "escape") = some (.bool b) → m' (Str.ofString "pos") = some (.int (p : Int) tp) → m' (Str.ofString "ch") = some (.str ⟨#[cc]⟩ tc) → Since L N s₀ s' →
        Seg (model prog w) A (gR L N) (gY L N U) k s₀ (.forLoop (.Tuple elts tk0 tpos) (.ref e) body [] env) ((execs body env).wrap (forKb (.Tuple elts tk0 tpos) (.ref e) body env) (noteH env) id id) fs s') →
      Seg (model prog w) A (gR L N) (gY L N U) k s₀ (.forLoop (.Tuple elts tk0 tpos) (.ref e) body [] env) ((model prog w).den (.forLoop (.Tuple elts tk0 tpos) (.ref e) body [] env)) fs s := by
    intro k p cc b s₀ s m hcc hst hns hesc hsin hbody
    have hlt : p < x.cps.size := (Array.getElem?_eq_some_iff.mp hcc).1
    refine segForLoop (W.item p s _ _ hlt hst fun T vals h' tk hP _ hT hmid hk => ?_)
    dsimp only
    obtain ⟨t, c1, u, hc1, rfl⟩ := hPt p vals hP
    rw [hcc] at hc1
    cases hc1
    have hs1 : Since L N s₀ { s with heap := h', toks := tk } := hsin.step fun b o _ hbN e' => hk b o (by intro hm; rcases List.mem_cons.mp hm with rfl | hm; exact absurd heN (Nat.not_le.mpr hbN); rcases List.mem_cons.mp hm with rfl | hm; exact absurd hiN (Nat.not_le.mpr hbN); cases hm) e'
    refine W.go elts tk0 tpos p T _ _ _ hmid fun h2 hst2 hk2 => ?_
    have hs2 : Since L N s₀ { s with heap := h2, toks := tk } := hs1.step fun b o _ hbN e' => hk2 b o (by intro hm; rcases List.mem_cons.mp hm with rfl | hm; exact absurd heN (Nat.not_le.mpr hbN); rcases List.mem_cons.mp hm with rfl | hm; exact absurd hiN (Nat.not_le.mpr hbN); cases hm) e'
    have hT2 : h2.IsTuple T #[.int (p : Int) t, .str ⟨#[cc]⟩ u] := let ⟨o, ho, r⟩ := hT; ⟨o, hk2 T o (W.apart p T h' hmid) ho, r⟩
    have hns2 : h2.Ns L m := (hns.at' fun o e' => hk L o hLw e').at' fun o e' => hk2 L o hLw e'
    refine HA _ T (p : Int) t u cc b m _ hT2 hns2 hesc fun h3 tk3 m3 hns3 hesc3 hpos3 hch3 hk3 => ?_
    exact hbody _ m3 t u (W.frame _ _ _ hst2 fun b hb o e' => hk3 b o (fun q => hLw (q ▸ hb)) e') hns3 hesc3 hpos3 hch3 (hs2.step fun b o hbL _ e' => hk3 b o hbL e')
  intro r
  induction r with
  | nil =>
    intro pre s₀ s m hU hst hns hesc hsin
    rw [List.append_nil] at hU
    have hsz : (pre.flatMap utl).length = x.cps.size := by rw [← hU, ← hxU]; simp
    rw [hsz] at hst
    refine segForLoop (W.done s _ _ hst fun h' tk hk => ?_)
    dsimp only
    exact HE s₀ _ m (hns.at' fun o e' => hk L o hLw e') hesc (hsin.step fun b o _ hbN e' => hk b o (by intro hm; rcases List.mem_cons.mp hm with rfl | hm; exact absurd heN (Nat.not_le.mpr hbN); rcases List.mem_cons.mp hm with rfl | hm; exact absurd hiN (Nat.not_le.mpr hbN); cases hm) e')
  | cons u r ih =>
    intro pre s₀ s m hU hst hns hesc hsin
    have hget : U.getD (U.length - 1 - r.length) 0 = u := by
      rw [hU]
      have : (pre ++ u :: r).length - 1 - r.length = pre.length := by rw [List.length_append, List.length_cons]; omega
      rw [this, List.getD_eq_getElem?_getD, List.getElem?_append_right (Nat.le_refl _), Nat.sub_self]; rfl
    have hxU' : x.cps.toList = (pre ++ u :: r).flatMap utl := by rw [hxU, hU]
    have hU2 : U = (pre ++ [u]) ++ r := by rw [hU]; simp
    -- the yield: what follows once the unit stands
    have fin : ∀ (uu : Str) (p : Nat), uu = utx u → p = (pre.flatMap utl).length + (utl u).length → ∀ (s' : Shared) (m' : Str → Option Value), StE p s'.heap → Since L N s₀ s' →
        ∀ (T : Addr) (uT : Tok) (i : Int) (tp : Tok) (h' : Heap) (tk : Nat) (kap : Resume → Shared → Prop), (∀ b o, s'.heap.get? b = some o → h'.get? b = some o) → h'.IsTuple T #[.int i tp, .str uu uT] → s'.heap.Ns L m' →
        (∀ s'' : Shared, s''.heap.Ns L m' → (∀ h3 tk3 m3, (∀ b o, b ≠ L → s''.heap.get? b = some o → h3.get? b = some o) → h3.Ns L m3 → m3 (Str.ofString "escape") = some (.bool false) →
          Seg (model prog w) A (gR L N) (gY L N U) r.length s'' (.forLoop (.Tuple elts tk0 tpos) (.ref e) body [] env) ((model prog w).den (.forLoop (.Tuple elts tk0 tpos) (.ref e) body [] env)) fs { s'' with heap := h3, toks := tk3 }) → kap (.send .none) s'') →
        gY L N U r.length s₀ (.ref T) { s' with heap := h', toks := tk } kap := by
      intro uu p huu hp s' m' hst' hsin' T uT i tp h' tk kap hk hT hns' hkap
      refine ⟨⟨T, i, tp, uT, rfl, by rw [hget, ← huu]; exact hT⟩, hsin'.step fun b o _ _ e' => hk b o e', [L, e, it], ?_, fun s'' hs'' => ?_⟩
      · intro b hb
        rcases List.mem_cons.mp hb with rfl | hb
        · exact .inl rfl
        · rcases List.mem_cons.mp hb with rfl | hb
          · exact .inr heN
          · rcases List.mem_cons.mp hb with rfl | hb
            · exact .inr hiN
            · cases hb
      · have hst1 : StE p h' := W.frame _ _ _ hst' fun b _ o e' => hk b o e'
        have hst2 : StE p s''.heap := W.frame _ _ _ hst1 fun b hb o e' => hs'' b (List.mem_cons_of_mem _ hb) o e'
        refine hkap s'' ((hns'.at' fun o e' => hk L o e').at' fun o e' => hs'' L (.head _) o e') fun h3 tk3 m3 hk3 hns3 hesc3 => ?_
        have hp2 : p = ((pre ++ [u]).flatMap utl).length := by rw [hp, flat_len]; simp
        exact ih (pre ++ [u]) s'' { s'' with heap := h3, toks := tk3 } m3 hU2 (hp2 ▸ W.frame _ _ _ hst2 fun b hb o e' => hk3 b o (fun q => hLw (q ▸ hb)) e') hns3 hesc3 ((Since.refl L N s'').step fun b o hbL _ e' => hk3 b o hbL e')
    have one : ∀ cc, utl u = [cc] → cc ≠ 92 → Seg (model prog w) A (gR L N) (gY L N U) (r.length + 1) s₀ (.forLoop (.Tuple elts tk0 tpos) (.ref e) body [] env) ((model prog w).den (.forLoop (.Tuple elts tk0 tpos) (.ref e) body [] env)) fs s := by
      intro cc hu hcc
      have h0 := flat_at pre r u 0 cc (by rw [hu]; rfl) hxU'
      refine step (r.length + 1) _ cc false s₀ s m h0 hst hns hesc hsin fun s' m' tp tc hst' hns' hesc' hpos' hch' hsin' => ?_
      refine HY0 r.length s₀ s' m' _ tp tc cc hns' hesc' hpos' hch' (fun _ => hcc) fun T uT h' tk kap hk hT hkap => ?_
      exact fin _ _ (by show _ = (⟨(utl u).toArray⟩ : Str); rw [hu]; rfl) (by rw [hu]; rfl) s' m' hst' hsin' T uT _ tp h' tk kap hk hT hns' hkap
    have two : ∀ cc, utl u = [92, cc] → Seg (model prog w) A (gR L N) (gY L N U) (r.length + 1) s₀ (.forLoop (.Tuple elts tk0 tpos) (.ref e) body [] env) ((model prog w).den (.forLoop (.Tuple elts tk0 tpos) (.ref e) body [] env)) fs s := by
      intro cc hu
      have h0 := flat_at pre r u 0 92 (by rw [hu]; rfl) hxU'
      have h1 := flat_at pre r u 1 cc (by rw [hu]; rfl) hxU'
      refine step (r.length + 1) _ 92 false s₀ s m h0 hst hns hesc hsin fun s' m' tp tc hst' hns' hesc' hpos' hch' hsin' => ?_
      refine HS (r.length + 1) s₀ s' m' _ tp tc hns' hesc' hpos' hch' fun h3 tk3 m3 hk3 hns3 hesc3 => ?_
      refine step (r.length + 1) _ cc true s₀ { s' with heap := h3, toks := tk3 } m3 h1 (W.frame _ _ _ hst' fun b hb o e' => hk3 b o (fun q => hLw (q ▸ hb)) e') hns3 hesc3 (hsin'.step fun b o hbL _ e' => hk3 b o hbL e') fun s4 m4 tp4 tc4 hst4 hns4 hesc4 hpos4 hch4 hsin4 => ?_
      refine HY1 r.length s₀ s4 m4 _ tp4 tc4 cc hns4 hesc4 hpos4 hch4 (fun q => by cases q) fun T uT h' tk kap hk hT hkap => ?_
      exact fin _ _ (by show _ = (⟨(utl u).toArray⟩ : Str); rw [hu]; rfl) (by rw [hu]; rfl) s4 m4 hst4 hsin4 T uT _ tp4 h' tk kap hk hT hns4 hkap
    rw [List.length_cons]
    match u, one, two with
    | 0, one, _ => exact one 34 rfl (by decide)
    | 1, one, _ => exact one 97 rfl (by decide)
    | 2, _, two => exact two 34 rfl
    | n + 3, _, two => exact two 92 rfl
end
end Mine
end
section
open PySem PySem.W PyProof.Rows PySem.Calls
namespace Mine
set_option maxRecDepth 100000
set_option maxHeartbeats 8000000
theorem bs_eq : Str.ofString "\\" = (⟨#[92]⟩ : Str) := by decide +kernel
theorem genCall {w : World} {mean : ExcName → Option Value} {mg mb : Str → Option Value} {A : Around} {s : Shared} {base : Heap} {Q E : Value → Shared → Prop}
    (hb : ∀ b o, base.get? b = some o → s.heap.get? b = some o) (hbs : base.objs.size ≤ s.heap.objs.size) (KX : (KF w).In base) (T : TopP mean mg mb base) (hdp : A.depth < 500)
    (x : Str) (t : Tok) (U : List Nat) (hx : x.cps.toList = U.flatMap utl)
    (hQ : ∀ a L c h' tk, h'.IsGen a s.gens.size → s.heap.objs.size ≤ L → L < a → (∀ b o, s.heap.get? b = some o → h'.get? b = some o) →
      (∀ (dp un : Nat) (fr : Option (List Env)) (gd : Option (List Code)) (N : Addr) (s₁ : Shared), a < N → (∀ b o, base.get? b = some o → s₁.heap.get? b = some o) → (∀ o, h'.get? L = some o → s₁.heap.get? L = some o) → N ≤ s₁.heap.objs.size →
        Seg (model prg w) ⟨none, dp, fr, gd, un⟩ (gR L N) (gY L N U) U.length s₁ c ((model prg w).den c) [] s₁) →
      Q (.ref a) { s with heap := h', gens := s.gens.push (.fresh c), toks := tk }) :
    wpAny (model prg w) A (call (.ref 182) [.str x t]) Q E s := by
  w_on; w_top on
  dsimp only [KF, TopP, prg] at KX T ⊢ hQ
  revert KX; k_fill; intro KX
  refine wpAny_call ?_
  refine codeAny_call_generator (fd := fnOf _ _ _ _ _ _ _ _ _ _ _ _) (by unfold recursionLimit; omega) ((KX.keeps hb) 182 _ rfl) rfl rfl rfl rfl (codeRec_of (KX.keeps hb) rfl) ?_
  refine wpAny_of_eq (a := [(Str.ofString "addr", .str x t)]) rfl ?_
  refine wpAny_newFunctionEnv (by decide) (locs rfl) (fun h₁ hns hsb => ?_) rfl
  refine ⟨(T.nolimit.keeps hb).fresh _ hsb, ?_⟩
  have hLs : s.heap.objs.size < h₁.objs.size := hns.lt
  have hk₁ : ∀ b o, s.heap.get? b = some o → h₁.get? b = some o := fun b o e => hsb.extBut b o (Nat.ne_of_lt (Heap.lt_size e)) (Heap.get?_push_of_some _ e)
  refine hQ h₁.objs.size s.heap.objs.size _ _ _ ⟨_, _, _, Heap.get?_push_size _ rfl, rfl, rfl, rfl⟩ (Nat.le_refl _) hLs (fun b o e => Heap.get?_push_of_some _ (hk₁ b o e)) (fun dp un fr gd N s₁ haN hb₁ hL₁ hN => ?_)
  have hn0 := hns.at' (h' := s₁.heap) fun o e => hL₁ o (Heap.get?_push_of_some _ e)
  refine seg_func ?_
  refine segPlain (wpAny_Assign_Name (wpAny_Constant_int (wpAny_storeName_local rfl hn0 (fun h2 hn2 hs2 => ⟨rfl, ?_⟩) rfl)))
  refine segPlain (wpAny_Assign_Name (wpAny_Constant_bool (wpAny_storeName_local rfl hn2 (fun h3 hn3 hs3 => ⟨rfl, ?_⟩) rfl)))
  refine seg_execs_cons (segFor ?_ (fun _ => rfl))
  have hL0 : base.get? s.heap.objs.size = none := Heap.get?_none_of_le hbs
  replace hs2 : Heap.SameBut s.heap.objs.size s₁.heap h2 := hs2
  replace hs3 : Heap.SameBut s.heap.objs.size h2 h3 := hs3
  replace hn3 : h3.Ns s.heap.objs.size _ := hn3
  have F : Fr base s.heap.objs.size h3 _ := ⟨hn3, fun b o e => hs3.extBut b o (fun q => by rw [q, hL0] at e; cases e) (hs2.extBut b o (fun q => by rw [q, hL0] at e; cases e) (hb₁ b o e)), hbs⟩
  have NW : News base s.heap.objs.size h3 [] := News.nil
  dsimp only [KF, TopP, prg] at KX T ⊢
  (iterate 6 (first | (k_unfold; (try dsimp only)) | (k_end; wrow_close) | walk1 | (dsimp only; walk1) | (leave1; try dsimp only)))
  refine call_enumerate_str fun h4 he4 hit4 hsz4 hk4 => ?_
  dsimp only at he4 hit4 hsz4 hk4
  have hsz3 : h3.objs.size = s₁.heap.objs.size := hs3.1.trans hs2.1
  have hLt : s.heap.objs.size < h3.objs.size := hn3.lt
  have ha : x.cps.all (· < 128) = true := by
    rw [← Array.all_toList, hx, List.all_eq_true]
    intro c hc
    obtain ⟨u, _, hc⟩ := List.mem_flatMap.mp hc
    have : ∀ u : Nat, ∀ c ∈ utl u, c < 128 := by
      intro u
      match u with
      | 0 => decide
      | 1 => decide
      | 2 => decide
      | n + 3 => intro c hc; have : utl (n + 3) = [92, 92] := rfl; rw [this] at hc; simp at hc; omega
    simpa using this u c hc
  have hty : strIterType x = "str_ascii_iterator" := by unfold strIterType; rw [ha]; rfl
  rw [hty] at hit4
  refine wpAny_pyIter_enum he4 fun pF => ?_
  refine genLoop (U := U) (x := x) (W := WalksT.enumerateD (Draws.strAscii (A := Around.in1 _) rfl h3.objs.size x t) (h3.objs.size + 1) (Nat.succ_ne_self _) (by simp) (by simp)) ?_ ?_ ?_ ?_ ?_ ?_ ?_ ?_ ?_ ?_ hx U [] s₁ _ _ rfl ⟨⟨_, he4⟩, hit4⟩ (hn3.at' fun o e => hk4 _ o e) rfl ?_
  · rintro i vals ⟨t', y, ⟨c, u, hc, rfl⟩, rfl⟩
    exact ⟨t', c, u, hc, rfl⟩
  · exact Nat.le_succ_of_le (by rw [hsz3]; exact hN)
  · rw [hsz3]; exact hN
  · exact Nat.ne_of_lt (Nat.lt_succ_of_lt hLt)
  · exact Nat.ne_of_lt hLt
  · intro s T i tp tc cc b m Q hT hn hesc hQ
    refine kcp_assign rfl hT rfl rfl rfl hn fun h' tk hn' hk' => ?_
    exact hQ h' tk _ hn' hesc rfl rfl hk'
  · -- a unit of one sign
    intro k s₀ s m i tp tc cc hns hesc hpos hch hcc hcont
    refine seg_execs_cons (segIf (wpAny_isTrue_value (wpAny_Name (wpAny_loadName_local rfl rfl hns hesc (wpAny_truthy_bool ?_)))))
    rw [if_neg Bool.false_ne_true]
    refine seg_execs_cons (segIf (wpAny_isTrue_Compare1 (wpAny_Name (wpAny_loadName_local rfl rfl hns hch (wpAny_Constant_str (eq_str (wpAny_truthy_bool ?_)))))))
    have hne : ((⟨#[cc]⟩ : Str) == Str.ofString "\\") = false := by
      rw [bs_eq]
      exact beq_eq_false_iff_ne.mpr fun q => hcc rfl (by injection q with q; simpa using q)
    rw [hne, if_neg Bool.false_ne_true]
    refine seg_execs_cons (seg_Expr_Yield rfl rfl rfl ?_)
    refine wpAny_Tuple_spliced (spliced_more (wpAny_Name (wpAny_loadName_local rfl rfl hns hpos (spliced_more (wpAny_Name (wpAny_loadName_local rfl rfl hns hch (spliced_none ⟨by show 2 ≤ _; rw [sizeLine_eq]; omega, fun kap hkap => ?_⟩)))))))
    refine hcont s.heap.objs.size tc _ _ kap (fun b o e => Heap.get?_push_of_some _ e) ⟨_, Heap.get?_push_size _ rfl, rfl, _, rfl⟩ fun s'' hns'' hseg => hkap .none s'' ?_
    refine seg_execs_nil (seg_execs_nil (seg_execs_nil ?_))
    exact seg_again rfl (hseg s''.heap s''.toks m (fun _ _ _ e => e) hns'' hesc)
  · -- a unit of two signs
    intro k s₀ s m i tp tc cc hns hesc hpos hch _ hcont
    refine seg_execs_cons (segIf (wpAny_isTrue_value (wpAny_Name (wpAny_loadName_local rfl rfl hns hesc (wpAny_truthy_bool ?_)))))
    rw [if_pos rfl]
    refine seg_execs_cons (seg_Expr_Yield rfl rfl rfl ?_)
    refine wpAny_Tuple_spliced (spliced_more (wpAny_Name (wpAny_loadName_local rfl rfl hns hpos (spliced_more (wpAny_BinOp (wpAny_Constant_str (wpAny_Name (wpAny_loadName_local rfl rfl hns hch (KOpn.add (by rw [bs_eq]; show 1 + 1 ≤ 16777216; decide) ?_)))))))))
    intro t' k' _
    refine spliced_none ⟨by show 2 ≤ _; rw [sizeLine_eq]; omega, fun kap hkap => ?_⟩
    have hcat : Str.ofString "\\" ++ (⟨#[cc]⟩ : Str) = ⟨#[92, cc]⟩ := by rw [bs_eq]; rfl
    rw [hcat]
    refine hcont s.heap.objs.size t' _ _ kap (fun b o e => Heap.get?_push_of_some _ e) ⟨_, Heap.get?_push_size _ rfl, rfl, _, rfl⟩ fun s'' hns'' hseg => hkap .none s'' ?_
    refine segPlain (wpAny_Assign_Name (wpAny_Constant_bool (wpAny_storeName_local rfl hns'' (fun h5 hn5 hs5 => ⟨rfl, ?_⟩) rfl)))
    refine seg_execs_nil (seg_execs_nil ?_)
    exact seg_again rfl (hseg h5 _ _ (fun b o hb e => hs5.extBut b o hb e) hn5 rfl)
  · -- a backslash that opens a unit
    intro k s₀ s m i tp tc hns hesc hpos hch hcont
    refine seg_execs_cons (segIf (wpAny_isTrue_value (wpAny_Name (wpAny_loadName_local rfl rfl hns hesc (wpAny_truthy_bool ?_)))))
    rw [if_neg Bool.false_ne_true]
    refine seg_execs_cons (segIf (wpAny_isTrue_Compare1 (wpAny_Name (wpAny_loadName_local rfl rfl hns hch (wpAny_Constant_str (eq_str (wpAny_truthy_bool ?_)))))))
    have hne : ((⟨#[92]⟩ : Str) == Str.ofString "\\") = true := by rw [bs_eq]; rfl
    rw [hne, if_pos rfl]
    refine segPlain (wpAny_Assign_Name (wpAny_Constant_bool (wpAny_storeName_local rfl hns (fun h5 hn5 hs5 => ⟨rfl, ?_⟩) rfl)))
    refine seg_execs_nil (seg_execs_nil (seg_execs_nil ?_))
    exact seg_again rfl (hcont h5 _ _ (fun b o hb e => hs5.extBut b o hb e) hn5 rfl)
  · -- the end
    intro s₀ s m hns hesc hsin
    refine seg_leaf (.ok .next) ?_
    refine seg_execs_cons (segIf (wpAny_isTrue_value (wpAny_Name (wpAny_loadName_local rfl rfl hns hesc (wpAny_truthy_bool ?_)))))
    rw [if_neg Bool.false_ne_true]
    refine seg_execs_nil (seg_execs_nil ?_)
    exact seg_end (.ok (.ret .none)) ⟨rfl, rfl, hsin⟩
  · exact ⟨h4, _, rfl, fun b o hbL _ e => hk4 b o (hs3.extBut b o hbL (hs2.extBut b o hbL e))⟩
end Mine
end
section
open PySem PySem.W PyProof.Rows PySem.Calls
namespace Mine
set_option maxRecDepth 100000
set_option maxHeartbeats 8000000

theorem letGo_gen {prog : Program} {w : World} {A : Around} {E : Value → Shared → Prop} {s : Shared} {elts : List PySem.Expr} {k : Nat} {pos : Pos} {a T g : Nat} {Q : Unit → Shared → Prop} (hg : s.heap.IsGen a g) (h : Q () s) :
    wpAny (model prog w) A (letOwnedTupleGo (.Tuple elts k pos) (.ref a) (.ref T)) Q E s := by
  obtain ⟨o, nm, qn, ho, hc, hd, _⟩ := hg
  unfold letOwnedTupleGo
  refine wpAny_bind (wpAny_load ho ?_)
  rw [hc, hd]
  show wpAny _ A (if (["enumerate", "zip", "dict_itemiterator", "dict_reverseitemiterator", "odict_iterator", "itertools.zip_longest", "itertools.pairwise"].contains "generator" &&
      (#[.int g 0, nm, qn] : Array Value)[0]? == some (rawInt T)) = true then _ else _) Q E s
  rw [if_neg (by
    intro h
    rw [show (["enumerate", "zip", "dict_itemiterator", "dict_reverseitemiterator", "odict_iterator", "itertools.zip_longest", "itertools.pairwise"].contains "generator") = false from by decide, Bool.false_and] at h
    cases h)]
  exact wpAny_pure h

def UnitsAre (us : List Nat) (vs : List Value) : Prop := vs.length = us.length ∧ ∀ (i : Nat) u, us[i]? = some u → ∃ t, vs[i]? = some (.str (utx u) t)
theorem UnitsAre.snoc {us : List Nat} {vs : List Value} (x : UnitsAre us vs) (u : Nat) (t : Tok) : UnitsAre (us ++ [u]) (vs ++ [.str (utx u) t]) := by
  refine ⟨by simp [x.1], fun i u' hi => ?_⟩
  rcases Nat.lt_trichotomy i us.length with h | h | h
  · rw [List.getElem?_append_left h] at hi
    obtain ⟨t', ht⟩ := x.2 i u' hi
    exact ⟨t', by rw [List.getElem?_append_left (by rw [x.1]; exact h)]; exact ht⟩
  · subst h
    simp at hi
    subst hi
    exact ⟨t, by rw [← x.1]; simp⟩
  · rw [List.getElem?_eq_none (by rw [List.length_append, List.length_singleton]; omega)] at hi; cases hi

theorem setSame {α : Type} (xs : Array α) (g : Nat) (x : α) (h : xs[g]? = some x) : xs.setIfInBounds g x = xs := by
  apply Array.ext'
  rw [Array.toList_setIfInBounds]
  apply List.ext_getElem?
  intro i
  rw [List.getElem?_set]
  split
  · rename_i e
    subst e
    have h' : xs.toList[g]? = some x := by simpa using h
    split
    · exact h'.symm
    · rename_i hlt
      rw [List.getElem?_eq_none (Nat.le_of_not_lt hlt)] at h'
      cases h'
  · rfl
theorem setTwice {α : Type} (xs : Array α) (g : Nat) (x y : α) : (xs.setIfInBounds g x).setIfInBounds g y = xs.setIfInBounds g y := by
  apply Array.ext'
  simp [Array.toList_setIfInBounds, List.set_set]
theorem setGet {α : Type} (xs : Array α) (g : Nat) (x y : α) (h : xs[g]? = some y) : (xs.setIfInBounds g x)[g]? = some x := by
  have hlt : g < xs.size := (Array.getElem?_eq_some_iff.mp h).1
  simp [hlt]
theorem compTail {w : World} {mean : ExcName → Option Value} {mg mb : Str → Option Value} {dp un : Nat} {fr : Option (List Env)} {gd : Option (List Code)} {s : Shared} {base : Heap} {Q E : Value → Shared → Prop} {env : Env}
    {iter : PySem.Expr} {place unit : Str} {pu pp pq tp pos : Pos} {kk : Nat} {scope : Scope}
    (hb : ∀ b o, base.get? b = some o → s.heap.get? b = some o) (T : TopP mean mg mb base) (hdp : dp < 500)
    (hcell : ∀ y ∈ scope.names, y.2 ≠ .cell) (hkind : scope.kind = .function) (hp : scope.names.lookup place = some .local) (hu : scope.names.lookup unit = some .local) (hpu : place ≠ unit) (hdbg : (unit == ("__debug__" : Str)) = false)
    (a L : Addr) (c : Code) (g : Nat) (U : List Nat) (hU : U.length < 1000) (hga : s.heap.IsGen a g) (hg : s.gens[g]? = some (.fresh c)) (hLa : L < a) (hbL : base.get? L = none)
    (hseg : ∀ (dp un : Nat) (fr : Option (List Env)) (gd : Option (List Code)) (N : Addr) (s₁ : Shared), a < N → (∀ b o, base.get? b = some o → s₁.heap.get? b = some o) → (∀ o, s.heap.get? L = some o → s₁.heap.get? L = some o) → N ≤ s₁.heap.objs.size →
        Seg (model prg w) ⟨none, dp, fr, gd, un⟩ (gR L N) (gY L N U) U.length s₁ c ((model prg w).den c) [] s₁)
    (hQ : ∀ D ys h' tk, h'.PlainList D ys → s.heap.get? D = none → UnitsAre U ys.toList → (∀ b o, b ≠ L → s.heap.get? b = some o → h'.get? b = some o) → Q (.ref D) { s with heap := h', gens := s.gens.setIfInBounds g .finished, toks := tk }) :
    wpAny (model prg w) ⟨none, dp, fr, gd, un⟩ (pyIter (.ref a)) (fun it s₂ => wpAny (model prg w) ⟨none, dp, fr, gd, un⟩ (newList []) (fun acc s₃ =>
      wpAny (model prg w) ⟨none, dp, fr, gd, un⟩ (newFunctionEnv scope env.globals [] [] env.qual none .none (some env)) (fun cenv s₄ =>
        codeAny (model prg w) ⟨none, dp, fr, gd, un⟩ (.compStart (.ListComp (.Name unit pu) [⟨.Tuple [.Name place pp, .Name unit pq] kk tp, iter, [], 0⟩] scope pos) 0 it acc { cenv with scope := scope })
          (fun r s' => ∃ m, s'.heap.Ns cenv.locals m ∧ ∀ h', Heap.SameBut cenv.locals s'.heap h' →
            match r with | .ok _ => Q acc { s' with heap := h' } | .error x => wpAny (model prg w) ⟨none, dp, fr, gd, un⟩ (passOn "comprehension.variables-let-go" x { cenv with scope := scope }) Q E { s' with heap := h' }) s₄) E s₃) E s₂) E s := by
  refine wpAny_pyIter_gen hga ?_
  refine wpAny_newObj_type (wpAny_newFunctionEnv hcell (by intro y hy; simp at hy) (fun h₁ hns₁ hsb₁ => ?_) hkind)
  dsimp only at hns₁ hsb₁ ⊢
  generalize hH2 : s.heap.push { cls := .type "list", dict := none, data := .seq ([] : List Value).toArray } = H2 at hns₁ hsb₁ ⊢
  have hC : H2.objs.size = s.heap.objs.size + 1 := by rw [← hH2, Heap.size_push]
  have haD : a < s.heap.objs.size := by obtain ⟨o, _, _, ho, _⟩ := hga; exact Heap.lt_size ho
  have old : ∀ b o, s.heap.get? b = some o → h₁.get? b = some o := fun b o e => by
    have hlt := Heap.lt_size e
    exact hsb₁.extBut b o (Nat.ne_of_lt (by rw [hC]; exact Nat.lt_succ_of_lt hlt)) (Heap.get?_push_of_some _ (hH2 ▸ Heap.get?_push_of_some _ e))
  have hacc : h₁.PlainList s.heap.objs.size #[] := ⟨_, hsb₁.extBut _ _ (Nat.ne_of_lt (by rw [hC]; exact Nat.lt_succ_self _)) (Heap.get?_push_of_some _ (hH2 ▸ Heap.get?_push_size _ rfl))⟩
  have hkp : Env.kindOf (compEnv scope H2.objs.size env) place = some .local := hp
  have hku : Env.kindOf (compEnv scope H2.objs.size env) unit = some .local := hu
  have hcc : ((compEnv scope H2.objs.size env).scope.kind == .class || ((compEnv scope H2.objs.size env).scope.kind == .module && (compEnv scope H2.objs.size env).locals != (compEnv scope H2.objs.size env).globals)) = false := by
    show (scope.kind == .class || (scope.kind == .module && _)) = false
    rw [hkind]; rfl
  have hnoD : s.heap.get? s.heap.objs.size = none := Heap.get?_none_of_le (Nat.le_refl _)
  have hNC : s.heap.get? H2.objs.size = none := Heap.get?_none_of_le (by rw [hC]; exact Nat.le_succ _)
  have hLD : L ≠ s.heap.objs.size := Nat.ne_of_lt (Nat.lt_trans hLa haD)
  have hLC : L ≠ H2.objs.size := Nat.ne_of_lt (by rw [hC]; exact Nat.lt_succ_of_lt (Nat.lt_trans hLa haD))
  have hDC : s.heap.objs.size ≠ H2.objs.size := Nat.ne_of_lt (by rw [hC]; exact Nat.lt_succ_self _)
  have loop : ∀ s₃ : Shared, s₃ = { s with heap := h₁, toks := s.toks + ([] : List (Str × Value)).length } →
      codeAny (model prg w) ⟨none, dp, fr, gd, un⟩ (.compLoop (.ListComp (.Name unit pu) [⟨.Tuple [.Name place pp, .Name unit pq] kk tp, iter, [], 0⟩] scope pos) 0 (.ref a) (.ref s.heap.objs.size) (compEnv scope H2.objs.size env))
        (fun r s' => ∃ m, s'.heap.Ns H2.objs.size m ∧ ∀ h', Heap.SameBut H2.objs.size s'.heap h' →
            match r with | .ok _ => Q (.ref s.heap.objs.size) { s' with heap := h' } | .error x => wpAny (model prg w) ⟨none, dp, fr, gd, un⟩ (passOn "comprehension.variables-let-go" x (compEnv scope H2.objs.size env)) Q E { s' with heap := h' }) s₃ := by
    rintro s₃ rfl
    refine kcp_loop (fun k s' => ∃ (done rest : List Nat) (h : Heap) (tk : Nat) (m : Str → Option Value) (ys : Array Value) (gs : GenState) (wrs : List Addr) (hy : Heap),
      s' = { s with heap := h, toks := tk, gens := s.gens.setIfInBounds g gs } ∧ U = done ++ rest ∧ k = rest.length + 1 ∧ h.Ns H2.objs.size m ∧ h.PlainList s.heap.objs.size ys ∧ UnitsAre done ys.toList ∧ (∀ b o, b ≠ L → s.heap.get? b = some o → h.get? b = some o) ∧
      (∀ b ∈ wrs, b = L ∨ H2.objs.size + 1 ≤ b) ∧ (∀ b ∈ wrs, ∀ o, hy.get? b = some o → h.get? b = some o) ∧
      (∀ s'' : Shared, (∀ b ∈ wrs, ∀ o, hy.get? b = some o → s''.heap.get? b = some o) → (∀ b o, base.get? b = some o → s''.heap.get? b = some o) → H2.objs.size + 1 ≤ s''.heap.objs.size →
        gs.Goes (model prg w) ⟨none, dp, fr, gd, un + 1⟩ (gR L (H2.objs.size + 1)) (gY L (H2.objs.size + 1) U) rest.length (.send .none) s'')) ?_ (U.length + 1)
      ⟨[], U, h₁, s.toks + ([] : List (Str × Value)).length, _, #[], .fresh c, [L], h₁, ?_, rfl, rfl, hns₁, hacc, ⟨rfl, fun i u hi => by simp at hi⟩, fun b o _ e => old b o e, fun b hb => .inl (List.mem_singleton.mp hb), fun _ _ _ e => e, fun s'' h1 h2 h3 => ⟨rfl, ?_⟩⟩
    · rintro k s' ⟨done, rest, h, tk, m, ys, gs, wrs, hy, rfl, hUr, rfl, hns, hys, hun, hkeep, hwrs, hwk, hgo⟩
      have hbase : ∀ b o, base.get? b = some o → h.get? b = some o := fun b o e => hkeep b o (fun q => by rw [q, hbL] at e; cases e) (hb b o e)
      have hN : H2.objs.size + 1 ≤ h.objs.size := hns.lt
      have hgh : h.IsGen a g := by obtain ⟨o, nm, qn, ho, r⟩ := hga; exact ⟨o, nm, qn, hkeep a o (Nat.ne_of_gt hLa) ho, r⟩
      refine wpAny_pyNext_gen (n := rest.length) (gs := gs) (Y := gY L (H2.objs.size + 1) U) (P := fun n s₀ s₁ => n = 0 ∧ Since L (H2.objs.size + 1) s₀ s₁) rfl (T.nolimit.keeps hbase) (by unfold recursionLimit; dsimp only; omega) hgh (setGet _ _ _ _ hg)
        (hgo _ (fun b hb o e => hwk b hb o e) hbase hN) (fun v s1 gs' hv => ?_) (fun s1 hP h' hk' => ?_)
      · obtain ⟨⟨T1, p1, t1, u1, rfl, hT1⟩, hsin, wrs', hwrs', hkap⟩ := hv
        cases rest with
        | nil => exact (hkap s1 (fun _ _ _ e => e)).elim
        | cons u r =>
          obtain ⟨h2, tk2, rfl, hk2⟩ := hsin
          have hidx : U.getD (U.length - 1 - ((u :: r).length - 1)) 0 = u := by
            rw [hUr]
            have : (done ++ u :: r).length - 1 - ((u :: r).length - 1) = done.length := by rw [List.length_append, List.length_cons]; omega
            rw [this, List.getD_eq_getElem?_getD, List.getElem?_append_right (Nat.le_refl _), Nat.sub_self]; rfl
          rw [hidx] at hT1
          dsimp only at hk2 hT1 hwrs' hkap
          have hgen : ((s.gens.setIfInBounds g gs).setIfInBounds g .running).setIfInBounds g gs' = s.gens.setIfInBounds g gs' := by rw [setTwice, setTwice]
          show wpAny _ _ (letOwnedTupleGo _ (Value.ref a) (Value.ref T1)) _ _ { s with heap := h2, toks := tk2, gens := ((s.gens.setIfInBounds g gs).setIfInBounds g .running).setIfInBounds g gs' }
          rw [hgen]
          have hgh2 : h2.IsGen a g := by obtain ⟨o, nm, qn, ho, r⟩ := hgh; exact ⟨o, nm, qn, hk2 a o (Nat.ne_of_gt hLa) (by rw [hC]; exact Nat.lt_succ_of_lt (Nat.lt_succ_of_lt haD)) ho, r⟩
          refine letGo_gen hgh2 ?_
          have hn2 : h2.Ns H2.objs.size m := hns.at' fun o e => hk2 _ o hLC.symm (Nat.lt_succ_self _) e
          refine kcp_assign (env := compEnv scope H2.objs.size env) rfl hT1 hkp hku hcc hn2 fun h3 tk3 hn3 hk3 => ?_
          refine wpAny_Name (wpAny_loadName_local hkind hku hn3 (if_pos rfl) ?_) hdbg
          have hys3 : h3.PlainList s.heap.objs.size ys := (hys.at fun o e => hk2 _ o hLD.symm (by rw [hC]; exact Nat.lt_succ_of_lt (Nat.lt_succ_self _)) e).at fun o e => hk3 _ o hDC e
          have hysz : ys.size = done.length := by have := hun.1; simpa using this
          refine wpAny_list_append_plain hys3 (fun h4 hl4 hs4 => ?_) (by rw [hysz, sizeLine_eq]; have := congrArg List.length hUr; rw [List.length_append] at this; omega)
          refine ⟨r.length + 1, by simp, done ++ [u], r, h4, _, _, _, gs', wrs', h2, rfl, by rw [hUr]; simp, rfl, hn3.sameBut hs4 hDC.symm, hl4, ?_, ?_, hwrs', ?_, fun s'' q1 _ _ => hkap s'' q1⟩
          · have := hun.snoc u u1
            rw [Array.toList_push]; exact this
          · intro b o hbL e
            have e1 := hkeep b o hbL e
            have hlt := Heap.lt_size e
            have e2 := hk2 b o hbL (by rw [hC]; exact Nat.lt_succ_of_lt (Nat.lt_succ_of_lt hlt)) e1
            have e3 := hk3 b o (Nat.ne_of_lt (by show b < H2.objs.size; rw [hC]; exact Nat.lt_succ_of_lt hlt)) e2
            exact hs4.extBut b o (Nat.ne_of_lt hlt) e3
          · intro b hbw o e
            have hbC : b ≠ H2.objs.size := by
              rcases hwrs' b hbw with rfl | h
              · exact hLC
              · exact Nat.ne_of_gt h
            have hbD : b ≠ s.heap.objs.size := by
              rcases hwrs' b hbw with rfl | h
              · exact hLD
              · exact Nat.ne_of_gt (Nat.lt_trans (by rw [hC]; exact Nat.lt_succ_self _) h)
            exact hs4.extBut b o hbD (hk3 b o hbC e)
      · obtain ⟨hn0, h2, tk2, rfl, hk2⟩ := hP
        have hr : rest = [] := List.eq_nil_of_length_eq_zero hn0
        subst hr
        rw [List.append_nil] at hUr
        subst hUr
        have hk3 : ∀ b o, b ≠ L → b < H2.objs.size + 1 → h.get? b = some o → h'.get? b = some o := fun b o hbL hbN e => hk' b o (hk2 b o hbL hbN e)
        refine ⟨m, hns.at' fun o e => hk3 _ o hLC.symm (Nat.lt_succ_self _) e, fun h'' hs'' => ?_⟩
        have hgen : ((s.gens.setIfInBounds g gs).setIfInBounds g .running).setIfInBounds g .finished = s.gens.setIfInBounds g .finished := by rw [setTwice, setTwice]
        show Q (.ref s.heap.objs.size) { s with heap := h'', toks := tk2, gens := ((s.gens.setIfInBounds g gs).setIfInBounds g .running).setIfInBounds g .finished }
        rw [hgen]
        refine hQ s.heap.objs.size ys h'' tk2 ((hys.at fun o e => hk3 _ o hLD.symm (by rw [hC]; exact Nat.lt_succ_of_lt (Nat.lt_succ_self _)) e).at fun o e => hs''.extBut _ o hDC e) hnoD hun fun b o hbL e => ?_
        have hlt := Heap.lt_size e
        exact hs''.extBut b o (Nat.ne_of_lt (by rw [hC]; exact Nat.lt_succ_of_lt hlt)) (hk3 b o hbL (by rw [hC]; exact Nat.lt_succ_of_lt (Nat.lt_succ_of_lt hlt)) (hkeep b o hbL e))
    · rw [setSame _ _ _ hg]
    · exact hseg dp (un + 1) fr gd (H2.objs.size + 1) s'' (by rw [hC]; exact Nat.lt_succ_of_lt (Nat.lt_succ_of_lt haD)) h2 (fun o e => h1 L (.head _) o (old L o e)) h3
  exact codeAny_compStart_list (loop _ rfl) (wpAny_pyIter_gen (hga.keeps old) (loop _ rfl))
end Mine
end
section
open PySem PySem.W PyProof.Rows PySem.Calls
namespace Mine
set_option maxRecDepth 100000
set_option maxHeartbeats 8000000
noncomputable def lawFd (w : World) : Option FuncData := match (KF w).lookup 201 with | some ⟨_, _, .func fd, _⟩ => some fd | _ => none
noncomputable def lawBody (w : World) : List Stmt := match lawFd w with | some fd => (match fd.body with | .stmts b => b | _ => []) | none => []
noncomputable def lawScope (w : World) : Scope := match lawFd w with | some fd => fd.scope | none => default
noncomputable def lawSt (w : World) (n : Nat) : Stmt := (lawBody w).getD n default
end Mine
end
section
open PySem PySem.W PyProof.Rows PySem.Calls
namespace Mine
set_option maxRecDepth 100000
set_option maxHeartbeats 8000000
def riObj (x left : Int) : Obj := { cls := .type "range_iterator", dict := none, data := .fields #[rawInt x, rawInt left, rawInt 1], slots := #[] }
theorem News.sub {g h : Heap} {L : Addr} {news news' : List (Addr × Obj)} (N : News g L h news) (hs : ∀ p ∈ news', p ∈ news) : News g L h news' := fun p hp => N p (hs p hp)
theorem newsTail {g h : Heap} {L : Addr} {a : Addr × Obj} {news : List (Addr × Obj)} (N : News g L h (a :: news)) : News g L h news := fun p hp => N p (.tail _ hp)

def BodyEnds (base : Heap) (L : Addr) (s : Shared) (I : Addr) (ob : Obj) (P : (Str → Option Value) → List (Addr × Obj) → Prop) (f : Flow) (s₃ : Shared) : Prop :=
  f = .next ∧ ∃ h' tk' m' news', s₃ = { s with heap := h', toks := tk' } ∧ Fr base L h' m' ∧ News base L h' ((I, ob) :: news') ∧ P m' news'

theorem rangeLoop {prog : Program} {w : World} {A : Around} {E : Value → Shared → Prop} {s : Shared} {body : List Stmt} {x : Str} {px : Pos} {env : Env} {R : Result → Shared → Prop} {base : Heap} {L : Addr} {m : Str → Option Value} {news : List (Addr × Obj)} {r : Addr} {a b : Int} {t u v : Tok} {n : Nat}
    (hh : A.handled = none) (hr : IsRange s.heap r a b 1 t u v) (hsmall : Builtin.Range.small a b 1 = true) (hn : Builtin.Range.rangeSize a b 1 = (n : Int)) (F : Fr base L s.heap m) (N : News base L s.heap news)
    (Inv : Nat → (Str → Option Value) → List (Addr × Obj) → Prop) (h0 : Inv 0 m news) (hoff : ∀ i m news, Inv i m news → ∀ p ∈ news, p.1 < s.heap.objs.size)
    (turn : ∀ i h tk t m news, i < n → Inv i m news → Fr base L h m → News base L h ((s.heap.objs.size, riObj (a + (i + 1 : Nat)) ((n : Int) - (i + 1 : Nat))) :: news) → s.heap.objs.size < h.objs.size →
      wpAny (model prog w) A (assign (.Name x px) env (.int (a + (i : Nat)) t)) (fun _ s₂ => wpAny (model prog w) A (execs body env) (BodyEnds base L s s.heap.objs.size (riObj (a + (i + 1 : Nat)) ((n : Int) - (i + 1 : Nat))) (Inv (i + 1))) (fun _ _ => False) s₂) (fun _ _ => False) { s with heap := h, toks := tk })
    (done : ∀ h tk m news, Inv n m news → Fr base L h m → News base L h news → R (.ok .next) { s with heap := h, toks := tk }) :
    wpAny (model prog w) A (pyIter (.ref r)) (fun it s₂ => codeAny (model prog w) A (.forLoop (.Name x px) it body [] env) R s₂) E s := by
  refine wpAny_pyIter_range hr hsmall ?_
  have hI : base.get? s.heap.objs.size = none := next_is_new F
  have hLI : L ≠ s.heap.objs.size := Nat.ne_of_lt F.ns.lt
  refine forLoop_ok (fun k s' => ∃ (i : Nat) (h : Heap) (tk : Nat) (m : Str → Option Value) (news : List (Addr × Obj)), s' = { s with heap := h, toks := tk } ∧ k = n - i ∧ i ≤ n ∧ Inv i m news ∧ Fr base L h m ∧ News base L h ((s.heap.objs.size, riObj (a + (i : Nat)) ((n : Int) - (i : Nat))) :: news)) ?_ n ?_
  · rintro k s' ⟨i, h, tk, m, news, rfl, rfl, hi, hinv, F, N⟩
    have hit : IsRangeIter h s.heap.objs.size (a + (i : Nat)) ((n : Int) - (i : Nat)) 1 := (N _ (.head _)).1
    have hnI : ∀ p ∈ news, p.1 ∉ [s.heap.objs.size] := fun p hp => by simpa using Nat.ne_of_lt (hoff i m news hinv p hp)
    by_cases hlt : i < n
    · refine wpAny_pyNext_range_item hit (by omega) fun h' hit' hs' => ?_
      dsimp only
      refine wpAny_pure ?_
      have hk : ∀ b o, b ∉ [s.heap.objs.size] → h.get? b = some o → h'.get? b = some o := fun b o hb e => hs'.extBut b o (by simpa using hb) e
      have F2 : Fr base L h' m := frOff F hk (by simpa using hLI) (by simpa using hI)
      have N2 : News base L h' news := newsOff (newsTail N) hk hnI
      have e1 : a + ((i : Nat) : Int) + 1 = a + ((i + 1 : Nat) : Int) := by omega
      have e2 : (n : Int) - ((i : Nat) : Int) - 1 = (n : Int) - ((i + 1 : Nat) : Int) := by omega
      rw [e1, e2] at hit'
      refine wpAny_mono (turn i h' _ _ m news hlt hinv F2 (fun p hp => ?_) (Heap.lt_size hit')) (fun _ s₂ h₂ => ?_) fun _ _ x => x
      · rcases List.mem_cons.mp hp with rfl | hp
        · exact ⟨hit', hLI.symm, hI⟩
        · exact N2 p hp
      refine wpAny_mono h₂ (fun f s₃ h₃ => ?_) fun _ _ x => x
      obtain ⟨rfl, h3, tk3, m3, news3, rfl, F3, N3, hinv3⟩ := h₃
      exact ⟨n - (i + 1), by omega, i + 1, h3, tk3, m3, news3, rfl, rfl, hlt, hinv3, F3, N3⟩
    · have hin : i = n := by omega
      subst hin
      refine wpAny_pyNext_range_end hh hit (by omega) fun h' hx' => ?_
      dsimp only
      have hk : ∀ b o, b ∉ [s.heap.objs.size] → h.get? b = some o → h'.get? b = some o := fun b o hb e => hx' b o (by simpa using hb) e
      exact done h' _ m news hinv (frOff F hk (by simpa using hLI) (by simpa using hI)) (newsOff (newsTail N) hk hnI)
  · refine ⟨0, _, s.toks, m, news, rfl, rfl, Nat.zero_le _, h0, F.push _, fun p hp => ?_⟩
    rcases List.mem_cons.mp hp with rfl | hp
    · refine ⟨?_, hLI.symm, hI⟩
      show IsRangeIter _ _ _ _ _
      rw [hn]; simpa using Heap.get?_push_size _ rfl
    · exact ⟨Heap.get?_push_of_some _ (N p hp).1, (N p hp).2⟩

def liObj? (ob : Obj) (l : Addr) (j : Nat) : Prop := ob.cls = .type "list_iterator" ∧ ob.data = .fields #[.ref l, .int j 0]
theorem listLoop {prog : Program} {w : World} {A : Around} {E : Value → Shared → Prop} {s : Shared} {body : List Stmt} {x : Str} {px : Pos} {env : Env} {R : Result → Shared → Prop} {base : Heap} {L : Addr} {m : Str → Option Value} {news : List (Addr × Obj)} {l : Addr} {xs : Array Value} {k0 : Nat}
    (hh : A.handled = none) (F : Fr base L s.heap m) (N : News base L s.heap news)
    (Inv : Nat → (Str → Option Value) → List (Addr × Obj) → Prop) (h0 : Inv 0 m news) (hoff : ∀ i m news, Inv i m news → ∀ p ∈ news, p.1 < s.heap.objs.size) (hl : ∀ i m news, Inv i m news → (l, listOf xs k0) ∈ news)
    (turn : ∀ i v h tk m news ob, xs[i]? = some v → Inv i m news → Fr base L h m → News base L h ((s.heap.objs.size, ob) :: news) → s.heap.objs.size < h.objs.size →
      wpAny (model prog w) A (assign (.Name x px) env v) (fun _ s₂ => wpAny (model prog w) A (execs body env) (BodyEnds base L s s.heap.objs.size ob (Inv (i + 1))) (fun _ _ => False) s₂) (fun _ _ => False) { s with heap := h, toks := tk })
    (done : ∀ h tk m news, Inv xs.size m news → Fr base L h m → News base L h news → R (.ok .next) { s with heap := h, toks := tk }) :
    wpAny (model prog w) A (pyIter (.ref l)) (fun it s₂ => codeAny (model prog w) A (.forLoop (.Name x px) it body [] env) R s₂) E s := by
  refine wpAny_pyIter_list (l := l) ⟨_, N.get (hl 0 m news h0), rfl, _, rfl⟩ ?_
  have hI : base.get? s.heap.objs.size = none := next_is_new F
  have hLI : L ≠ s.heap.objs.size := Nat.ne_of_lt F.ns.lt
  refine forLoop_ok (fun k s' => ∃ (i : Nat) (h : Heap) (tk : Nat) (m : Str → Option Value) (news : List (Addr × Obj)), s' = { s with heap := h, toks := tk } ∧ k = xs.size - i ∧ i ≤ xs.size ∧ Inv i m news ∧ Fr base L h m ∧ News base L h news ∧ h.IsListIter s.heap.objs.size l i) ?_ xs.size ?_
  · rintro k s' ⟨i, h, tk, m, news, rfl, rfl, hi, hinv, F, N, hit⟩
    have hls : h.IsList l xs := ⟨_, N.get (hl i m news hinv), rfl, _, rfl⟩
    have hnI : ∀ p ∈ news, p.1 ∉ [s.heap.objs.size] := fun p hp => by simpa using Nat.ne_of_lt (hoff i m news hinv p hp)
    by_cases hlt : i < xs.size
    · refine wpAny_pyNext_list_item hit hls (x := xs[i]) (by simp [hlt]) fun h' hit' hs' => ?_
      dsimp only
      refine wpAny_pure ?_
      have hk : ∀ b o, b ∉ [s.heap.objs.size] → h.get? b = some o → h'.get? b = some o := fun b o hb e => hs'.extBut b o (by simpa using hb) e
      have F2 : Fr base L h' m := frOff F hk (by simpa using hLI) (by simpa using hI)
      have N2 : News base L h' news := newsOff N hk hnI
      obtain ⟨ob, hoc, hod, N3⟩ := iterNews N2 hit' hLI.symm hI
      refine wpAny_mono (turn i xs[i] h' _ m news ob (by simp [hlt]) hinv F2 N3 (Heap.lt_size (N3.get (.head _)))) (fun _ s₂ h₂ => ?_) fun _ _ x => x
      refine wpAny_mono h₂ (fun f s₃ h₃ => ?_) fun _ _ x => x
      obtain ⟨rfl, h3, tk3, m3, news3, rfl, F3, N3, hinv3⟩ := h₃
      exact ⟨xs.size - (i + 1), by omega, i + 1, h3, tk3, m3, news3, rfl, rfl, hlt, hinv3, F3, newsTail N3, ⟨ob, N3.get (.head _), hoc, hod⟩⟩
    · have hin : i = xs.size := by omega
      subst hin
      refine wpAny_pyNext_list_end hh hit hls (by simp) fun h' hx' => ?_
      dsimp only
      have hk : ∀ b o, b ∉ [s.heap.objs.size] → h.get? b = some o → h'.get? b = some o := fun b o hb e => hx' b o (by simpa using hb) e
      exact done h' _ m news hinv (frOff F hk (by simpa using hLI) (by simpa using hI)) (newsOff N hk hnI)
  · refine ⟨0, _, _, m, news, rfl, rfl, Nat.zero_le _, h0, F.push _, fun p hp => ⟨Heap.get?_push_of_some _ (N p hp).1, (N p hp).2⟩, ⟨_, Heap.get?_push_size _ rfl, rfl, rfl⟩⟩
end Mine
end
section
open PySem PySem.W PyProof.Rows PySem.Calls
namespace Mine
set_option maxRecDepth 100000
set_option maxHeartbeats 8000000
noncomputable abbrev lawEnv (w : World) (L fa : Addr) (cd : Value) : Env := envOfC (Str.ofString "law") (lawScope w) L fa cd
abbrev cellsL (L : Addr) (oa oi oj oc ov opw opr orw osc : Obj) : List (Addr × Obj) :=
  [(L + 1 + 1 + 1 + 1 + 1 + 1 + 1 + 1 + 1, oa), (L + 1 + 1 + 1 + 1 + 1 + 1 + 1 + 1, oi), (L + 1 + 1 + 1 + 1 + 1 + 1 + 1, oj), (L + 1 + 1 + 1 + 1 + 1 + 1, oc), (L + 1 + 1 + 1 + 1 + 1, ov), (L + 1 + 1 + 1 + 1, opw), (L + 1 + 1 + 1, opr), (L + 1 + 1, orw), (L + 1, osc)]
def pwN (r P k : Nat) : Nat := r ^ k % P
def pws (r P n : Nat) : List Int := (List.range (n + 1)).map fun k => ((pwN r P k : Nat) : Int)
theorem pws_succ (r P n : Nat) : pws r P (n + 1) = pws r P n ++ [((pwN r P (n + 1) : Nat) : Int)] := by simp [pws, List.range_succ]
theorem pws_len (r P n : Nat) : (pws r P n).length = n + 1 := by simp [pws]
theorem pwN_succ (r P k : Nat) : Int.fmod (((pwN r P k : Nat) : Int) * (r : Int)) (P : Int) = ((pwN r P (k + 1) : Nat) : Int) := by
  rw [← Int.natCast_mul, Int.fmod_eq_emod_of_nonneg _ (Int.natCast_nonneg _), ← Int.natCast_emod]
  congr 1
  unfold pwN
  rw [Nat.pow_succ, Nat.mod_mul_mod]

theorem item_lastK {prog : Program} {w : World} {A : Around} {E : Value → Shared → Prop} {s : Shared} {value slice : PySem.Expr} {l : Addr} {vs : List Value} {ns : List Int} {u : Tok} {Q : Value → Shared → Prop} (hl : s.heap.IsList l vs.toArray) (hi : IntsAre vs ns)
    (n : Int) (hn : ns.getLast? = some n) (h : ∀ t, Q (.int n t) s)
    (hs : subscripted slice false (.ref l) (.int (-1) u) = operate [.ref l, .int (-1) u] (getItem (.ref l) (.int (-1) u)) := by with_unfolding_all rfl) :
    wpAny (model prog w) A (subscriptTail value slice (.ref l) (.int (-1) u)) Q E s := by
  have hlen : vs.length = ns.length := hi.length
  have hpos : 0 < ns.length := by cases ns with | nil => cases hn | cons _ _ => exact Nat.zero_lt_succ _
  rw [List.getLast?_eq_getElem?] at hn
  obtain ⟨t, hx⟩ := hi.get (ns.length - 1) n hn
  refine tail_any hl.typeIs slot_list_getitem.lookup (wpAny_getItem_list_neg hl (by decide) (by rw [List.size_toArray]; omega) (by decide) (x := .int n t) ?_ (h t)) hs
  rw [List.size_toArray, show ((-1 : Int) + (vs.length : Int)).toNat = ns.length - 1 by omega]
  simpa using hx
theorem pws_last (r P n : Nat) : (pws r P n).getLast? = some ((pwN r P n : Nat) : Int) := by simp [pws, List.range_succ]

theorem seeEq {m : Str → Option Value} {x : Str} {v : Value} (e : m x = some v) (y : Str) : (if y = x then some v else m y) = m y := by
  by_cases hy : y = x
  · rw [if_pos hy, hy, e]
  · rw [if_neg hy]
theorem see2 {m : Str → Option Value} {x x' : Str} {v v' : Value} (e : m x = some v) (e' : m x' = some v') (y : Str) : (if y = x' then some v' else if y = x then some v else m y) = m y := by
  rw [seeEq e y, seeEq e' y]
theorem stPow {w : World} {mean : ExcName → Option Value} {mg mb : Str → Option Value} {dp un : Nat} {fr : Option (List Env)} {gd : Option (List Code)} {s : Shared} {base : Heap} {Q : Flow → Shared → Prop} {L fa : Addr} {cd : Value} {m : Str → Option Value}
    (KX : (KF w).In base) (T : TopP mean mg mb base) (hdp : dp < 420) (hun : un < 20) {oa oi oj oc ov opw opr orw osc orow : Obj} {lp lrow : Addr} {t1 tm tr tp : Tok} {M P r : Nat}
    (F : Fr base L s.heap m) (N : News base L s.heap ((lp, listOf #[.int 1 t1] 0) :: (lrow, orow) :: cellsL L oa oi oj oc ov opw opr orw osc))
    (hm1 : m (Str.ofString "many") = some (.int (M : Int) tm)) (hm2 : m (Str.ofString "root") = some (.int (r : Int) tr)) (hc1 : opr.data = .cell (some (.int (P : Int) tp))) (hc2 : opw.data = .cell (some (.ref lp)))
    (hP : 1 < P) (hP2 : P < 20) (hr : r < 20) (hM : M < 20) (d1 : @LT.lt Nat _ (L + 9) lrow) (d2 : @LT.lt Nat _ lrow lp)
    (hQ : ∀ h tk m' us n', Fr base L h m' → News base L h ((lp, listOf (List.toArray us) n') :: (lrow, orow) :: cellsL L oa oi oj oc ov opw opr orw osc) → IntsAre us (pws r P (2 * M)) → (∀ y, y ≠ Str.ofString "k" → m' y = m y) → Q .next { s with heap := h, toks := tk }) :
    wpAny (model prg w) ⟨none, dp, fr, gd, un⟩ (exec (lawSt w 6) (lawEnv w L fa cd)) Q (fun _ _ => False) s := by
  w_on; w_top on
  conv in lawSt w 6 => whnf
  unfold lawEnv
  conv in lawScope w => whnf
  dsimp only [KF, TopP, prg] at KX T ⊢ hQ
  revert KX; k_fill; intro KX
  have F0 := F
  replace F := seeF F hm1
  replace F := seeF (x := Str.ofString "root") F hm2
  clear F0
  refine wpAny_For ?_
  (iterate 10 (first | (k_unfold; (try dsimp only)) | (k_end; wrow_close) | walk1 | (dsimp only; walk1) | (leave1; try dsimp only)))
  (with_reducible rename Fr _ _ _ _ => F1); (with_reducible rename News _ _ _ _ => N1); (with_reducible rename IsRange _ _ _ _ _ _ _ _ => R1)
  dsimp only at R1 F1 N1 ⊢
  have a1 : @LT.lt Nat _ lp _ := Heap.lt_size (N1.get (.head _))
  rename_i h1 _ _ _ _ _
  have b1 : @LT.lt Nat _ L h1.objs.size := F1.ns.lt
  have i0 : IntsAre [.int 1 t1] (pws r P 0) := by
    show IntsAre _ [((1 % P : Nat) : Int)]
    rw [Nat.mod_eq_of_lt hP]
    exact .cons _ _ .nil
  have a2 : @LT.lt Nat _ (L + 9) h1.objs.size := Nat.lt_trans (Nat.lt_trans d1 d2) a1
  refine rangeLoop (n := 2 * M) rfl R1 (small_one (by omega) (by omega) (by omega) (by omega)) (by rw [rangeSize_nat]; omega) F1 N1
    (fun i m' news => (∃ us n', news = (lp, listOf (List.toArray us) n') :: (lrow, orow) :: cellsL L oa oi oj oc ov opw opr orw osc ∧ IntsAre us (pws r P i)) ∧ ∀ y, y ≠ Str.ofString "k" → m' y = m y) ⟨⟨[.int 1 t1], 0, rfl, i0⟩, fun y hy => see2 hm1 hm2 y⟩ ?_ ?_ ?_
  · rintro i m news ⟨⟨us, n', rfl, _⟩, _⟩ p hp
    simp only [List.mem_cons, List.not_mem_nil, or_false] at hp
    rcases hp with rfl | rfl | rfl | rfl | rfl | rfl | rfl | rfl | rfl | rfl | rfl
    · exact a1
    · exact Nat.lt_trans d2 a1
    all_goals (refine ltN ?_; dsimp only; omega)
  · rintro i h tk t m1 news hi ⟨⟨us, n', rfl, hus⟩, hm⟩ F2 N2 hsz
    clear F1 N1 R1
    replace F2 := seeF (x := Str.ofString "root") F2 ((hm _ (by decide)).trans hm2)
    dsimp only at N2 hsz ⊢
    generalize h1.objs.size = I at *
    (iterate 17 (first | (k_unfold; (try dsimp only)) | (k_end; wrow_close) | walk1 | (dsimp only; walk1) | (leave1; try dsimp only)))
    (with_reducible rename Fr _ _ _ _ => F3); (with_reducible rename News _ _ _ _ => N3)
    refine item_lastK ⟨_, N3.get (.tail _ (.head _)), rfl, _, rfl⟩ hus _ (pws_last r P i) fun t9 => ?_
    (iterate 5 (first | (k_unfold; (try dsimp only)) | (k_end; wrow_close) | walk1 | (dsimp only; walk1) | (leave1; try dsimp only)))
    have hlen : us.length = i + 1 := by rw [hus.length, pws_len]
    rw [pwN_succ]
    k_dflt (refine' append_K ?k1 ?k2 ?k3 ?_ ?z)
    case k1 => k_asm
    case k2 => k_asm
    case k3 => k_upd
    case z => (rw [List.size_toArray, hlen, sizeLine_eq]; omega)
    intro h' F' N'
    rw [List.push_toArray] at N'
    have hap : ∀ t, IntsAre (us ++ [.int ((pwN r P (i + 1) : Nat) : Int) t]) (pws r P (i + 1)) := fun t => by rw [pws_succ]; exact hus.append (.cons _ _ .nil)
    refine wpAny_execs_nil ⟨rfl, h', _, _, _, rfl, F', N', ⟨_, _, rfl, hap _⟩, fun y hy => ?_⟩
    dsimp only
    rw [if_neg hy]
    exact (seeEq ((hm _ (by decide)).trans hm2) y).trans (hm y hy)
  · rintro h tk m' news ⟨⟨us, n', rfl, hus⟩, hm⟩ F2 N2
    exact hQ h tk m' us n' F2 N2 hus hm
end Mine
end
section
open PySem PySem.W PyProof.Rows PySem.Calls
namespace Mine
set_option maxRecDepth 100000
set_option maxHeartbeats 8000000

def pls (r P st M : Nat) : List Int := (List.range M).map fun k => ((pwN r P (st + k) : Nat) : Int)
theorem pls_eq {r P st M : Nat} (h : st < M) : List.take (min ((st : Int) + (M : Int)).toNat (pws r P (2 * M)).length - ((st : Int)).toNat) (List.drop ((st : Int)).toNat (pws r P (2 * M))) = pls r P st M := by
  have e1 : ((st : Int) + (M : Int)).toNat = st + M := by omega
  have e2 : ((st : Int)).toNat = st := by omega
  rw [e1, e2, pws_len, show min (st + M) (2 * M + 1) - st = M by omega]
  apply List.ext_getElem
  · simp [pls, pws]; omega
  · intro i h1 h2
    simp [pls, pws]
theorem stMid {w : World} {mean : ExcName → Option Value} {mg mb : Str → Option Value} {dp un : Nat} {fr : Option (List Env)} {gd : Option (List Code)} {s : Shared} {base : Heap} {Q : Flow → Shared → Prop} {L fa : Addr} {cd : Value} {m : Str → Option Value}
    (KX : (KF w).In base) (T : TopP mean mg mb base) (hdp : dp < 420) (hun : un < 20) {oa oi oj oc ov opw opr orw osc orow : Obj} {lp lrow lsc : Addr} {us scs : List Value} {ns : List Int} {n0 : Nat} {tm : Tok} {M P r : Nat} {more : List Stmt}
    (F : Fr base L s.heap m) (N : News base L s.heap ((lp, listOf (List.toArray us) n0) :: (lrow, orow) :: cellsL L oa oi oj oc ov opw opr orw osc))
    (hm1 : m (Str.ofString "many") = some (.int (M : Int) tm)) (hc2 : opw.data = .cell (some (.ref lp))) (hc3 : osc.data = .cell (some (.ref lsc)))
    (hus : IntsAre us (pws r P (2 * M))) (hsc : base.IsList lsc scs.toArray) (hscs : IntsAre scs ns) (hlen : ns.length < 64)
    (hM : 1 < M) (hM2 : M < 20) (d1 : @LT.lt Nat _ (L + 9) lrow) (d2 : @LT.lt Nat _ lrow lp)
    (hQ : ∀ h tk m' lpl ps st, Fr base L h m' → News base L h ((lpl, listOf (List.toArray ps) 0) :: (lp, listOf (List.toArray us) n0) :: (lrow, orow) :: cellsL L oa oi oj oc ov opw opr orw osc) → IntsAre ps (pls r P st M) →
      Int.fmod ((List.take 2 ns).sum + 2) (M : Int) = (st : Int) → st < M → (∀ y, y ≠ Str.ofString "start" → y ≠ Str.ofString "plain" → m' y = m y) → m' (Str.ofString "plain") = some (.ref lpl) → @LT.lt Nat _ lp lpl → wpAny (model prg w) ⟨none, dp, fr, gd, un⟩ (execs more (lawEnv w L fa cd)) Q (fun _ _ => False) { s with heap := h, toks := tk }) :
    wpAny (model prg w) ⟨none, dp, fr, gd, un⟩ (execs (lawSt w 7 :: lawSt w 8 :: more) (lawEnv w L fa cd)) Q (fun _ _ => False) s := by
  w_on; w_top on
  conv in lawSt w 7 => whnf
  conv in lawSt w 8 => whnf
  unfold lawEnv
  conv in lawScope w => whnf
  dsimp only [KF, TopP, prg] at KX T ⊢
  revert KX; k_fill; intro KX
  replace F := seeF F hm1
  (iterate 23 (first | (k_unfold; (try dsimp only)) | (k_end; wrow_close) | walk1 | (dsimp only; walk1) | (leave1; try dsimp only)))
  (with_reducible rename Fr _ _ _ _ => F1); (with_reducible rename News _ _ _ _ => N1)
  obtain ⟨st, hst, hst2⟩ : ∃ st : Nat, Int.fmod ((List.take 2 ns).sum + 2) (M : Int) = (st : Int) ∧ st < M := by
    have h1 := Int.fmod_nonneg_of_pos ((List.take 2 ns).sum + 2) (show (0 : Int) < (M : Int) by omega)
    have h2 := Int.fmod_lt_of_pos ((List.take 2 ns).sum + 2) (show (0 : Int) < (M : Int) by omega)
    exact ⟨_, (Int.toNat_of_nonneg h1).symm, by omega⟩
  rw [hst] at F1
  have hpl : (pws r P (2 * M)).length = 2 * M + 1 := pws_len ..
  have hul : us.length = 2 * M + 1 := hus.length.trans hpl
  generalize hpp : pws r P (2 * M) = pp at *
  (iterate 15 (first | (k_unfold; (try dsimp only)) | (k_end; wrow_close) | walk1 | (dsimp only; walk1) | (leave1; try dsimp only)))
  (with_reducible rename Fr _ _ _ _ => F3); (with_reducible rename News _ _ _ _ => N3); (with_reducible rename IntsAre _ (List.take _ (List.drop _ pp)) => I3); (with_reducible rename (_ ∧ _) => l1)
  have l2 := l1.2.1
  have N4 := News.sub (news' := _ :: (lp, listOf (List.toArray us) n0) :: (lrow, orow) :: cellsL L oa oi oj oc ov opw opr orw osc) N3 (List.forall_mem_cons.mpr ⟨.head _, fun p hp => .tail _ (.tail _ hp)⟩)
  refine hQ _ _ _ _ _ st F3 N4 (by rw [← hpp, pls_eq (by omega)] at I3; exact I3) hst hst2 (fun y h1 h2 => ?_) ((if_pos rfl).trans rfl) l2
  dsimp only
  rw [if_neg h2, if_neg h1]
  exact seeEq hm1 y
end Mine
end
section
open PySem PySem.W PyProof.Rows PySem.Calls
namespace Mine
set_option maxRecDepth 100000
set_option maxHeartbeats 8000000
section
variable {prog : Program} {w : World} {A : Around} {h₀ : Heap} {L : Addr} {m : Str → Option Value} {env : Env} {s : Shared}
theorem ceMono {I C D : Addr} {s₁ : Shared} {oI oC oD : Obj} {S : List (Addr × Obj) → Prop} {r r' : Value → List (Addr × Obj) → Prop} {y : Value} {s₂ : Shared} (hr : ∀ n, r y n → r' y n) (x : LCg.CompEnd h₀ L m s₁ I oI C oC D oD S r y s₂) :
    LCg.CompEnd h₀ L m s₁ I oI C oC D oD S r' y s₂ := by
  obtain ⟨h', tk, news', e, F, N, off, hS, hh⟩ := x
  exact ⟨h', tk, news', e, F, N, off, hS, hr _ hh⟩
theorem compInd {elt : PySem.Expr} {x : Str} {scope : Scope} {cl : List (Str × Addr)} {S : List (Addr × Obj) → Prop} {P : Nat → Value → Prop} {Fin : List Value → List (Addr × Obj) → Prop} {news : List (Addr × Obj)} {n : Nat} (G : Nat → List Value → Prop) (h0 : G 0 [])
    (turn : ∀ i ys, i < n → G i ys → ∀ v I oI C oC D m₂ h tk, P i v → LCg.NsObj oC m₂ → m₂ x = some v → Fr h₀ L h m → News h₀ L h ((I, oI) :: (C, oC) :: (D, LCg.lst ys) :: news) → LCg.Off3 I C D news → ((@Ne Nat I C) ∧ (@Ne Nat I D) ∧ (@Ne Nat C D)) →
      wpAny (model prog w) A (eval elt (compEnvC scope cl C env)) (LCg.CompEnd h₀ L m { s with heap := h, toks := tk } I oI C oC D (LCg.lst ys) S (fun y news' => news' = news ∧ G (i + 1) (ys ++ [y]))) (fun _ _ => False) { s with heap := h, toks := tk })
    (fin : ∀ ys, G n ys → Fin ys news) : LCg.CompRest prog w A h₀ L m env elt x scope cl s S P Fin n 0 [] news := by
  have H : ∀ k i ys, i + k = n → G i ys → LCg.CompRest prog w A h₀ L m env elt x scope cl s S P Fin k i ys news := by
    intro k
    induction k with
    | zero =>
      intro i ys hi hG
      have : i = n := by omega
      subst this
      exact LCg.CompRest.zero (fin ys hG)
    | succ k ih =>
      intro i ys hi hG
      refine LCg.CompRest.succ fun v I oI C oC D m₂ h tk E' hP hns hx F N off hne => ?_
      refine wpAny_mono (turn i ys (by omega) hG v I oI C oC D m₂ h tk hP hns hx F N off hne) (fun y s₂ h₂ => ceMono (fun n' hn' => ?_) h₂) fun _ _ e => e.elim
      obtain ⟨rfl, hG'⟩ := hn'
      exact ih (i + 1) (ys ++ [y]) (by omega) hG'
  exact H n 0 [] (by omega) h0
end
end Mine
end
section
open PySem PySem.W PyProof.Rows PySem.Calls
namespace Mine
set_option maxRecDepth 100000
set_option maxHeartbeats 8000000

def rowL : List Int := [1, 5, 16, 49, 148, 445, 1336, 4009, 12028, 36085]
def drI (ns : List Int) (k : Nat) : Int := Int.fmod (rowL.getD k 0 + (List.take 1 (List.drop k ns)).sum) 177147
theorem drEq {ns : List Int} (hlen : ns.length < 64) {i : Nat} : Int.fmod ([1, 5, 16, 49, 148, 445, 1336, 4009, 12028, 36085].getD (0 + (i : Int)).toNat 0 + (List.take (min (0 + (i : Int) + 1).toNat ns.length - (0 + (i : Int)).toNat) (List.drop (0 + (i : Int)).toNat ns)).sum) (3 ^ Int.toNat 11) = drI ns i := by
  have e1 : (0 + (i : Int)).toNat = i := by omega
  have e2 : (0 + (i : Int) + 1).toNat = i + 1 := by omega
  rw [e1, e2]
  unfold drI rowL
  have e3 : (List.take (min (i + 1) ns.length - i) (List.drop i ns)) = List.take 1 (List.drop i ns) := by
    by_cases h : i < ns.length
    · rw [show min (i + 1) ns.length - i = 1 by omega]
    · rw [List.drop_eq_nil_of_le (by omega)]; simp
  rw [e3]; rfl
theorem stDraw {w : World} {mean : ExcName → Option Value} {mg mb : Str → Option Value} {dp un : Nat} {fr : Option (List Env)} {gd : Option (List Code)} {s : Shared} {base : Heap} {Q : Flow → Shared → Prop} {L fa : Addr} {cd : Value} {m : Str → Option Value}
    (KX : (KF w).In base) (T : TopP mean mg mb base) (hdp : dp < 420) (hun : un < 20) {oa oi oj oc ov opw opr orw osc : Obj} {lp lrow lpl lsc : Addr} {us ps rs scs : List Value} {ns : List Int} {n0 nr : Nat} {tm : Tok} {M : Nat}
    (F : Fr base L s.heap m) (N : News base L s.heap ((lpl, listOf (List.toArray ps) 0) :: (lp, listOf (List.toArray us) n0) :: (lrow, listOf (List.toArray rs) nr) :: cellsL L oa oi oj oc ov opw opr orw osc))
    (hm1 : m (Str.ofString "many") = some (.int (M : Int) tm)) (hc2 : orw.data = .cell (some (.ref lrow))) (hc3 : osc.data = .cell (some (.ref lsc)))
    (hrs : IntsAre rs [1, 5, 16, 49, 148, 445, 1336, 4009, 12028, 36085]) (hsc : base.IsList lsc scs.toArray) (hscs : IntsAre scs ns) (hlen : ns.length < 64)
    (hM : 1 < M) (hM2 : M < 11) (d1 : @LT.lt Nat _ (L + 9) lrow) (d2 : @LT.lt Nat _ lrow lp) (d3 : @LT.lt Nat _ lp lpl)
    (hQ : ∀ h tk m' D ys, Fr base L h m' → News base L h ((D, listOf (List.toArray ys) ys.length) :: (lpl, listOf (List.toArray ps) 0) :: (lp, listOf (List.toArray us) n0) :: (lrow, listOf (List.toArray rs) nr) :: cellsL L oa oi oj oc ov opw opr orw osc) → IntsAre ys ((List.range M).map (drI ns)) →
      m' (Str.ofString "draws") = some (.ref D) → (∀ y, y ≠ Str.ofString "draws" → m' y = m y) → LCg.Off1 D ((lpl, listOf (List.toArray ps) 0) :: (lp, listOf (List.toArray us) n0) :: (lrow, listOf (List.toArray rs) nr) :: cellsL L oa oi oj oc ov opw opr orw osc) → Q .next { s with heap := h, toks := tk }) :
    wpAny (model prg w) ⟨none, dp, fr, gd, un⟩ (exec (lawSt w 9) (lawEnv w L fa cd)) Q (fun _ _ => False) s := by
  w_on; w_top on
  conv in lawSt w 9 => whnf
  unfold lawEnv
  conv in lawScope w => whnf
  dsimp only [KF, TopP, prg] at KX T ⊢
  revert KX; k_fill; intro KX
  replace F := seeF F hm1
  refine LCg.Assign_ListComp_U (F₀ := F) rfl (by with_unfolding_all rfl) (by with_unfolding_all rfl) (by decide) (by rfl) (by decide) (by rfl) (by rfl) (by rfl) ?_
  (iterate 7 (first | (k_unfold; (try dsimp only)) | (k_end; wrow_close) | walk1 | (dsimp only; walk1) | (leave1; try dsimp only)))
  (with_reducible rename Fr _ _ _ _ => F1); (with_reducible rename News _ _ _ _ => N1); (with_reducible rename IsRange _ _ _ _ _ _ _ _ => R1)
  have hul : rs.length = 10 := hrs.length
  refine LCg.CompSrc.range (n := M) rfl F1 N1 R1 (small_one (by omega) (by omega) (by omega) (by omega)) (by rw [rangeSize_nat]; omega) (by rw [sizeLine_eq]; omega) fun g => ?_
  refine compInd (fun i ys => IntsAre ys ((List.range i).map (drI ns))) .nil ?_ ?_
  · rintro i ys hi hG v I oI C oC D m2 h tk ⟨t, rfl⟩ hns hx F2 N2 off hne
    dsimp only at F2 N2 ⊢
    clear F1 N1 R1
    (iterate 30 (first | (k_unfold; (try dsimp only)) | (k_end; wrow_close) | walk1 | (dsimp only; walk1) | (leave1; try dsimp only)))
    (with_reducible rename Fr _ _ _ _ => F3); (with_reducible rename News _ _ _ _ => N3)
    refine LCg.CompEnd.intro F3 N3 _ (fun p hp => .tail _ hp) off trivial ⟨rfl, ?_⟩
    rw [drEq hlen, List.range_succ, List.map_append]
    exact hG.append (.cons _ _ .nil)
  · intro ys hG D h tk F3 N3 off
    refine hQ h tk _ D ys F3 N3 hG (if_pos rfl) (fun y hy => ?_) off
    dsimp only
    rw [if_neg hy]; exact seeEq hm1 y
end Mine
end
section
open PySem PySem.W PyProof.Rows PySem.Calls
namespace Mine
set_option maxRecDepth 100000
set_option maxHeartbeats 8000000
/-- the row loop's body, its k-th statement -/
noncomputable def rowSt (w : World) (k : Nat) : Stmt := match lawSt w 11 with | .For _ _ b _ _ => b.getD k default | _ => default
def unit1 (v col k : Nat) : Nat := if k = col then 0 else 1 + v / 3 ^ k % 3
def units (P v col : Nat) : List Nat := (List.range P).map (unit1 v col)

theorem pow3 (i : Nat) : (3 : Int) ^ (0 + (i : Int)).toNat = ((3 ^ i : Nat) : Int) := by
  rw [show (0 + (i : Int)).toNat = i by omega, Int.natCast_pow]; rfl
theorem pow3ne (i : Nat) : ((3 ^ i : Nat) : Int) ≠ 0 := by
  have : 0 < 3 ^ i := Nat.pow_pos (by decide)
  omega
theorem pow3log (i : Nat) (h : i < 12) : (((3 ^ i : Nat) : Int)).natAbs.log2 < 9000 := by
  rw [Int.natAbs_natCast]
  have h0 : 0 < 3 ^ i := Nat.pow_pos (by decide)
  have h1 : 3 ^ i ≤ 3 ^ 12 := Nat.pow_le_pow_right (by decide) (by omega)
  have h2 : 3 ^ i < 2 ^ 20 := Nat.lt_of_le_of_lt h1 (by decide)
  exact Nat.lt_of_lt_of_le ((Nat.log2_lt (Nat.ne_of_gt h0)).mpr h2) (by decide)
theorem ix3 (v i : Nat) : Int.fmod (Int.fdiv (v : Int) ((3 ^ i : Nat) : Int)) 3 = ((v / 3 ^ i % 3 : Nat) : Int) := by
  rw [Int.fdiv_eq_ediv_of_nonneg _ (Int.natCast_nonneg _), Int.fmod_eq_emod_of_nonneg _ (by decide)]
  rw [← Int.natCast_ediv]; rfl
theorem carriedApp : ∀ {vs ws : List Value} {ds es : List PyData}, CarriedAll vs ds → CarriedAll ws es → CarriedAll (vs ++ ws) (ds ++ es)
  | _, _, _, _, .nil, h => h
  | _, _, _, _, .cons a r, h => .cons a (carriedApp r h)
theorem utxLen (u : Nat) : (utx u).length ≤ 2 := by
  match u with
  | 0 => decide
  | 1 => decide
  | 2 => decide
  | n + 3 => exact Nat.le_refl 2
theorem catCps (a b : Str) : (a ++ b).cps.toList = a.cps.toList ++ b.cps.toList := by
  show (a.cps ++ b.cps).toList = _
  simp
theorem join0 : ∀ l : List Str, (Str.join (Str.ofString "") l).cps.toList = l.flatMap (·.cps.toList)
  | [] => rfl
  | [x] => by simp [Str.join]
  | x :: y :: r => by
    have ih := join0 (y :: r)
    have e : (Str.ofString "").cps.toList = [] := by decide
    rw [Str.join, catCps, catCps, ih, e]
    · simp
    · intro h; cases h
theorem joinCps (us : List Nat) (f : Nat → Nat) : (Txt.join (Str.ofString "") (us.map fun k => utx (f k))).cps.toList = (us.map f).flatMap utl := by
  show (Builtin.Str.glued (Str.ofString "") _).cps.toList = _
  rw [StrLaws.glued_eq_join, join0, List.flatMap_map, List.flatMap_map]
  simp [utx]
theorem stText {w : World} {mean : ExcName → Option Value} {mg mb : Str → Option Value} {dp un : Nat} {fr : Option (List Env)} {gd : Option (List Code)} {s : Shared} {base : Heap} {Q : Flow → Shared → Prop} {L fa : Addr} {cd : Value} {m : Str → Option Value}
    (KX : (KF w).In base) (T : TopP mean mg mb base) (hdp : dp < 420) (hun : un < 20) {oa oi oj oc ov opw opr orw osc : Obj} {news : List (Addr × Obj)} {tv tc tp : Tok} {v col P : Nat}
    (F : Fr base L s.heap m) (N : News base L s.heap (cellsL L oa oi oj oc ov opw opr orw osc ++ news))
    (hc1 : ov.data = .cell (some (.int (v : Int) tv))) (hc2 : oc.data = .cell (some (.int (col : Int) tc))) (hc3 : opr.data = .cell (some (.int (P : Int) tp)))
    (hP : 1 < P) (hP2 : P < 12)
    (hQ : ∀ h tk m' x t, Fr base L h m' → News base L h (cellsL L oa oi oj oc ov opw opr orw osc ++ news) → x.cps.toList = (units P v col).flatMap utl → m' (Str.ofString "text") = some (.str x t) → (∀ y, y ≠ Str.ofString "text" → m' y = m y) → Q .next { s with heap := h, toks := tk }) :
    wpAny (model prg w) ⟨none, dp, fr, gd, un⟩ (exec (rowSt w 0) (lawEnv w L fa cd)) Q (fun _ _ => False) s := by
  w_on; w_top on
  conv in rowSt w 0 => whnf
  unfold lawEnv
  conv in lawScope w => whnf
  dsimp only [KF, TopP, prg] at KX T ⊢
  revert KX; k_fill; intro KX
  dsimp only [cellsL, List.cons_append, List.nil_append] at N hQ
  (iterate 14 (first | (k_unfold; (try dsimp only)) | (k_end; wrow_close) | walk1 | (dsimp only; walk1) | (leave1; try dsimp only)))
  (with_reducible rename Fr _ _ _ _ => F1); (with_reducible rename News _ _ _ _ => N1); (with_reducible rename IsRange _ _ _ _ _ _ _ _ => R1)
  refine LCg.CompSrc.range (n := P) rfl F1 N1 R1 (small_one (by omega) (by omega) (by omega) (by omega)) (by rw [rangeSize_nat]; omega) (by rw [sizeLine_eq]; omega) fun g => ?_
  refine compInd (fun i ys => CarriedAll ys ((List.range i).map fun k => PyData.str (utx (unit1 v col k)))) .nil ?_ ?_
  · rintro i ys hi hG val I oI C oC D m2 h tk ⟨t, rfl⟩ hns hx F2 N2 off hne
    dsimp only at F2 N2 ⊢
    clear F1 N1 R1
    (iterate 8 (first | (k_unfold; (try dsimp only)) | (k_end; wrow_close) | walk1 | (dsimp only; walk1) | (leave1; try dsimp only)))
    · (with_reducible rename Fr _ _ _ _ => F3); (with_reducible rename News _ _ _ _ => N3)
      have hq : unit1 v col i = 0 := if_pos (by have h : (0 : Int) + (i : Int) = (col : Int) := by assumption
                                                omega)
      refine LCg.CompEnd.intro F3 N3 _ (fun p hp => hp) off trivial ⟨rfl, ?_⟩
      rw [List.range_succ, List.map_append]
      refine carriedApp hG ?_
      show CarriedAll _ [PyData.str (utx (unit1 v col i))]
      rw [hq]
      exact .cons (.str _ _) .nil
    · have hq : unit1 v col i = 1 + v / 3 ^ i % 3 := if_neg (by have h : (0 : Int) + (i : Int) ≠ (col : Int) := by assumption
                                                                omega)
      (iterate 17 (first | (k_unfold; (try dsimp only)) | (k_end; wrow_close) | walk1 | (dsimp only; walk1) | (leave1; try dsimp only)))
      rw [pow3 i]
      refine floordiv_int (pow3ne i) ?_ (Or.inl (PyProof.noPylong_of_log2 (pow3log i (by omega))))
      dsimp only
      (iterate 2 (first | (k_unfold; (try dsimp only)) | (k_end; wrow_close) | walk1 | (dsimp only; walk1) | (leave1; try dsimp only)))
      rw [ix3]
      obtain h0 | h0 | h0 : v / 3 ^ i % 3 = 0 ∨ v / 3 ^ i % 3 = 1 ∨ v / 3 ^ i % 3 = 2 := by omega
      all_goals (
        rw [h0] at hq ⊢
        (iterate 1 (first | (k_unfold; (try dsimp only)) | (k_end; wrow_close) | walk1 | (dsimp only; walk1) | (leave1; try dsimp only)))
        (with_reducible rename Fr _ _ _ _ => F3); (with_reducible rename News _ _ _ _ => N3)
        refine LCg.CompEnd.intro F3 N3 _ (fun p hp => .tail _ hp) off trivial ⟨rfl, ?_⟩
        rw [List.range_succ, List.map_append]
        refine carriedApp hG ?_
        show CarriedAll _ [PyData.str (utx (unit1 v col i))]
        rw [hq]
        exact .cons (.str _ _) .nil)
  · intro ys hG D h tk F3 N3 off
    dsimp only
    (iterate 1 (first | (k_unfold; (try dsimp only)) | (k_end; wrow_close) | walk1 | (dsimp only; walk1) | (leave1; try dsimp only)))
    refine KT.join_B (l := List.range P) (g := fun k => utx (unit1 v col k)) 2 ⟨_, N3.get (.head _), rfl, _, rfl⟩ hG (fun a _ => utxLen _) (by rw [List.length_range]; omega) (by decide) fun t' k' => ?_
    (iterate 1 (first | (k_unfold; (try dsimp only)) | (k_end; wrow_close) | walk1 | (dsimp only; walk1) | (leave1; try dsimp only)))
    (with_reducible rename Fr _ _ _ _ => F4); (with_reducible rename News _ _ _ _ => N4)
    exact hQ _ _ _ _ _ F4 (fun p hp => N4 p (.tail _ hp)) (joinCps _ _) (if_pos rfl) (fun y hy => if_neg hy)
end Mine
end
section
open PySem PySem.W PyProof.Rows PySem.Calls
namespace Mine
set_option maxRecDepth 100000
set_option maxHeartbeats 1000000

theorem genList {w : World} {mean : ExcName → Option Value} {mg mb : Str → Option Value} {dp un : Nat} {fr : Option (List Env)} {gd : Option (List Code)} {s : Shared} {base : Heap} {Q E : Value → Shared → Prop} {env : Env}
    {iter : PySem.Expr} {place unit : Str} {pu pp pq tp pos : Pos} {kk : Nat} {scope : Scope} {U : List Nat} (T : TopP mean mg mb base) (hdp : dp < 500) (hU : U.length < 1000)
    (hcell : ∀ y ∈ scope.names, y.2 ≠ .cell ∧ y.2 ≠ .free) (hkind : scope.kind = .function) (hnames : ∀ x ∈ scope.names, x.2 = .local → scope.names.lookup x.1 = some .local) (hp : scope.names.lookup place = some .local) (hu : scope.names.lookup unit = some .local) (hpu : place ≠ unit) (hdbg : (unit == ("__debug__" : Str)) = false)
    (h : wpAny (model prg w) ⟨none, dp, fr, gd, un⟩ (eval iter env) (fun v s₁ => ∃ a L c g, v = .ref a ∧ (∀ b o, base.get? b = some o → s₁.heap.get? b = some o) ∧ s₁.heap.IsGen a g ∧ s₁.gens[g]? = some (.fresh c) ∧ L < a ∧ base.get? L = none ∧
      (∀ (dp un : Nat) (fr : Option (List Env)) (gd : Option (List Code)) (N : Addr) (s₂ : Shared), a < N → (∀ b o, base.get? b = some o → s₂.heap.get? b = some o) → (∀ o, s₁.heap.get? L = some o → s₂.heap.get? L = some o) → N ≤ s₂.heap.objs.size →
        Seg (model prg w) ⟨none, dp, fr, gd, un⟩ (gR L N) (gY L N U) U.length s₂ c ((model prg w).den c) [] s₂) ∧
      (∀ D ys h' tk, h'.PlainList D ys → s₁.heap.get? D = none → UnitsAre U ys.toList → (∀ b o, b ≠ L → s₁.heap.get? b = some o → h'.get? b = some o) → Q (.ref D) { s₁ with heap := h', gens := s₁.gens.setIfInBounds g .finished, toks := tk })) E s)
    (hs : ∀ x, foldedSetIterable iter env x = pure x := by intro _; rfl) :
    wpAny (model prg w) ⟨none, dp, fr, gd, un⟩ (eval (.ListComp (.Name unit pu) [⟨.Tuple [.Name place pp, .Name unit pq] kk tp, iter, [], 0⟩] scope pos) env) Q E s := by
  refine wpAny_ListComp (fun x hx => (hcell x hx).2) hkind hnames (wpAny_mono h (fun v s₁ h₁ => ?_) fun _ _ e => e) hs
  obtain ⟨a, L, c, g, rfl, hb, hga, hg, hLa, hbL, hseg, hQ⟩ := h₁
  exact compTail hb T hdp (fun y hy => (hcell y hy).1) hkind hp hu hpu hdbg a L c g U hU hga hg hLa hbL hseg hQ
theorem utx_zero {u : Nat} : (utx u == Str.ofString "\"") = decide (u = 0) := by
  have e : Str.ofString "\"" = (⟨#[34]⟩ : Str) := by decide +kernel
  rw [e]
  match u with
  | 0 => rfl
  | 1 => rfl
  | 2 => rfl
  | n + 3 => rfl
theorem indexUnit {prog : Program} {w : World} {A : Around} {E : Value → Shared → Prop} {s : Shared} {l : Addr} {ys : Array Value} {n : Nat} {U : List Nat} {col : Nat} {t : Tok} {Q : Value → Shared → Prop} (hl : s.heap.get? l = some (listOf ys n)) (hun : UnitsAre U ys.toList)
    (hcol : U[col]? = some 0) (hfirst : ∀ i u, i < col → U[i]? = some u → u ≠ 0) (hU : U.length < 1000) (h : Q (.int (col : Int) s.toks) { s with toks := s.toks + 1 }) :
    wpAny (model prog w) A (call (.builtin "list.index") [.ref l, .str (Str.ofString "\"") t]) Q E s := by
  have hlen : ys.size = U.length := by have := hun.1; simpa using this
  have hc : col < U.length := (List.getElem?_eq_some_iff.mp hcol).1
  let e : Value → Bool := fun v => match v with | .str x _ => x == Str.ofString "\"" | _ => false
  have at' : ∀ (i : Nat) (hi : i < ys.size), ∃ u t, U[i]? = some u ∧ ys[i] = .str (utx u) t := fun i hi => by
    obtain ⟨u, hu⟩ : ∃ u, U[i]? = some u := ⟨U[i]'(by omega), by simp [show i < U.length by omega]⟩
    obtain ⟨t, ht⟩ := hun.2 i u hu
    exact ⟨u, t, hu, by simpa [hi] using ht⟩
  refine call_meets PySem.F.slot_list_index ⟨_, hl, rfl⟩ PySem.F.entry_list_index (PySem.F.args_list_index_2 _ _)
    (MeetsSeq.list_index l ys n (.str (Str.ofString "\"") t) e (fun y hy => ?_) col (by omega) (by omega) ?_ ?_) ⟨hl, h⟩
  · obtain ⟨i, hi, rfl⟩ := Array.mem_iff_getElem.mp hy
    obtain ⟨u, t', _, h2⟩ := at' i hi
    rw [h2]
    exact eqGives_str _ _ _ _
  · obtain ⟨u, t', h1, h2⟩ := at' col (by omega)
    rw [hcol] at h1; cases h1
    rw [h2]
    show (utx 0 == _) = true
    rw [utx_zero]; rfl
  · intro i hi hlt
    obtain ⟨u, t', h1, h2⟩ := at' i hi
    rw [h2]
    show (utx u == _) = false
    rw [utx_zero]
    exact decide_eq_false (hfirst i u hlt h1)
theorem FrSame {g h : Heap} {L : Addr} {m m' : Str → Option Value} (F : Fr g L h m) (e : ∀ y, m y = m' y) : Fr g L h m' := (funext e : m = m') ▸ F
theorem pushFin (gs : Array GenState) (c : GenState) : (gs.push c).setIfInBounds gs.size .finished = gs.push .finished := by
  apply Array.ext'
  simp [Array.toList_setIfInBounds]
theorem stRead {w : World} {mean : ExcName → Option Value} {mg mb : Str → Option Value} {dp un : Nat} {fr : Option (List Env)} {gd : Option (List Code)} {s : Shared} {base : Heap} {Q : Flow → Shared → Prop} {L fa : Addr} {cd : Value} {m : Str → Option Value}
    (KX : (KF w).In base) (T : TopP mean mg mb base) (hdp : dp < 420) (hun : un < 20) {news : List (Addr × Obj)} {x : Str} {t : Tok} {U : List Nat} {lr : Addr} {rs : List Value} {nr col : Nat}
    (F : Fr base L s.heap m) (N : News base L s.heap ((lr, listOf (List.toArray rs) nr) :: news))
    (hm1 : m (Str.ofString "text") = some (.str x t)) (hm2 : m (Str.ofString "read") = some (.ref lr)) (hx : x.cps.toList = U.flatMap utl) (hU : U.length < 20)
    (hlr : rs.length < 20) (hcol : U[col]? = some 0) (hfirst : ∀ i u, i < col → U[i]? = some u → u ≠ 0) (hoff : ∀ p ∈ news, p.1 ≠ lr)
    (hQ : ∀ h tk t', Fr base L h m → News base L h ((lr, listOf (List.toArray (rs ++ [.int (col : Int) t'])) (nr + 1)) :: news) → Q .next { s with heap := h, gens := s.gens.push .finished, toks := tk }) :
    wpAny (model prg w) ⟨none, dp, fr, gd, un⟩ (exec (rowSt w 1) (lawEnv w L fa cd)) Q (fun _ _ => False) s := by
  w_on; w_top on
  conv in rowSt w 1 => whnf
  unfold lawEnv
  conv in lawScope w => whnf
  dsimp only [KF, TopP, prg] at KX T ⊢
  revert KX; k_fill; intro KX
  replace F := seeF F hm1
  replace F := seeF (x := Str.ofString "read") F hm2
  (iterate 7 (first | (k_unfold; (try dsimp only)) | (k_end; wrow_close) | walk1 | (dsimp only; walk1) | (leave1; try dsimp only)))
  refine genList (base := base) (U := U) (env := envOfC _ _ _ _ _) T (by omega) (by omega) (by decide) rfl (by decide) rfl rfl (by decide) rfl ?_
  (iterate 6 (first | (k_unfold; (try dsimp only)) | (k_end; wrow_close) | walk1 | (dsimp only; walk1) | (leave1; try dsimp only)))
  (with_reducible rename Fr _ _ _ _ => F1); (with_reducible rename News _ _ _ _ => N1)
  refine ⟨KX.keeps F1.keep, ?_⟩
  show wpAny _ (Around.mk none dp fr gd un) (call (.ref 182) [.str x t]) _ _ _
  refine genCall (base := base) F1.keep (Nat.le_of_lt (Nat.lt_of_le_of_lt F1.above F1.ns.lt)) KX T (by show dp < 500; omega) x t U hx fun a L' c h' tk hga hL' hLa hk hseg => ?_
  dsimp only at hga hk hL' hseg ⊢
  refine ⟨a, L', c, s.gens.size, rfl, fun b o e => hk b o (F1.keep b o e), hga, by simp, hLa, Heap.get?_none_of_le (Nat.le_trans (Nat.le_of_lt (Nat.lt_of_le_of_lt F1.above F1.ns.lt)) hL'), hseg, fun D ys h2 tk2 hD hDn hun hk2 => ?_⟩
  have hke : ∀ b o, s.heap.get? b = some o → h2.get? b = some o := fun b o e => hk2 b o (Nat.ne_of_lt (Nat.lt_of_lt_of_le (Heap.lt_size e) hL')) (hk b o e)
  have F2 := frKeep F1 hke
  have N2 := newsKeep N1 hke
  obtain ⟨nD, hoD⟩ := id hD
  have hDL : D ≠ L := fun q => by
    have h1 : h'.get? L = none := q ▸ hDn
    obtain ⟨o, _, _, ho, _⟩ := F1.ns
    rw [hk L o ho] at h1; cases h1
  have hDb : base.get? D = none := by
    cases e : base.get? D with
    | none => rfl
    | some o => rw [hk D o (F1.keep D o e)] at hDn; cases hDn
  have N3 : News base L h2 ((D, listOf ys nD) :: (lr, listOf (List.toArray rs) nr) :: news) := fun p hp => by
    rcases List.mem_cons.mp hp with rfl | hp
    · exact ⟨hoD, hDL, hDb⟩
    · exact N2 p hp
  clear N2 F1 N1 hk hk2 hseg
  (iterate 5 (first | (k_unfold; (try dsimp only)) | (k_end; wrow_close) | walk1 | (dsimp only; walk1) | (leave1; try dsimp only)))
  refine indexUnit (s := Shared.mk h2 _ _ _ _) hoD hun hcol hfirst (by omega) ?_
  (iterate 1 (first | (k_unfold; (try dsimp only)) | (k_end; wrow_close) | walk1 | (dsimp only; walk1) | (leave1; try dsimp only)))
  dsimp only
  have hz := N3 (lr, _) (.tail _ (.head _))
  refine append_at (hsz := by show rs.toArray.size ≤ sizeLine; rw [List.size_toArray, sizeLine_eq]; omega) hz.1 fun h5 hs5 ho5 => ?_
  have key : ∀ t' tk, h5.get? lr = some (listOf (rs.toArray.push (.int (col : Int) t')) (nr + 1)) → Q .next { s with heap := h5, gens := (s.gens.push (.fresh c)).setIfInBounds s.gens.size .finished, toks := tk } := fun t' tk e => by
    rw [List.push_toArray] at e
    rw [pushFin]
    refine hQ h5 tk t' (FrSame (F2.change hs5 hz.2.1 hz.2.2) (see2 hm1 hm2)) (fun p hp => ?_)
    rcases List.mem_cons.mp hp with rfl | hp
    · exact ⟨e, hz.2⟩
    · have := N3 p (.tail _ (.tail _ hp))
      exact ⟨hs5.extBut _ _ (hoff p hp) this.1, this.2⟩
  exact key _ _ ho5
end Mine
end
section
open PySem PySem.W PyProof.Rows PySem.Calls
namespace Mine
set_option maxRecDepth 100000
set_option maxHeartbeats 1000000
def zObj (TI TO : Addr) (f0 : Value) : Obj := { cls := .type "zip", dict := none, data := .fields #[f0, .bool false, .bool false, .ref TI, .ref TO], slots := #[] }
def pObj (a b : Value) : Obj := { cls := .type "tuple", data := .seq #[a, b] }

def ZipEnds (base : Heap) (L : Addr) (s : Shared) (gs : Array GenState) (zs : List (Addr × Obj)) (P : (Str → Option Value) → List (Addr × Obj) → Prop) (f : Flow) (s₃ : Shared) : Prop :=
  f = .next ∧ ∃ h' tk' m' news', s₃ = { s with heap := h', toks := tk', gens := gs } ∧ Fr base L h' m' ∧ News base L h' (zs ++ news') ∧ P m' news'

theorem zipLoop {prog : Program} {w : World} {A : Around} {E : Value → Shared → Prop} {s : Shared} {body : List Stmt} {elts : List PySem.Expr} {kk : Nat} {px : Pos} {env : Env} {R : Result → Shared → Prop} {base : Heap} {L : Addr} {m : Str → Option Value} {news : List (Addr × Obj)} {l1 l2 : Addr} {xs ys : Array Value} {k1 k2 : Nat}
    (hh : A.handled = none) (F : Fr base L s.heap m) (N : News base L s.heap news) (gg : Nat → Array GenState) (hg0 : gg 0 = s.gens) (hsz : xs.size = ys.size)
    (Inv : Nat → (Str → Option Value) → List (Addr × Obj) → Prop) (h0 : Inv 0 m news) (hoff : ∀ i m news, Inv i m news → ∀ p ∈ news, p.1 < s.heap.objs.size)
    (hl1 : ∀ i m news, Inv i m news → (l1, listOf xs k1) ∈ news) (hl2 : ∀ i m news, Inv i m news → (l2, listOf ys k2) ∈ news)
    (turn : ∀ i x y T h tk m news ob1 ob2, xs[i]? = some x → ys[i]? = some y → Inv i m news → Fr base L h m → @LE.le Nat _ (s.heap.objs.size + 5) T → T < h.objs.size →
      News base L h ((T, pObj x y) :: (s.heap.objs.size + 4, zObj (s.heap.objs.size + 2) (s.heap.objs.size + 3) .none) :: (s.heap.objs.size + 2, pObj (.ref s.heap.objs.size) (.ref (s.heap.objs.size + 1))) :: (s.heap.objs.size + 3, pObj x y) :: (s.heap.objs.size, ob1) :: (s.heap.objs.size + 1, ob2) :: news) →
      wpAny (model prog w) A (assign (.Tuple elts kk px) env (.ref T)) (fun _ s₂ => wpAny (model prog w) A (execs body env)
        (ZipEnds base L s (gg (i + 1)) [(s.heap.objs.size + 4, zObj (s.heap.objs.size + 2) (s.heap.objs.size + 3) .none), (s.heap.objs.size + 2, pObj (.ref s.heap.objs.size) (.ref (s.heap.objs.size + 1))), (s.heap.objs.size + 3, pObj x y), (s.heap.objs.size, ob1), (s.heap.objs.size + 1, ob2)] (Inv (i + 1))) (fun _ _ => False) s₂) (fun _ _ => False) { s with heap := h, toks := tk, gens := gg i })
    (done : ∀ h tk m news, Inv xs.size m news → Fr base L h m → News base L h news → R (.ok .next) { s with heap := h, toks := tk, gens := gg xs.size }) :
    wpAny (model prog w) A (call (.type "zip") [.ref l1, .ref l2]) (fun v s₁ => wpAny (model prog w) A (pyIter v) (fun it s₂ => codeAny (model prog w) A (.forLoop (.Tuple elts kk px) it body [] env) R s₂) E s₁) E s := by
  refine call_zip_2 (xs := xs) (ys := ys) ⟨_, N.get (hl1 0 m news h0), rfl, _, rfl⟩ ⟨_, N.get (hl2 0 m news h0), rfl, _, rfl⟩ fun hA hz hTI hTO hi1 hi2 hsA hkA => ?_
  refine wpAny_pyIter_zip hz ?_
  generalize hH : s.heap.objs.size = H at *
  have hLH : @LT.lt Nat _ L H := by have := F.ns.lt; rw [hH] at this; exact this
  have hno : ∀ a : Nat, H ≤ a → base.get? a = none := fun a ha => Heap.get?_none_of_le (Nat.le_trans (Nat.le_trans F.above (Nat.le_of_lt hLH)) ha)
  have D : ∀ a b : Nat, a < H → b < H → ZipApart (H + 4) (H + 2) (H + 3) H (H + 1) a b := fun a b ha hb => by
    constructor <;> (show @Ne Nat _ _; omega)
  have offB : ∀ b : Nat, b < H → b ∉ ([H + 4, H + 3, H, H + 1] : List Nat) := fun b hb hm => by simp at hm; omega
  refine forLoop_ok (fun k s' => ∃ (i : Nat) (h : Heap) (tk : Nat) (m : Str → Option Value) (news : List (Addr × Obj)) (a b : Value), s' = { s with heap := h, toks := tk, gens := gg i } ∧ k = xs.size - i ∧ i ≤ xs.size ∧ Inv i m news ∧ Fr base L h m ∧ News base L h news ∧
      IsZip h (H + 4) (H + 2) (H + 3) .none ∧ IsPair h (H + 2) (.ref H) (.ref (H + 1)) ∧ IsPair h (H + 3) a b ∧ h.IsListIter H l1 i ∧ h.IsListIter (H + 1) l2 i) ?_ xs.size ?_
  · rintro k s' ⟨i, h, tk, m, news, a, b, rfl, rfl, hi, hinv, F, N, hz, hTI, hTO, h1, h2⟩
    have e1 : h.IsList l1 xs := ⟨_, N.get (hl1 i m news hinv), rfl, _, rfl⟩
    have e2 : h.IsList l2 ys := ⟨_, N.get (hl2 i m news hinv), rfl, _, rfl⟩
    have b1 : @LT.lt Nat _ l1 H := hoff i m news hinv _ (hl1 i m news hinv)
    have b2 : @LT.lt Nat _ l2 H := hoff i m news hinv _ (hl2 i m news hinv)
    have keepF : ∀ h' : Heap, (∀ c o, c ≠ H + 4 → c ≠ H + 3 → c ≠ H → c ≠ H + 1 → h.get? c = some o → h'.get? c = some o) → (∀ c : Nat, ∀ o, c < H → h.get? c = some o → h'.get? c = some o) := fun h' hk c o hc e =>
      hk c o (by show @Ne Nat _ _; omega) (by show @Ne Nat _ _; omega) (by show @Ne Nat _ _; omega) (by show @Ne Nat _ _; omega) e
    have FrL : ∀ h' : Heap, (∀ c : Nat, ∀ o, c < H → h.get? c = some o → h'.get? c = some o) → Fr base L h' m := fun h' hk => ⟨F.ns.at' fun o e => hk L o hLH e, fun c o e => hk c o (Nat.lt_of_not_le fun hle => by rw [hno c hle] at e; cases e) (F.keep c o e), F.above⟩
    have NwL : ∀ h' : Heap, (∀ c : Nat, ∀ o, c < H → h.get? c = some o → h'.get? c = some o) → News base L h' news := fun h' hk p hp => ⟨hk _ _ (hoff i m news hinv p hp) (N p hp).1, (N p hp).2⟩
    by_cases hlt : i < xs.size
    · refine wpAny_pyNext_zip_item (D l1 l2 b1 b2) hz hTI hTO h1 h2 e1 e2 (x := xs[i]) (y := ys[i]'(hsz ▸ hlt)) (by simp [hlt]) (by simp [hsz ▸ hlt]) fun h' hz' hTO' h1' h2' hT' hs' hk' => ?_
      dsimp only at *
      refine wpAny_letOwnedTupleGo_zip hz' fun h3 hz3 hs3 => ?_
      have hHh : H + 4 < h.objs.size := Heap.lt_size hz
      have up : ∀ c o, c ≠ H + 4 → h'.get? c = some o → h3.get? c = some o := fun c o hc e => hs3.extBut c o hc e
      have low : ∀ c : Nat, ∀ o, c < H → h.get? c = some o → h3.get? c = some o := fun c o hc e => up c o (by show @Ne Nat _ _; omega) (keepF h' hk' c o hc e)
      have F3 := FrL h3 low
      have N3 := NwL h3 low
      have hTI3 : IsPair h3 (H + 2) (.ref H) (.ref (H + 1)) := up _ _ (by show @Ne Nat _ _; omega) (hk' _ _ (by show @Ne Nat _ _; omega) (by show @Ne Nat _ _; omega) (by show @Ne Nat _ _; omega) (by show @Ne Nat _ _; omega) hTI)
      have hTO3 : IsPair h3 (H + 3) _ _ := up _ _ (by show @Ne Nat _ _; omega) hTO'
      have h13 : h3.IsListIter H l1 (i + 1) := h1'.at fun o e => up _ o (by show @Ne Nat _ _; omega) e
      have h23 : h3.IsListIter (H + 1) l2 (i + 1) := h2'.at fun o e => up _ o (by show @Ne Nat _ _; omega) e
      have hT3 : IsPair h3 h.objs.size _ _ := up _ _ (by show @Ne Nat _ _; omega) hT'
      obtain ⟨ob1, g1, c1, d1⟩ := id h13
      obtain ⟨ob2, g2, c2, d2⟩ := id h23
      have at' : ∀ a : Nat, H ≤ a → a ≠ L ∧ base.get? a = none := fun a ha => ⟨by show @Ne Nat _ _; omega, hno a ha⟩
      refine wpAny_mono (turn i xs[i] (ys[i]'(hsz ▸ hlt)) h.objs.size h3 _ m news ob1 ob2 (by simp [hlt]) (by simp [hsz ▸ hlt]) hinv F3 (by omega) (Heap.lt_size hT3) ?_) (fun _ s₂ q => ?_) fun _ _ x => x
      · intro p hp
        rcases List.mem_cons.mp hp with rfl | hp
        · exact ⟨hT3, at' _ (by omega)⟩
        rcases List.mem_cons.mp hp with rfl | hp
        · exact ⟨hz3, at' _ (by omega)⟩
        rcases List.mem_cons.mp hp with rfl | hp
        · exact ⟨hTI3, at' _ (by omega)⟩
        rcases List.mem_cons.mp hp with rfl | hp
        · exact ⟨hTO3, at' _ (by omega)⟩
        rcases List.mem_cons.mp hp with rfl | hp
        · exact ⟨g1, at' _ (by omega)⟩
        rcases List.mem_cons.mp hp with rfl | hp
        · exact ⟨g2, at' _ (by omega)⟩
        exact N3 p hp
      refine wpAny_mono q (fun f s₃ q => ?_) fun _ _ x => x
      obtain ⟨rfl, h5, tk5, m5, news5, rfl, F5, N5, hinv5⟩ := q
      refine ⟨xs.size - (i + 1), by omega, i + 1, h5, tk5, m5, news5, _, _, rfl, rfl, hlt, hinv5, F5, fun p hp => N5 p (List.mem_append_right _ hp), N5.get (.head _), N5.get (.tail _ (.head _)), N5.get (.tail _ (.tail _ (.head _))), ⟨ob1, N5.get (.tail _ (.tail _ (.tail _ (.head _)))), c1, d1⟩, ⟨ob2, N5.get (.tail _ (.tail _ (.tail _ (.tail _ (.head _))))), c2, d2⟩⟩
    · have hin : i = xs.size := by omega
      subst hin
      refine wpAny_pyNext_zip_end hh (D l1 l2 b1 b2) hz hTI hTO h1 h2 e1 e2 (.inl (by simp)) fun h' hk' => ?_
      exact done h' _ m news hinv (FrL h' (keepF h' hk')) (NwL h' (keepF h' hk'))
  · refine ⟨0, hA, _, m, news, .none, .none, by rw [hg0], rfl, Nat.zero_le _, h0, ⟨F.ns.at' fun o e => hkA L o e, fun c o e => hkA c o (F.keep c o e), F.above⟩, fun p hp => ⟨hkA _ _ (N p hp).1, (N p hp).2⟩, hz, hTI, hTO, hi1, hi2⟩
end Mine
end
section
open PySem PySem.W PyProof.Rows PySem.Calls
namespace Mine
set_option maxRecDepth 100000
set_option maxHeartbeats 1000000
def drN (ns : List Int) (k : Nat) : Nat := (drI ns k).toNat
theorem drN_eq (ns : List Int) (k : Nat) : drI ns k = ((drN ns k : Nat) : Int) := (Int.toNat_of_nonneg (Int.fmod_nonneg_of_pos _ (by decide))).symm
abbrev lawNews (L lr ld lpl lp lrow : Addr) (rd ds ps us rs : List Value) (nr nd np nu nrw : Nat) (oa oi oj oc ov opw opr orw osc : Obj) : List (Addr × Obj) :=
  (lr, listOf (List.toArray rd) nr) :: (ld, listOf (List.toArray ds) nd) :: (lpl, listOf (List.toArray ps) np) :: (lp, listOf (List.toArray us) nu) :: (lrow, listOf (List.toArray rs) nrw) :: cellsL L oa oi oj oc ov opw opr orw osc

theorem pushRep (a : Array GenState) (i : Nat) : (a ++ Array.replicate i GenState.finished).push .finished = a ++ Array.replicate (i + 1) .finished := by
  apply Array.ext'
  simp [List.replicate_succ']
theorem stRows {w : World} {mean : ExcName → Option Value} {mg mb : Str → Option Value} {dp un : Nat} {fr : Option (List Env)} {gd : Option (List Code)} {s : Shared} {base : Heap} {Q : Flow → Shared → Prop} {L fa : Addr} {cd : Value} {m : Str → Option Value}
    (KX : (KF w).In base) (T : TopP mean mg mb base) (hdp : dp < 420) (hun : un < 20) {oa oi oj oc ov opw opr orw osc : Obj} {lr ld lpl lp lrow : Addr} {ds ps us rs : List Value} {nd np nu nrw : Nat} {tp : Tok} {ns : List Int} {M P r st : Nat}
    (F : Fr base L s.heap m) (N : News base L s.heap (lawNews L lr ld lpl lp lrow [] ds ps us rs 0 nd np nu nrw oa oi oj oc ov opw opr orw osc))
    (hm1 : m (Str.ofString "draws") = some (.ref ld)) (hm2 : m (Str.ofString "plain") = some (.ref lpl)) (hm3 : m (Str.ofString "read") = some (.ref lr))
    (hc1 : opr.data = .cell (some (.int (P : Int) tp))) (hc2 : ov.data = .cell none) (hc3 : oc.data = .cell none)
    (hds : IntsAre ds ((List.range M).map (drI ns))) (hps : IntsAre ps (pls r P st M)) (hP : 1 < P) (hP2 : P < 12) (hM : M < 12) (hcols : ∀ k, k < M → pwN r P (st + k) < P)
    (d1 : @LT.lt Nat _ (L + 9) lrow) (d2 : @LT.lt Nat _ lrow lp) (d3 : @LT.lt Nat _ lp lpl) (d4 : (@Ne Nat lr ld) ∧ (@Ne Nat lr lpl) ∧ (@Ne Nat lr lp) ∧ (@Ne Nat lr lrow)) (d5 : @LT.lt Nat _ (L + 9) lr) (d6 : (@Ne Nat (L + 9) ld) ∧ (@Ne Nat (L + 8) ld) ∧ (@Ne Nat (L + 7) ld) ∧ (@Ne Nat (L + 6) ld) ∧ (@Ne Nat (L + 5) ld) ∧ (@Ne Nat (L + 4) ld) ∧ (@Ne Nat (L + 3) ld) ∧ (@Ne Nat (L + 2) ld) ∧ (@Ne Nat (L + 1) ld)) (d7 : @LT.lt Nat _ (L + 9) lpl)
    (hQ : ∀ h tk m' rd nr oc' ov', Fr base L h m' → News base L h (lawNews L lr ld lpl lp lrow rd ds ps us rs nr nd np nu nrw oa oi oj oc' ov' opw opr orw osc) → IntsAre rd (pls r P st M) → (∃ v, ov'.data = .cell v) →
      (∀ y, y ≠ Str.ofString "text" → m' y = m y) → Q .next { s with heap := h, toks := tk, gens := s.gens ++ Array.replicate M .finished }) :
    wpAny (model prg w) ⟨none, dp, fr, gd, un⟩ (exec (lawSt w 11) (lawEnv w L fa cd)) Q (fun _ _ => False) s := by
  w_on; w_top on
  have KX0 := KX
  have T0 := T
  conv in lawSt w 11 => whnf
  unfold lawEnv
  conv in lawScope w => whnf
  dsimp only [KF, TopP, prg] at KX T ⊢
  revert KX; k_fill; intro KX
  have F0 := F
  replace F := seeF F hm1
  replace F := seeF (x := Str.ofString "plain") F hm2
  clear F0
  refine wpAny_For ?_
  (iterate 8 (first | (k_unfold; (try dsimp only)) | (k_end; wrow_close) | walk1 | (dsimp only; walk1) | (leave1; try dsimp only)))
  (with_reducible rename Fr _ _ _ _ => F1)
  have a0 : @LT.lt Nat _ lr s.heap.objs.size := Heap.lt_size (N.get (.head _))
  have a1 : @LT.lt Nat _ ld s.heap.objs.size := Heap.lt_size (N.get (.tail _ (.head _)))
  have a2 : @LT.lt Nat _ lpl s.heap.objs.size := Heap.lt_size (N.get (.tail _ (.tail _ (.head _))))
  have a3 : @LT.lt Nat _ (L + 9) s.heap.objs.size := Nat.lt_trans d5 a0
  have hdsl : ds.length = M := by rw [hds.length]; simp
  have hpsl : ps.length = M := by rw [hps.length]; simp [pls]
  refine zipLoop (xs := ds.toArray) (ys := ps.toArray) (k1 := nd) (k2 := np) rfl F1 N (fun i => s.gens ++ Array.replicate i .finished) (by simp) (by simp [hdsl, hpsl])
    (fun i m' news => ∃ rd nr oc' ov', news = lawNews L lr ld lpl lp lrow rd ds ps us rs nr nd np nu nrw oa oi oj oc' ov' opw opr orw osc ∧ IntsAre rd (List.take i (pls r P st M)) ∧ (∃ v, ov'.data = .cell v) ∧ (∃ v, oc'.data = .cell v) ∧ ∀ y, y ≠ Str.ofString "text" → m' y = m y)
    ⟨[], 0, oc, ov, rfl, .nil, ⟨_, hc2⟩, ⟨_, hc3⟩, fun y _ => see2 hm1 hm2 y⟩ ?_ ?_ ?_ ?_ ?_
  · rintro i m' news ⟨rd, nr, oc', ov', rfl, _⟩ p hp
    simp only [List.mem_cons, List.not_mem_nil, or_false] at hp
    rcases hp with rfl | rfl | rfl | rfl | rfl | rfl | rfl | rfl | rfl | rfl | rfl | rfl | rfl | rfl <;> (refine ltN ?_; dsimp only; omega)
  · rintro i m' news ⟨rd, nr, oc', ov', rfl, _⟩
    exact .tail _ (.head _)
  · rintro i m' news ⟨rd, nr, oc', ov', rfl, _⟩
    exact .tail _ (.tail _ (.head _))
  · rintro i x y T1 h tk m' news ob1 ob2 hx hy ⟨rd, nr, oc', ov', rfl, hrd, ⟨v0, hv0⟩, ⟨c0, hc0⟩, hm'⟩ F2 hT1 hT2 N2
    clear F1 N
    generalize hH : s.heap.objs.size = H at *
    have hi : i < M := by
      have : i < ds.toArray.size := by
        rcases Nat.lt_or_ge i ds.toArray.size with h | h
        · exact h
        · rw [Array.getElem?_eq_none h] at hx; cases hx
      simpa [hdsl] using this
    obtain ⟨n1, t1, rfl, hn1⟩ := hds.at i x (by simpa using hx)
    obtain ⟨n2, t2, rfl, hn2⟩ := hps.at i y (by simpa using hy)
    have hn1' : n1 = ((drN ns i : Nat) : Int) := by rw [← drN_eq]; simpa [hi] using hn1.symm
    have hn2' : n2 = ((pwN r P (st + i) : Nat) : Int) := by simpa [pls, hi] using hn2.symm
    subst hn1' hn2'
    dsimp only [lawNews, cellsL, pObj] at N2
    (iterate 8 (first | (k_unfold; (try dsimp only)) | (k_end; wrow_close) | walk1 | (dsimp only; walk1) | (leave1; try dsimp only)))
    (with_reducible rename Fr _ _ _ _ => F4); (with_reducible rename News _ _ _ _ => N4)
    rename_i _ _ oV dV h4 oC dC
    have hrl : rd.length < 20 := by rw [hrd.length, List.length_take]; omega
    have N5 : News base L h4 (cellsL L oa oi oj oC oV opw opr orw osc ++ [(H + 4, zObj (H + 2) (H + 3) .none), (H + 2, pObj (.ref H) (.ref (H + 1))), (H + 3, pObj (.int ((drN ns i : Nat) : Int) t1) (.int ((pwN r P (st + i) : Nat) : Int) t2)), (H, ob1), (H + 1, ob2),
        (lr, listOf (List.toArray rd) nr), (ld, listOf (List.toArray ds) nd), (lpl, listOf (List.toArray ps) np), (lp, listOf (List.toArray us) nu), (lrow, listOf (List.toArray rs) nrw)]) := by
      refine News.sub N4 ?_
      dsimp only [cellsL, List.cons_append, List.nil_append]
      iterate 19 (refine List.forall_mem_cons.mpr ⟨by k_mem, ?_⟩)
      exact List.forall_mem_nil _
    have hcol : pwN r P (st + i) < P := hcols i hi
    refine wpAny_execs_cons (stText KX0 T0 hdp hun F4 N5 dV dC hc1 hP hP2 fun h6 tk6 m6 x6 t6 F6 N6 hx6 hm6 hm6' => ?_)
    dsimp only
    have hU6 : (units P (drN ns i) (pwN r P (st + i))).length = P := by simp [units]
    have N7 : News base L h6 ((lr, listOf (List.toArray rd) nr) :: (cellsL L oa oi oj oC oV opw opr orw osc ++ [(H + 4, zObj (H + 2) (H + 3) .none), (H + 2, pObj (.ref H) (.ref (H + 1))), (H + 3, pObj (.int ((drN ns i : Nat) : Int) t1) (.int ((pwN r P (st + i) : Nat) : Int) t2)), (H, ob1), (H + 1, ob2),
        (ld, listOf (List.toArray ds) nd), (lpl, listOf (List.toArray ps) np), (lp, listOf (List.toArray us) nu), (lrow, listOf (List.toArray rs) nrw)])) := by
      refine News.sub N6 ?_
      dsimp only [cellsL, List.cons_append, List.nil_append]
      iterate 19 (refine List.forall_mem_cons.mpr ⟨by k_mem, ?_⟩)
      exact List.forall_mem_nil _
    have hread : m6 (Str.ofString "read") = some (.ref lr) := (hm6' _ (by decide)).trans ((hm' _ (by decide)).trans hm3)
    refine wpAny_execs_cons (stRead KX0 T0 hdp hun (col := pwN r P (st + i)) F6 N7 hm6 hread hx6 (by omega) hrl ?_ ?_ ?_ fun h8 tk8 t8 F8 N8 => ?_)
    · simp [units, hcol, unit1]
    · intro k u hk hu
      have hkP : k < P := by omega
      have : unit1 (drN ns i) (pwN r P (st + i)) k = u := by simpa [units, hkP] using hu
      rw [← this]
      unfold unit1
      rw [if_neg (by omega)]; omega
    · dsimp only [cellsL, List.cons_append, List.nil_append]
      intro p hp
      simp only [List.mem_cons, List.not_mem_nil, or_false] at hp
      obtain ⟨d41, d42, d43, d44⟩ := d4
      rcases hp with rfl | rfl | rfl | rfl | rfl | rfl | rfl | rfl | rfl | rfl | rfl | rfl | rfl | rfl | rfl | rfl | rfl | rfl <;> (refine neN ?_; dsimp only; omega)
    · dsimp only
      have e2 : News base L h8 ([(H + 4, zObj (H + 2) (H + 3) .none), (H + 2, pObj (.ref H) (.ref (H + 1))), (H + 3, pObj (.int ((drN ns i : Nat) : Int) t1) (.int ((pwN r P (st + i) : Nat) : Int) t2)), (H, ob1), (H + 1, ob2)] ++
          lawNews L lr ld lpl lp lrow (rd ++ [.int ((pwN r P (st + i) : Nat) : Int) t8]) ds ps us rs (nr + 1) nd np nu nrw oa oi oj oC oV opw opr orw osc) := by
        refine News.sub N8 ?_
        dsimp only [cellsL, lawNews, List.cons_append, List.nil_append]
        iterate 19 (refine List.forall_mem_cons.mpr ⟨by k_mem, ?_⟩)
        exact List.forall_mem_nil _
      have e3 : IntsAre (rd ++ [.int ((pwN r P (st + i) : Nat) : Int) t8]) (List.take (i + 1) (pls r P st M)) := by
        rw [List.take_add_one, hn2]
        exact hrd.append (.cons _ _ .nil)
      have e1 : Shared.mk h8 ((s.gens ++ Array.replicate i GenState.finished).push .finished) s.drawn tk8 s.os = Shared.mk h8 (s.gens ++ Array.replicate (i + 1) GenState.finished) s.drawn tk8 s.os := by rw [pushRep]
      exact wpAny_execs_nil ⟨rfl, h8, tk8, m6, _, e1, F8, e2, _, _, oC, oV, rfl, e3, ⟨_, dV⟩, ⟨_, dC⟩, fun y hy => (hm6' y hy).trans (hm' y hy)⟩
  · rintro h tk m' news ⟨rd, nr, oc', ov', rfl, hrd, hv, _, hm'⟩ F2 N2
    rw [show ds.toArray.size = M by simp [hdsl]] at *
    refine hQ h tk m' rd nr oc' ov' F2 N2 (by rw [List.take_of_length_le (by simp [pls])] at hrd; exact hrd) hv hm'
end Mine
end
section
open PySem PySem.W PyProof.Rows PySem.Calls
namespace Mine
set_option maxRecDepth 100000
set_option maxHeartbeats 1000000
theorem consN {g h : Heap} {L a : Addr} {o : Obj} {news : List (Addr × Obj)} (e : h.get? a = some o) (hL : a ≠ L) (hg : g.get? a = none) (N : News g L h news) : News g L h ((a, o) :: news) := fun p hp => by
  rcases List.mem_cons.mp hp with rfl | hp
  · exact ⟨e, hL, hg⟩
  · exact N p hp
theorem stTab {w : World} {mean : ExcName → Option Value} {mg mb : Str → Option Value} {dp un : Nat} {fr : Option (List Env)} {gd : Option (List Code)} {s : Shared} {base : Heap} {Q : Flow → Shared → Prop} {L fa : Addr} {cd : Value} {m : Str → Option Value} {news : List (Addr × Obj)}
    (KX : (KF w).In base) (T : TopP mean mg mb base) (hdp : dp < 420) (hun : un < 20)
    (F : Fr base L s.heap m) (N : News base L s.heap news)
    (hQ : ∀ h tk m' x dx hl hsh tk0 n1, Fr base L h m' → News base L h ((hl, listOf #[] 0) :: (x, instObj 171 dx) :: (dx, dictOf [⟨hsh, .str (Str.ofString "_headers") tk0, .ref hl⟩] n1) :: news) → dx < x → @LT.lt Nat _ x hl → (∀ p ∈ news, p.1 < dx) →
      m' (Str.ofString "table") = some (.ref x) → (∀ y, y ≠ Str.ofString "table" → m' y = m y) → Q .next { s with heap := h, toks := tk }) :
    wpAny (model prg w) ⟨none, dp, fr, gd, un⟩ (exec (lawSt w 13) (lawEnv w L fa cd)) Q (fun _ _ => False) s := by
  w_on; w_top on
  conv in lawSt w 13 => whnf
  unfold lawEnv
  conv in lawScope w => whnf
  dsimp only [KF, TopP, prg] at KX T ⊢
  revert KX; k_fill; intro KX
  (iterate 4 (first | (k_unfold; (try dsimp only)) | (k_end; wrow_close) | walk1 | (dsimp only; walk1) | (leave1; try dsimp only)))
  show wpAny _ (Around.mk none dp fr gd un) (call (.ref 171) []) _ _ _
  refine wpAny_call ?_
  refine make_K F N (KX.keeps F.keep) rfl rfl rfl fun x dx h1 F1 N1 hlt hdx => ?_
  have hn0 : ∀ p ∈ [(x, instObj 171 dx), (dx, emptyDict)], h1.get? p.1 = some p.2 ∧ base.get? p.1 = none := fun p hp => by
    rcases List.mem_cons.mp hp with rfl | hp
    · exact ⟨N1.get (.head _), N1.fresh (.head _)⟩
    · rcases List.mem_cons.mp hp with rfl | hp
      · exact ⟨N1.get (.tail _ (.head _)), N1.fresh (.tail _ (.head _))⟩
      · cases hp
  refine enterKN (news := [(x, instObj 171 dx), (dx, emptyDict)]) (f := 63) F1.keep hn0 KX T rfl rfl (by unfold recursionLimit; show dp + 1 < _; omega) (binds_K (KX.keeps F1.keep) rfl (by rfl) rfl rfl rfl) (locs rfl) (fun g h₁ hg1 hg2 F2 N2 KG TG => ?_) (by decide) rfl rfl rfl
  w_binds F2
  have F := F2; have N := N2
  have hxL : x ≠ L := (N1 _ (.head _)).2.1
  have hdL : dx ≠ L := (N1 _ (.tail _ (.head _))).2.1
  have fr1 : ∀ h', (∀ b o, b ≠ x → b ≠ dx → h1.get? b = some o → h'.get? b = some o) → Fr base L h' m := fun h' hk =>
    ⟨F1.ns.at' fun o e => hk L o hxL.symm hdL.symm e, fun b o e => hk b o (fun q => by have := (hn0 _ (.head _)).2; rw [← q, e] at this; cases this) (fun q => by have := (hn0 _ (.tail _ (.head _))).2; rw [← q, e] at this; cases this) (F1.keep b o e), F1.above⟩
  have nw1 : ∀ h', (∀ b o, b ≠ x → b ≠ dx → h1.get? b = some o → h'.get? b = some o) → News base L h' news := fun h' hk p hp =>
    ⟨hk _ _ (Nat.ne_of_lt (Nat.lt_trans (hlt p hp) hdx)) (Nat.ne_of_lt (hlt p hp)) (N1 p (.tail _ (.tail _ hp))).1, (N1 p (.tail _ (.tail _ hp))).2⟩
  have hbs : base.objs.size ≤ h1.objs.size := Nat.le_of_lt (Nat.lt_of_le_of_lt F1.above F1.ns.lt)
  have hLo := F1.ns
  have hx1 : x < h1.objs.size := Heap.lt_size (hn0 _ (.head _)).1
  clear F1 N1 F2 N2
  have hdx2 : @LT.lt Nat _ dx x := hdx
  (iterate 48 (first | (k_unfold; (try dsimp only)) | (k_end; wrow_close) | walk1 | (dsimp only; walk1) | (leave1; try dsimp only)))
  (with_reducible rename Fr _ _ _ _ => F8); (with_reducible rename News _ _ _ _ => N8)
  refine ⟨rfl, ?_⟩
  dsimp only
  have hk := fun b o (q1 : b ≠ x) (q2 : b ≠ dx) (e : h1.get? b = some o) => F8.keep b o (hg2 b o (by simp [q1, q2]) e)
  have F9 := fr1 _ hk
  have N9 := nw1 _ hk
  have hl0 := N8 _ (.head _)
  have hlb : ∀ {b : Addr}, g.get? b = none → base.get? b = none := fun {b} e => by
    cases q : base.get? b with
    | none => rfl
    | some o => rw [hg1 b o q] at e; cases e
  have hlL : ∀ {b : Addr}, g.get? b = none → b ≠ L := fun {b} e q => by
    obtain ⟨o, _, _, ho, _⟩ := hLo
    rw [q, hg2 L o (by simp [hxL.symm, hdL.symm]) ho] at e; cases e
  have hx0 := N8 _ (.tail _ (.head _))
  have hd0 := N8 _ (.tail _ (.tail _ (.head _)))
  have hl1 := consN hl0.1 (hlL hl0.2.2) (hlb hl0.2.2) (consN hx0.1 hxL (hn0 _ (.head _)).2 (consN hd0.1 hdL (hn0 _ (.tail _ (.head _))).2 N9))
  clear hx0 hd0
  clear hl0 F8 N8 N9
  (iterate 1 (first | (k_unfold; (try dsimp only)) | (k_end; wrow_close) | walk1 | (dsimp only; walk1) | (leave1; try dsimp only)))
  (with_reducible rename Fr _ _ _ _ => F10); (with_reducible rename News _ _ _ _ => N10)
  rename (x < _ ∧ dx < _) => lx
  exact hQ _ _ _ _ _ _ _ _ _ F10 N10 hdx lx.1 hlt (if_pos rfl) (fun y hy => if_neg hy)
end Mine
end
section
open PySem PySem.W PyProof.Rows PySem.Calls
namespace Mine
set_option maxRecDepth 100000
set_option maxHeartbeats 1000000
theorem rangeLoopN {prog : Program} {w : World} {A : Around} {E : Value → Shared → Prop} {s : Shared} {body : List Stmt} {x : Str} {px : Pos} {env : Env} {R : Result → Shared → Prop} {base : Heap} {L : Addr} {m : Str → Option Value} {news : List (Addr × Obj)} {r : Addr} {a b : Int} {t u v : Tok} {n : Nat}
    (hh : A.handled = none) (hr : IsRange s.heap r a b 1 t u v) (hsmall : Builtin.Range.small a b 1 = true) (hn : Builtin.Range.rangeSize a b 1 = (n : Int)) (F : Fr base L s.heap m) (N : News base L s.heap news)
    (Inv : Nat → (Str → Option Value) → List (Addr × Obj) → Prop) (h0 : Inv 0 m news) (hoff : ∀ i m news, Inv i m news → ∀ p ∈ news, p.1 ≠ s.heap.objs.size)
    (turn : ∀ i h tk t m news, i < n → Inv i m news → Fr base L h m → News base L h ((s.heap.objs.size, riObj (a + (i + 1 : Nat)) ((n : Int) - (i + 1 : Nat))) :: news) → s.heap.objs.size < h.objs.size →
      wpAny (model prog w) A (assign (.Name x px) env (.int (a + (i : Nat)) t)) (fun _ s₂ => wpAny (model prog w) A (execs body env) (BodyEnds base L s s.heap.objs.size (riObj (a + (i + 1 : Nat)) ((n : Int) - (i + 1 : Nat))) (Inv (i + 1))) (fun _ _ => False) s₂) (fun _ _ => False) { s with heap := h, toks := tk })
    (done : ∀ h tk m news, Inv n m news → Fr base L h m → News base L h news → R (.ok .next) { s with heap := h, toks := tk }) :
    wpAny (model prog w) A (pyIter (.ref r)) (fun it s₂ => codeAny (model prog w) A (.forLoop (.Name x px) it body [] env) R s₂) E s := by
  refine wpAny_pyIter_range hr hsmall ?_
  have hI : base.get? s.heap.objs.size = none := next_is_new F
  have hLI : L ≠ s.heap.objs.size := Nat.ne_of_lt F.ns.lt
  refine forLoop_ok (fun k s' => ∃ (i : Nat) (h : Heap) (tk : Nat) (m : Str → Option Value) (news : List (Addr × Obj)), s' = { s with heap := h, toks := tk } ∧ k = n - i ∧ i ≤ n ∧ Inv i m news ∧ Fr base L h m ∧ News base L h ((s.heap.objs.size, riObj (a + (i : Nat)) ((n : Int) - (i : Nat))) :: news)) ?_ n ?_
  · rintro k s' ⟨i, h, tk, m, news, rfl, rfl, hi, hinv, F, N⟩
    have hit : IsRangeIter h s.heap.objs.size (a + (i : Nat)) ((n : Int) - (i : Nat)) 1 := (N _ (.head _)).1
    have hnI : ∀ p ∈ news, p.1 ∉ [s.heap.objs.size] := fun p hp => by simpa using hoff i m news hinv p hp
    by_cases hlt : i < n
    · refine wpAny_pyNext_range_item hit (by omega) fun h' hit' hs' => ?_
      dsimp only
      refine wpAny_pure ?_
      have hk : ∀ b o, b ∉ [s.heap.objs.size] → h.get? b = some o → h'.get? b = some o := fun b o hb e => hs'.extBut b o (by simpa using hb) e
      have F2 : Fr base L h' m := frOff F hk (by simpa using hLI) (by simpa using hI)
      have N2 : News base L h' news := newsOff (newsTail N) hk hnI
      have e1 : a + ((i : Nat) : Int) + 1 = a + ((i + 1 : Nat) : Int) := by omega
      have e2 : (n : Int) - ((i : Nat) : Int) - 1 = (n : Int) - ((i + 1 : Nat) : Int) := by omega
      rw [e1, e2] at hit'
      refine wpAny_mono (turn i h' _ _ m news hlt hinv F2 (fun p hp => ?_) (Heap.lt_size hit')) (fun _ s₂ h₂ => ?_) fun _ _ x => x
      · rcases List.mem_cons.mp hp with rfl | hp
        · exact ⟨hit', hLI.symm, hI⟩
        · exact N2 p hp
      refine wpAny_mono h₂ (fun f s₃ h₃ => ?_) fun _ _ x => x
      obtain ⟨rfl, h3, tk3, m3, news3, rfl, F3, N3, hinv3⟩ := h₃
      exact ⟨n - (i + 1), by omega, i + 1, h3, tk3, m3, news3, rfl, rfl, hlt, hinv3, F3, N3⟩
    · have hin : i = n := by omega
      subst hin
      refine wpAny_pyNext_range_end hh hit (by omega) fun h' hx' => ?_
      dsimp only
      have hk : ∀ b o, b ∉ [s.heap.objs.size] → h.get? b = some o → h'.get? b = some o := fun b o hb e => hx' b o (by simpa using hb) e
      exact done h' _ m news hinv (frOff F hk (by simpa using hLI) (by simpa using hI)) (newsOff (newsTail N) hk hnI)
  · refine ⟨0, _, s.toks, m, news, rfl, rfl, Nat.zero_le _, h0, F.push _, fun p hp => ?_⟩
    rcases List.mem_cons.mp hp with rfl | hp
    · refine ⟨?_, hLI.symm, hI⟩
      show IsRangeIter _ _ _ _ _
      rw [hn]; simpa using Heap.get?_push_size _ rfl
    · exact ⟨Heap.get?_push_of_some _ (N p hp).1, (N p hp).2⟩


def OffS (S : List Nat) (tl : List (Addr × Obj)) : Prop := ∀ p ∈ tl, ∀ a ∈ S, p.1 ≠ a
theorem offNe {S : List Nat} {tl : List (Addr × Obj)} {c : Nat} (h : OffS S tl) (hc : c ∈ S) : ∀ p ∈ tl, p.1 ≠ c := fun p hp => h p hp c hc
structure EntsN (base : Heap) (tl : List (Addr × Obj)) (items : Array Value) (es : List (Str × Str)) : Prop where
  size : items.size = es.length
  ent : ∀ (j : Nat) (e : Str × Str), es[j]? = some e → ∃ (T : Addr) (tk tv : Tok) (o : Obj), items[j]? = some (Value.ref T) ∧ ((T, o) ∈ tl ∨ base.get? T = some o) ∧ o.cls = .type "tuple" ∧ ∃ n, o.data = .seq #[.str e.1 tk, .str e.2 tv] n
theorem EntsN.nil (base : Heap) : EntsN base [] #[] [] := ⟨rfl, fun j e h => by simp at h⟩
theorem EntsN.ents {base h : Heap} {tl : List (Addr × Obj)} {items : Array Value} {es : List (Str × Str)} (x : EntsN base tl items es) (hb : ∀ b o, base.get? b = some o → h.get? b = some o) (ht : ∀ p ∈ tl, h.get? p.1 = some p.2) : Ents h items es :=
  ⟨x.size, fun j e he => by
    obtain ⟨T, tk, tv, o, h1, h2, h3, n, h4⟩ := x.ent j e he
    refine ⟨T, tk, tv, h1, o, ?_, h3, n, h4⟩
    rcases h2 with h2 | h2
    · exact ht _ h2
    · exact hb _ _ h2⟩
theorem EntsN.push {base h : Heap} {tl : List (Addr × Obj)} {items : Array Value} {es : List (Str × Str)} {TT : Addr} {nm val : Str} {t tv : Tok} (x : EntsN base tl items es) (hT : h.IsTuple TT #[.str nm t, .str val tv]) :
    ∃ o, h.get? TT = some o ∧ EntsN base ((TT, o) :: tl) (items.push (.ref TT)) (es ++ [(nm, val)]) := by
  obtain ⟨o, ho, hc, n, hd⟩ := hT
  refine ⟨o, ho, by simp [x.size], fun j e he => ?_⟩
  rcases Nat.lt_trichotomy j es.length with hj | hj | hj
  · rw [List.getElem?_append_left hj] at he
    obtain ⟨T, tk, tv, o', h1, h2, h3⟩ := x.ent j e he
    refine ⟨T, tk, tv, o', ?_, h2.imp (fun q => .tail _ q) id, h3⟩
    rw [Array.getElem?_push_lt (by rw [x.size]; exact hj)]
    rw [Array.getElem?_eq_getElem (by rw [x.size]; exact hj)] at h1
    exact h1
  · subst hj
    simp at he
    subst he
    exact ⟨TT, t, tv, o, by rw [← x.size]; simp, .inl (.head _), hc, n, hd⟩
  · rw [List.getElem?_eq_none (by rw [List.length_append, List.length_singleton]; omega)] at he; cases he
def prsJ (j : Nat) : List (Nat × Nat) := (List.range j).flatMap fun a => (List.range a).map fun b => (a, b)
def prs (j i : Nat) : List (Nat × Nat) := prsJ j ++ (List.range i).map fun b => (j, b)
theorem prs_zero (j : Nat) : prs j 0 = prsJ j := by simp [prs]
theorem prs_full (j : Nat) : prs j j = prsJ (j + 1) := by simp [prs, prsJ, List.range_succ]
theorem prs_succ (j i : Nat) : prs j (i + 1) = prs j i ++ [(j, i)] := by simp [prs, List.range_succ]
def ltr (b : Nat) : Str := ⟨#[97 + b]⟩
def wn (cs : List Nat) (j i : Nat) : Nat := 32 * (j - i) + 16 + cs.getD j 0 - cs.getD i 0
def wordOf (cs : List Nat) (j i : Nat) : Str := apStr (hexs 3 (wn cs j i))
def valOf (j i : Nat) : Str := ⟨#[97 + i, 97 + j]⟩
def entOf (cs : List Nat) (p : Nat × Nat) : Str × Str := (wordOf cs p.1 p.2, valOf p.1 p.2)
end Mine
end
section
open PySem PySem.W PyProof.Rows PySem.Calls
namespace Mine
set_option maxRecDepth 100000
set_option maxHeartbeats 1000000
open Builtin
theorem road_ascii {id : String} {b : Array UInt8} : _codecs.decodeRoad id b (PySem.Str.ofString "ascii") none [] = (_codecs.runDecoder id _codecs.asciiDecoder none true b 0 [] >>= fun r => mkStr ⟨r.1⟩) := by kernel_rfl
theorem entry_ascii {c : UInt8} {cs : List UInt8} {t te : Tok} : «bytes.decode» ⟨[.bytes (c :: cs).toArray t, .str (PySem.Str.ofString "ascii") te], []⟩ = (mkStr (PySem.Str.ofString "utf-8") >>= fun _ => mkStr (PySem.Str.ofString "ascii") >>= fun e => mkStr (PySem.Str.ofString "bytes.decode") >>= fun d =>
    call (.builtin "_codecs.decode.text") [.bytes (c :: cs).toArray t, e, .none, d] >>= fun v => ret v) := by kernel_rfl
theorem run1 (id : String) (a : UInt8) (ha : a.toNat < 128) : _codecs.runDecoder id _codecs.asciiDecoder none true #[a] 0 [] = pure (#[a.toNat], 1) := by
  unfold _codecs.runDecoder
  simp [Std.Legacy.Range.forIn_eq_forIn_range', Std.Legacy.Range.size, List.range', _codecs.asciiDecoder, ha, _codecs.Found.char, sizeLine_eq]
theorem run2 (id : String) (a b : UInt8) (ha : a.toNat < 128) (hb : b.toNat < 128) : _codecs.runDecoder id _codecs.asciiDecoder none true #[a, b] 0 [] = pure (#[a.toNat, b.toNat], 2) := by
  unfold _codecs.runDecoder
  simp [Std.Legacy.Range.forIn_eq_forIn_range', Std.Legacy.Range.size, List.range', _codecs.asciiDecoder, ha, hb, _codecs.Found.char, sizeLine_eq]
theorem run3 (id : String) (a b c : UInt8) (ha : a.toNat < 128) (hb : b.toNat < 128) (hc : c.toNat < 128) : _codecs.runDecoder id _codecs.asciiDecoder none true #[a, b, c] 0 [] = pure (#[a.toNat, b.toNat, c.toNat], 3) := by
  unfold _codecs.runDecoder
  simp [Std.Legacy.Range.forIn_eq_forIn_range', Std.Legacy.Range.size, List.range', _codecs.asciiDecoder, ha, hb, hc, _codecs.Found.char, sizeLine_eq]
theorem u8lt {d : Nat} (h : d < 16) : (UInt8.ofNat (65 + d)).toNat = 65 + d := by
  have : ∀ d : Fin 16, (UInt8.ofNat (65 + d.val)).toNat = 65 + d.val := by decide
  exact this ⟨d, h⟩
theorem runAp (id : String) (l : List Nat) (h1 : l.length ≤ 3) (h2 : ∀ d ∈ l, d < 16) (h0 : l ≠ []) : ∃ n, _codecs.runDecoder id _codecs.asciiDecoder none true (apArr l) 0 [] = pure ((apStr l).cps, n) := by
  match l, h1, h2, h0 with
  | [a], _, h2, _ =>
    have ha := u8lt (h2 a (by simp))
    refine ⟨1, ?_⟩
    show _codecs.runDecoder id _codecs.asciiDecoder none true #[UInt8.ofNat (65 + a)] 0 [] = pure (#[65 + a], 1)
    have hA := h2 a (by simp)
    rw [run1 id _ (by omega), ha]
  | [a, b], _, h2, _ =>
    have ha := u8lt (h2 a (by simp))
    have hb := u8lt (h2 b (by simp))
    have hA := h2 a (by simp)
    have hB := h2 b (by simp)
    refine ⟨2, ?_⟩
    show _codecs.runDecoder id _codecs.asciiDecoder none true #[UInt8.ofNat (65 + a), UInt8.ofNat (65 + b)] 0 [] = pure (#[65 + a, 65 + b], 2)
    rw [run2 id _ _ (by omega) (by omega), ha, hb]
  | [a, b, c], _, h2, _ =>
    have ha := u8lt (h2 a (by simp))
    have hb := u8lt (h2 b (by simp))
    have hc := u8lt (h2 c (by simp))
    have hA := h2 a (by simp)
    have hB := h2 b (by simp)
    have hC := h2 c (by simp)
    refine ⟨3, ?_⟩
    show _codecs.runDecoder id _codecs.asciiDecoder none true #[UInt8.ofNat (65 + a), UInt8.ofNat (65 + b), UInt8.ofNat (65 + c)] 0 [] = pure (#[65 + a, 65 + b, 65 + c], 3)
    rw [run3 id _ _ _ (by omega) (by omega) (by omega), ha, hb, hc]
theorem textAscii {b : Array UInt8} {t t1 t2 : Tok} {d x : PySem.Str} {n : String → Nat} (hd : ∀ id, _codecs.runDecoder id _codecs.asciiDecoder none true b 0 [] = pure (x.cps, n id)) :
    Meets («_codecs.decode.text» ⟨[.bytes b t, .str (PySem.Str.ofString "ascii") t1, .none, .str d t2], []⟩) (fun _ R s => x.length ≤ sizeLine ∧ R (.ok (.ret (.str x s.toks))) { s with toks := s.toks + 1 }) := by
  refine .of_wp fun prog w A R s hS => ?_
  obtain ⟨hsz, h⟩ := hS
  show wpAny _ _ (Bytes.bytesLike _ (.bytes b t) >>= fun r => _) _ _ s
  refine wpAny_bind (wpAny_of_eq KBd.like_eq ?_)
  refine wpAny_bind (wpAny_of_eq KBd.held_eq ?_)
  show wpAny _ _ (_codecs.decodeRoad _ b (PySem.Str.ofString "ascii") none [] >>= fun v => _) _ _ s
  rw [road_ascii, hd]
  refine wpAny_bind (wpAny_bind (wpAny_pure ?_))
  exact wpAny_mkStr (wpAny_pure ⟨_, rfl, h⟩) hsz
theorem meetsAscii {c : UInt8} {cs : List UInt8} {t te : Tok} {x : PySem.Str} {n : String → Nat} (hd : ∀ id, _codecs.runDecoder id _codecs.asciiDecoder none true (c :: cs).toArray 0 [] = pure (x.cps, n id)) :
    Meets («bytes.decode» ⟨[.bytes (c :: cs).toArray t, .str (PySem.Str.ofString "ascii") te], []⟩) (fun _ R s => x.length ≤ sizeLine ∧ ∀ t' k, R (.ok (.ret (.str x t'))) { s with toks := k }) := by
  refine .of_wp fun prog w A R s hS => ?_
  obtain ⟨hsz, h⟩ := hS
  rw [entry_ascii]
  refine wpAny_bind (wpAny_mkStr ?_ (by decide))
  refine wpAny_bind (wpAny_mkStr ?_ (by decide))
  refine wpAny_bind (wpAny_mkStr ?_ (by decide))
  exact wpAny_bind (call_function_meets KBd.kind_text KBd.plain_text KBd.entry_text (KBd.args_text _ _ _ _) (textAscii hd) ⟨hsz, wpAny_pure ⟨_, rfl, h _ _⟩⟩)
theorem args_decode_2 (a b : Value) : argsOk "bytes.decode" ⟨[a, b], []⟩ := by
  unfold argsOk; rw [signature?_of (id := "bytes.decode") (n := ['e', 'd', 'o', 'c', 'e', 'd']) (o := ['s', 'e', 't', 'y', 'b']) (by kernel_rfl) PySem.W.FB.owner_bytes]; kernel_rfl
theorem hexs_lt : ∀ (f n : Nat), ∀ d ∈ hexs f n, d < 16
  | 0, _, d, h => by simp [hexs] at h
  | f + 1, n, d, h => by
    unfold hexs at h
    split at h
    · simp at h
    · rcases List.mem_append.mp h with h | h
      · exact hexs_lt f _ d h
      · simp at h; omega
theorem decodeAp {prog : Program} {w : World} {A : Around} {E : Value → Shared → Prop} {s : Shared} {n : Nat} {t te : Tok} {Q : Value → Shared → Prop} (hn : n ≠ 0) (h : ∀ t' k, Q (.str (apStr (hexs 3 n)) t') { s with toks := k }) :
    wpAny (model prog w) A (call (.builtin "bytes.decode") [.bytes (apArr (hexs 3 n)) t, .str (PySem.Str.ofString "ascii") te]) Q E s := by
  have h0 : hexs 3 n ≠ [] := by unfold hexs; rw [if_neg hn]; simp
  have hd := fun id => runAp id (hexs 3 n) (hexs_len 3 n) (hexs_lt 3 n) h0
  obtain ⟨f, hf⟩ := Classical.skolem.mp hd
  have hsz : (apStr (hexs 3 n)).length ≤ sizeLine := by rw [apStr_len, sizeLine_eq]; have := hexs_len 3 n; omega
  revert hf hsz h
  generalize apStr (hexs 3 n) = x
  intro h hf hsz
  revert hf
  cases e : hexs 3 n with
  | nil => exact absurd e h0
  | cons c cs =>
    intro hf
    exact call_meets FB.slot_bytes_decode (typeIs_bytes _ _ _) FB.entry_bytes_decode (args_decode_2 _ _) (meetsAscii (c := UInt8.ofNat (65 + c)) (cs := cs.map fun d => UInt8.ofNat (65 + d)) hf) ⟨hsz, h⟩
end Mine
end
section
open PySem PySem.W PyProof.Rows PySem.Calls
namespace Mine
set_option maxRecDepth 100000
set_option maxHeartbeats 1000000
noncomputable def dblBody (w : World) : List Stmt := match lawSt w 14 with | .For _ _ [.For _ _ b _ _] _ _ => b | _ => []
abbrev tabNews (L x dx hl : Addr) (hsh : Int) (tk0 : Tok) (n1 n2 : Nat) (items : Array Value) : List (Addr × Obj) :=
  [(hl, listOf items n2), (x, instObj 171 dx), (dx, dictOf [⟨hsh, .str (Str.ofString "_headers") tk0, .ref hl⟩] n1)]

theorem ltr_item {b : Nat} (h : b < 10) : Txt.item (Str.ofString "abcdefghij") (b : Int) = ltr b := by
  have : ∀ b : Fin 10, Txt.item (Str.ofString "abcdefghij") ((b.val : Nat) : Int) = ltr b.val := by decide +kernel
  exact this ⟨b, h⟩
theorem getDCast (cs : List Nat) (k : Nat) : (cs.map fun (c : Nat) => (c : Int)).getD k 0 = ((cs.getD k 0 : Nat) : Int) := by
  rw [List.getD_eq_getElem?_getD, List.getD_eq_getElem?_getD, List.getElem?_map]
  cases cs[k]? <;> rfl
theorem ltrApp {i j : Nat} : ltr i ++ ltr j = valOf j i := by
  show (⟨#[97 + i] ++ #[97 + j]⟩ : Str) = ⟨#[97 + i, 97 + j]⟩
  simp
theorem newsNe {g h : Heap} {L TT : Addr} {news : List (Addr × Obj)} (N : News g L h news) (hf : h.get? TT = none) : ∀ q ∈ news, TT ≠ q.1 := fun q hq e => by
  have h1 := (N q hq).1
  rw [← e, hf] at h1; cases h1
theorem see3 {m : Str → Option Value} {x x' x'' : Str} {v v' v'' : Value} (e : m x = some v) (e' : m x' = some v') (e'' : m x'' = some v'') (y : Str) : (if y = x'' then some v'' else if y = x' then some v' else if y = x then some v else m y) = m y := by
  by_cases h3 : y = x''
  · rw [if_pos h3, h3, e'']
  · rw [if_neg h3]; exact see2 e e' y
theorem stPair {w : World} {mean : ExcName → Option Value} {mg mb : Str → Option Value} {dp un : Nat} {fr : Option (List Env)} {gd : Option (List Code)} {s : Shared} {base : Heap} {Q : Flow → Shared → Prop} {L fa : Addr} {cd : Value} {m : Str → Option Value}
    (KX : (KF w).In base) (T : TopP mean mg mb base) (hdp : dp < 420) (hun : un < 20) {oa oi oj oc ov opw opr orw osc : Obj} {x dx hl lr : Addr} {hsh : Int} {tk0 : Tok} {n1 n2 nr : Nat} {items : Array Value} {rd : List Value} {rest tps : List (Addr × Obj)} {tl ti tj : Tok}
    {cs : List Nat} {j i : Nat} {es : List (Str × Str)}
    (F : Fr base L s.heap m) (N : News base L s.heap (tabNews L x dx hl hsh tk0 n1 n2 items ++ (lr, listOf (List.toArray rd) nr) :: (cellsL L oa oi oj oc ov opw opr orw osc ++ rest)))
    (hm1 : m (Str.ofString "table") = some (.ref x)) (hm2 : m (Str.ofString "letters") = some (.str (Str.ofString "abcdefghij") tl)) (hm3 : m (Str.ofString "read") = some (.ref lr))
    (hci : oi.data = .cell (some (.int (i : Int) ti))) (hcj : oj.data = .cell (some (.int (j : Int) tj)))
    (hrd : IntsAre rd (cs.map fun (c : Nat) => (c : Int))) (hij : i < j) (hj : j < cs.length) (hcl : cs.length < 11) (hcb : ∀ c ∈ cs, c < 16)
    (htps : ∀ p ∈ tps, p ∈ rest) (hE : EntsN base tps items es) (hlen : es.length < 1000) (hsm : ∀ e ∈ es, e.1.cps.size < 1000)
    (hc1 : Clean (wordOf cs j i)) (hc2 : Clean (Txt.lower (wordOf cs j i))) (hc3 : Clean (valOf j i)) (hnone : hfind es (Txt.lower (wordOf cs j i)) = none)
    (e1 : @LT.lt Nat _ (L + 9) lr) (e2 : @LT.lt Nat _ lr dx) (e3 : @LT.lt Nat _ dx x) (e4 : @LT.lt Nat _ x hl) (hoff : ∀ p ∈ rest, p.1 ≠ hl)
    (hQ : ∀ h tk m' n' TT o, Fr base L h m' → News base L h (tabNews L x dx hl hsh tk0 n1 n' (items.push (.ref TT)) ++ (lr, listOf (List.toArray rd) nr) :: (cellsL L oa oi oj oc ov opw opr orw osc ++ (TT, o) :: rest)) →
      EntsN base ((TT, o) :: tps) (items.push (.ref TT)) (es ++ [entOf cs (j, i)]) → (∀ q ∈ tabNews L x dx hl hsh tk0 n1 n2 items ++ (lr, listOf (List.toArray rd) nr) :: (cellsL L oa oi oj oc ov opw opr orw osc ++ rest), TT ≠ q.1) →
      (∀ y, y ≠ Str.ofString "value" → y ≠ Str.ofString "word" → m' y = m y) → Q .next { s with heap := h, toks := tk }) :
    wpAny (model prg w) ⟨none, dp, fr, gd, un⟩ (execs (dblBody w) (lawEnv w L fa cd)) Q (fun _ _ => False) s := by
  w_on; w_top on
  have KX0 := KX
  have T0 := T
  conv in dblBody w => whnf
  unfold lawEnv
  conv in lawScope w => whnf
  dsimp only [KF, TopP, prg] at KX T ⊢
  revert KX; k_fill; intro KX
  dsimp only [tabNews, cellsL, List.cons_append, List.nil_append] at N hQ
  replace F := seeF F hm1
  replace F := seeF (x := Str.ofString "letters") F hm2
  replace F := seeF (x := Str.ofString "read") F hm3
  have hrl : rd.length = cs.length := by rw [hrd.length]; simp
  have hcsl : (cs.map fun (c : Nat) => (c : Int)).length = cs.length := by simp
  have hi10 : i < 10 := by omega
  have hj10 : j < 10 := by omega
  have hl10 : Str.length (Str.ofString "abcdefghij") = 10 := by decide +kernel
  (iterate 11 (first | (k_unfold; (try dsimp only)) | (k_end; wrow_close) | walk1 | (dsimp only; walk1) | (leave1; try dsimp only)))
  rw [ltr_item hi10, ltr_item hj10]
  (iterate 32 (first | (k_unfold; (try dsimp only)) | (k_end; wrow_close) | walk1 | (dsimp only; walk1) | (leave1; try dsimp only)))
  (with_reducible rename Fr _ _ _ _ => F1); (with_reducible rename News _ _ _ _ => N1)
  refine ⟨KX.keeps F1.keep, ?_⟩
  have hci16 : cs.getD i 0 < 16 := by
    rw [List.getD_eq_getElem?_getD, List.getElem?_eq_getElem (by omega)]; exact hcb _ (List.getElem_mem _)
  have hcj16 : cs.getD j 0 < 16 := by
    rw [List.getD_eq_getElem?_getD, List.getElem?_eq_getElem (by omega)]; exact hcb _ (List.getElem_mem _)
  have hwi : (32 * ((j : Int) - (i : Int)) + 16 + (cs.map fun (c : Nat) => (c : Int)).getD ((j : Int)).toNat 0 - (cs.map fun (c : Nat) => (c : Int)).getD ((i : Int)).toNat 0) = ((wn cs j i : Nat) : Int) := by
    rw [getDCast, getDCast]
    unfold wn
    simp only [Int.toNat_natCast]
    omega
  have hwl : wn cs j i < 16 ^ 3 := by unfold wn; omega
  rw [hwi]
  dsimp only
  show wpAny _ (Around.mk none dp fr gd un) (call (.ref 189) [.int ((wn cs j i : Nat) : Int) _]) _ _ _
  refine int2ap (wn cs j i) hwl _ (KX0.keeps F1.keep) (T0.keeps F1.keep) (by omega) (by omega) ?_
  intro t2 h2 tk2 hk2
  replace F1 := frKeep F1 hk2
  replace N1 := newsKeep N1 hk2
  (iterate 5 (first | (k_unfold; (try dsimp only)) | (k_end; wrow_close) | walk1 | (dsimp only; walk1) | (leave1; try dsimp only)))
  show wpAny _ (Around.mk none dp fr gd un) (call (.builtin "bytes.decode") [.bytes (apArr (hexs 3 (wn cs j i))) t2, .str (PySem.Str.ofString "ascii") _]) _ _ _
  refine decodeAp (by unfold wn; omega) fun t4 k4 => ?_
  (iterate 14 (first | (k_unfold; (try dsimp only)) | (k_end; wrow_close) | walk1 | (dsimp only; walk1) | (leave1; try dsimp only)))
  (with_reducible rename Fr _ _ _ _ => F2); (with_reducible rename News _ _ _ _ => N2)
  refine ⟨KX.keeps F2.keep, ?_⟩
  rw [ltrApp]
  rw [ltrApp] at F2
  show wpAny _ (Around.mk none dp fr gd un) (call (.ref 161) [.ref x, .str (wordOf cs j i) t4, .str (valOf j i) _]) _ _ _
  have kHl := N2 _ (.head _)
  have kX := N2 _ (.tail _ (.head _))
  have kD := N2 _ (.tail _ (.tail _ (.head _)))
  have hEn := hE.ents F2.keep (fun p hp => (N2 p (by (iterate 13 (refine List.Mem.tail _ ?_)); exact htps p hp)).1)
  have hH0 : HdrAt _ x dx hl hsh tk0 n1 n2 items := ⟨kX.1, kD.1, kHl.1⟩
  refine hset (base := base) F2.keep KX0 T0 (by omega) (by omega) (es := es) hH0 hEn kX.2.2 kD.2.2 kHl.2.2 e3 hsm hlen (wordOf cs j i) (valOf j i) _ _ hc1 hc2 hc3 hnone fun n' TT h5 tk5 hH hT hk hfr => ?_
  obtain ⟨o, ho, hE5⟩ := hE.push hT
  have hk5 : ∀ b ob, b ∉ [hl] → _ → h5.get? b = some ob := fun b ob hb e => hk b ob (by simpa using hb) e
  have F5 := frOff F2 hk5 (by simpa using kHl.2.1.symm) (by simpa using kHl.2.2)
  have hTL : TT ≠ L := fun q => by
    obtain ⟨o', _, _, ho', _⟩ := F2.ns
    rw [q, ho'] at hfr; cases hfr
  have hTB : base.get? TT = none := by
    cases e : base.get? TT with
    | none => rfl
    | some o' => rw [F2.keep TT o' e] at hfr; cases hfr
  have hTN := newsNe N2 hfr
  have N3 := newsTail N2
  have N5 := consN ho hTL hTB (consN hH.list kHl.2.1 kHl.2.2 (newsOff N3 hk5 (by
    intro p hp
    simp only [List.mem_cons, List.not_mem_nil, or_false] at hp ⊢
    rcases hp with rfl | rfl | rfl | rfl | rfl | rfl | rfl | rfl | rfl | rfl | rfl | rfl | hp
    · refine neN ?_; dsimp only; omega
    · refine neN ?_; dsimp only; omega
    · refine neN ?_; dsimp only; omega
    · refine neN ?_; dsimp only; omega
    · refine neN ?_; dsimp only; omega
    · refine neN ?_; dsimp only; omega
    · refine neN ?_; dsimp only; omega
    · refine neN ?_; dsimp only; omega
    · refine neN ?_; dsimp only; omega
    · refine neN ?_; dsimp only; omega
    · refine neN ?_; dsimp only; omega
    · refine neN ?_; dsimp only; omega
    · exact hoff p hp)))
  clear F2 N2 N3 hk hk5 hH kX kD kHl
  (iterate 4 (first | (k_unfold; (try dsimp only)) | (k_end; wrow_close) | walk1 | (dsimp only; walk1) | (leave1; try dsimp only)))
  · rename (_ != _) = true => hcc
    rw [bne_self_eq_false] at hcc
    cases hcc
  · refine wpAny_execs_nil (wpAny_execs_nil ?_)
    refine hQ _ _ _ n' TT o F5 (News.sub N5 ?_) hE5 hTN (fun y h1 h2 => ?_)
    · refine List.forall_mem_cons.mpr ⟨.tail _ (.head _), ?_⟩
      iterate 12 (refine List.forall_mem_cons.mpr ⟨by k_mem, ?_⟩)
      refine List.forall_mem_cons.mpr ⟨.head _, fun p hp => ?_⟩
      iterate 14 (refine List.Mem.tail _ ?_)
      exact hp
    · rw [if_neg h2, if_neg h1]
      exact see3 hm1 hm2 hm3 y
end Mine
end
section
open PySem PySem.W PyProof.Rows PySem.Calls
namespace Mine
set_option maxRecDepth 100000
set_option maxHeartbeats 1000000
local macro_rules | `(tactic| k_all) => `(tactic| (refine' offNe ?a ?b; (case a => assumption); (case b => k_mem)))
noncomputable def innerFor (w : World) : Stmt := match lawSt w 14 with | .For _ _ [st] _ _ => st | _ => default
abbrev cellAds (L : Addr) : List Nat := [L + 1 + 1 + 1 + 1 + 1 + 1 + 1 + 1 + 1, L + 1 + 1 + 1 + 1 + 1 + 1 + 1 + 1, L + 1 + 1 + 1 + 1 + 1 + 1 + 1, L + 1 + 1 + 1 + 1 + 1 + 1, L + 1 + 1 + 1 + 1 + 1, L + 1 + 1 + 1 + 1, L + 1 + 1 + 1, L + 1 + 1, L + 1]
/-- what the whole table asks of the plain powers -/
structure Costas (cs : List Nat) (M : Nat) : Prop where
  len : cs.length = M
  lt : ∀ c ∈ cs, c < 16
  clean : ∀ j i, i < j → j < M → Clean (wordOf cs j i) ∧ Clean (Txt.lower (wordOf cs j i)) ∧ Clean (valOf j i)
  none : ∀ j i, i < j → j < M → hfind ((prs j i).map (entOf cs)) (Txt.lower (wordOf cs j i)) = none
theorem prs_len (j i : Nat) (hj : j < 11) (hi : i ≤ j) : (prs j i).length < 200 := by
  have h : ∀ j, (prsJ j).length ≤ j * j := by
    intro j
    induction j with
    | zero => decide
    | succ n ih =>
      have : prsJ (n + 1) = prsJ n ++ (List.range n).map fun b => (n, b) := by simp [prsJ, List.range_succ]
      rw [this, List.length_append, List.length_map, List.length_range, Nat.add_mul]
      have h2 : n * (n + 1) = n * n + n := by rw [Nat.mul_add, Nat.mul_one]
      omega
  have := h j
  have h3 : j * j ≤ 10 * 10 := Nat.mul_le_mul (by omega) (by omega)
  simp only [prs, List.length_append, List.length_map, List.length_range]
  omega
theorem word_small {cs : List Nat} {es : List (Nat × Nat)} : ∀ e ∈ es.map (entOf cs), e.1.cps.size < 1000 := fun e he => by
  obtain ⟨p, _, rfl⟩ := List.mem_map.mp he
  have : (apStr (hexs 3 (wn cs p.1 p.2))).length ≤ 3 := by rw [apStr_len]; exact hexs_len 3 _
  show (apStr (hexs 3 (wn cs p.1 p.2))).length < 1000
  omega

theorem offMore {L a b c : Nat} {tl : List (Addr × Obj)} (h : OffS (cellAds L ++ [a, b]) tl) (hc : ∀ p ∈ tl, p.1 ≠ c) : OffS (cellAds L ++ [a, b, c]) tl := fun p hp q hq => by
  rw [show cellAds L ++ [a, b, c] = (cellAds L ++ [a, b]) ++ [c] from rfl] at hq
  rcases List.mem_append.mp hq with hq | hq
  · exact h p hp q hq
  · rw [List.mem_singleton.mp hq]; exact hc p hp
theorem offLess {L a b c : Nat} {tl : List (Addr × Obj)} (h : OffS (cellAds L ++ [a, b, c]) tl) : OffS (cellAds L ++ [a, b]) tl := fun p hp q hq => by
  refine h p hp q ?_
  rw [show cellAds L ++ [a, b, c] = (cellAds L ++ [a, b]) ++ [c] from rfl]
  exact List.mem_append_left _ hq
theorem stInner {w : World} {mean : ExcName → Option Value} {mg mb : Str → Option Value} {dp un : Nat} {fr : Option (List Env)} {gd : Option (List Code)} {s : Shared} {base : Heap} {Q : Flow → Shared → Prop} {L fa : Addr} {cd : Value} {m : Str → Option Value}
    (KX : (KF w).In base) (T : TopP mean mg mb base) (hdp : dp < 420) (hun : un < 20) {oa oi oj oc ov opw opr orw osc ob0 : Obj} {x dx hl lr I0 : Addr} {hsh : Int} {tk0 : Tok} {n1 n2 nr : Nat} {items : Array Value} {rd : List Value} {rest tps : List (Addr × Obj)} {tl tj : Tok}
    {cs : List Nat} {j M : Nat}
    (F : Fr base L s.heap m) (N : News base L s.heap (tabNews L x dx hl hsh tk0 n1 n2 items ++ (lr, listOf (List.toArray rd) nr) :: (cellsL L oa oi oj oc ov opw opr orw osc ++ (I0, ob0) :: (tps ++ rest))))
    (hm1 : m (Str.ofString "table") = some (.ref x)) (hm2 : m (Str.ofString "letters") = some (.str (Str.ofString "abcdefghij") tl)) (hm3 : m (Str.ofString "read") = some (.ref lr))
    (hci : ∃ v, oi.data = .cell v) (hcj : oj.data = .cell (some (.int (j : Int) tj)))
    (hrd : IntsAre rd (cs.map fun (c : Nat) => (c : Int))) (hC : Costas cs M) (hj : j < M) (hM : M < 11)
    (hE : EntsN base tps items ((prs j 0).map (entOf cs)))
    (e1 : @LT.lt Nat _ (L + 9) lr) (e2 : @LT.lt Nat _ lr dx) (e3 : @LT.lt Nat _ dx x) (e4 : @LT.lt Nat _ x hl) (e5 : @LT.lt Nat _ hl I0) (hoff : OffS (cellAds L ++ [hl, I0]) tps) (hoffR : OffS (cellAds L ++ [hl, I0]) rest)
    (hQ : ∀ h tk m' n' items' oi' tps', Fr base L h m' → News base L h (tabNews L x dx hl hsh tk0 n1 n' items' ++ (lr, listOf (List.toArray rd) nr) :: (cellsL L oa oi' oj oc ov opw opr orw osc ++ (I0, ob0) :: (tps' ++ rest))) →
      EntsN base tps' items' ((prs j j).map (entOf cs)) → OffS (cellAds L ++ [hl, I0]) tps' → (∃ v, oi'.data = .cell v) →
      (∀ y, y ≠ Str.ofString "value" → y ≠ Str.ofString "word" → m' y = m y) → Q .next { s with heap := h, toks := tk }) :
    wpAny (model prg w) ⟨none, dp, fr, gd, un⟩ (exec (innerFor w) (lawEnv w L fa cd)) Q (fun _ _ => False) s := by
  w_on; w_top on
  have KX0 := KX
  have T0 := T
  conv in innerFor w => whnf
  unfold lawEnv
  conv in lawScope w => whnf
  dsimp only [KF, TopP, prg] at KX T ⊢
  revert KX; k_fill; intro KX
  refine wpAny_For ?_
  dsimp only [tabNews, cellsL, List.cons_append, List.nil_append] at N
  (iterate 7 (first | (k_unfold; (try dsimp only)) | (k_end; wrow_close) | walk1 | (dsimp only; walk1) | (leave1; try dsimp only)))
  (with_reducible rename Fr _ _ _ _ => F1); (with_reducible rename News _ _ _ _ => N1); (with_reducible rename IsRange _ _ _ _ _ _ _ _ => R1)
  try dsimp only at R1 F1 N1 ⊢
  have b1 : @LT.lt Nat _ hl _ := Heap.lt_size (N1.get (.head _))
  have bI0 : @LT.lt Nat _ I0 _ := Heap.lt_size (N1.get (by iterate 13 (refine List.Mem.tail _ ?_)
                                                           exact List.Mem.head _))
  have bT : ∀ p ∈ tps ++ rest, @LT.lt Nat _ p.1 _ := fun p hp => Heap.lt_size (N1 p (by (iterate 14 (refine List.Mem.tail _ ?_)); exact hp)).1
  rename_i h1 _ _ _ _ _
  have oT : OffS (cellAds L ++ [hl, I0, h1.objs.size]) tps := offMore hoff fun p hp => Nat.ne_of_lt (bT p (List.mem_append_left _ hp))
  have oR : OffS (cellAds L ++ [hl, I0, h1.objs.size]) rest := offMore hoffR fun p hp => Nat.ne_of_lt (bT p (List.mem_append_right _ hp))
  refine rangeLoopN (n := j) rfl R1 (small_one (by omega) (by omega) (by omega) (by omega)) (by rw [rangeSize_nat]; omega) F1 N1
    (fun i m' news => ∃ n' items' oi' tps', news = tabNews L x dx hl hsh tk0 n1 n' items' ++ (lr, listOf (List.toArray rd) nr) :: (cellsL L oa oi' oj oc ov opw opr orw osc ++ (I0, ob0) :: (tps' ++ rest)) ∧
      EntsN base tps' items' ((prs j i).map (entOf cs)) ∧ OffS (cellAds L ++ [hl, I0, h1.objs.size]) tps' ∧ (∃ v, oi'.data = .cell v) ∧ ∀ y, y ≠ Str.ofString "value" → y ≠ Str.ofString "word" → m' y = m y)
    ⟨n2, items, oi, tps, rfl, hE, oT, hci, fun _ _ _ => rfl⟩ ?_ ?_ ?_
  · rintro i m' news ⟨n', items', oi', tps', rfl, _, oT', _, _⟩ p hp
    dsimp only [tabNews, cellsL, List.cons_append, List.nil_append] at hp
    simp only [List.mem_cons] at hp
    rcases hp with rfl | rfl | rfl | rfl | rfl | rfl | rfl | rfl | rfl | rfl | rfl | rfl | rfl | rfl | hp
    iterate 14 (exact neN (by dsimp only; omega))
    rcases List.mem_append.mp hp with hp | hp
    · exact oT' p hp _ (by simp)
    · exact oR p hp _ (by simp)
  · rintro i h tk t m' news hi ⟨n', items', oi', tps', rfl, hE', oT', ⟨vi, hvi⟩, hm'⟩ F2 N2 hsz
    clear F1 N1 R1
    dsimp only [tabNews, cellsL, List.cons_append, List.nil_append] at N2
    have oTR : OffS (cellAds L ++ [hl, I0, h1.objs.size]) (tps' ++ rest) := fun p hp a ha => (List.mem_append.mp hp).elim (fun h => oT' p h a ha) fun h => oR p h a ha
    generalize hH : h1.objs.size = I1 at *
    (iterate 2 (first | (k_unfold; (try dsimp only)) | (k_end; wrow_close) | walk1 | (dsimp only; walk1) | (leave1; try dsimp only)))
    (with_reducible rename Fr _ _ _ _ => F4); (with_reducible rename News _ _ _ _ => N4)
    rename_i h4 oI dI
    rw [Int.zero_add] at dI
    have N5 : News base L h4 (tabNews L x dx hl hsh tk0 n1 n' items' ++ (lr, listOf (List.toArray rd) nr) :: (cellsL L oa oI oj oc ov opw opr orw osc ++ (I0, ob0) :: (I1, riObj (0 + (i + 1 : Nat)) ((j : Int) - (i + 1 : Nat))) :: (tps' ++ rest))) := by
      refine News.sub N4 ?_
      dsimp only [tabNews, cellsL, List.cons_append, List.nil_append]
      iterate 15 (refine List.forall_mem_cons.mpr ⟨by k_mem, ?_⟩)
      intro p hp
      iterate 15 (refine List.Mem.tail _ ?_)
      exact hp
    obtain ⟨c1, c2, c3⟩ := hC.clean j i hi hj
    refine stPair KX0 T0 hdp hun (tps := tps') F4 N5 ((hm' _ (by decide) (by decide)).trans hm1) ((hm' _ (by decide) (by decide)).trans hm2) ((hm' _ (by decide) (by decide)).trans hm3) dI hcj hrd hi (by rw [hC.len]; exact hj) (by rw [hC.len]; exact hM) hC.lt
      (fun p hp => .tail _ (.tail _ (List.mem_append_left _ hp))) hE' (by rw [List.length_map]; exact Nat.lt_trans (prs_len j i (by omega) (by omega)) (by decide)) word_small c1 c2 c3 (hC.none j i hi hj) e1 e2 e3 e4 ?_ fun h6 tk6 m6 n6 TT o F6 N6 hE6 hTN hm6 => ?_
    · intro p hp
      rcases List.mem_cons.mp hp with rfl | hp
      · exact neN (by dsimp only; omega)
      rcases List.mem_cons.mp hp with rfl | hp
      · exact neN (by dsimp only; omega)
      exact oTR p hp _ (by simp)
    · refine ⟨rfl, h6, tk6, m6, tabNews L x dx hl hsh tk0 n1 n6 (items'.push (.ref TT)) ++ (lr, listOf (List.toArray rd) nr) :: (cellsL L oa oI oj oc ov opw opr orw osc ++ (I0, ob0) :: (((TT, o) :: tps') ++ rest)), rfl, F6, News.sub N6 ?_,
        n6, items'.push (.ref TT), oI, (TT, o) :: tps', rfl, ?_, ?_, ⟨_, dI⟩, fun y h1 h2 => (hm6 y h1 h2).trans (hm' y h1 h2)⟩
      · dsimp only [tabNews, cellsL, List.cons_append, List.nil_append]
        iterate 16 (refine List.forall_mem_cons.mpr ⟨by k_mem, ?_⟩)
        intro p hp
        iterate 16 (refine List.Mem.tail _ ?_)
        exact hp
      · rw [prs_succ, List.map_append]; exact hE6
      · intro p hp a ha
        rcases List.mem_cons.mp hp with rfl | hp
        · dsimp only [tabNews, cellsL, List.cons_append, List.nil_append] at hTN
          simp only [List.forall_mem_cons] at hTN
          obtain ⟨q1, _, _, _, q2, q3, q4, q5, q6, q7, q8, q9, q10, q11, q12, _⟩ := hTN
          simp only [cellAds, List.cons_append, List.nil_append, List.mem_cons, List.not_mem_nil, or_false] at ha
          rcases ha with rfl | rfl | rfl | rfl | rfl | rfl | rfl | rfl | rfl | rfl | rfl | rfl <;> assumption
        · exact oT' p hp a ha
  · rintro h tk m' news ⟨n', items', oi', tps', rfl, hE', oT', hv', hm'⟩ F2 N2
    exact hQ h tk m' n' items' oi' tps' F2 N2 hE' (offLess oT') hv' hm'
end Mine
end
section
open PySem PySem.W PyProof.Rows PySem.Calls
namespace Mine
set_option maxRecDepth 100000
set_option maxHeartbeats 1000000
local macro_rules | `(tactic| k_all) => `(tactic| (refine' offNe ?a ?b; (case a => assumption); (case b => k_mem)))
theorem offAdd {L a c : Nat} {tl : List (Addr × Obj)} (h : OffS (cellAds L ++ [a]) tl) (hc : ∀ p ∈ tl, p.1 ≠ c) : OffS (cellAds L ++ [a, c]) tl := fun p hp q hq => by
  rw [show cellAds L ++ [a, c] = (cellAds L ++ [a]) ++ [c] from rfl] at hq
  rcases List.mem_append.mp hq with hq | hq
  · exact h p hp q hq
  · rw [List.mem_singleton.mp hq]; exact hc p hp
theorem offDrop {L a c : Nat} {tl : List (Addr × Obj)} (h : OffS (cellAds L ++ [a, c]) tl) : OffS (cellAds L ++ [a]) tl := fun p hp q hq => by
  refine h p hp q ?_
  rw [show cellAds L ++ [a, c] = (cellAds L ++ [a]) ++ [c] from rfl]
  exact List.mem_append_left _ hq

theorem stOuter {w : World} {mean : ExcName → Option Value} {mg mb : Str → Option Value} {dp un : Nat} {fr : Option (List Env)} {gd : Option (List Code)} {s : Shared} {base : Heap} {Q : Flow → Shared → Prop} {L fa : Addr} {cd : Value} {m : Str → Option Value}
    (KX : (KF w).In base) (T : TopP mean mg mb base) (hdp : dp < 420) (hun : un < 20) {oa oi oj oc ov opw opr orw osc : Obj} {x dx hl lr : Addr} {hsh : Int} {tk0 : Tok} {n1 n2 nr : Nat} {rd : List Value} {rest : List (Addr × Obj)} {tl tm : Tok}
    {cs : List Nat} {M : Nat}
    (F : Fr base L s.heap m) (N : News base L s.heap (tabNews L x dx hl hsh tk0 n1 n2 #[] ++ (lr, listOf (List.toArray rd) nr) :: (cellsL L oa oi oj oc ov opw opr orw osc ++ rest)))
    (hm1 : m (Str.ofString "table") = some (.ref x)) (hm2 : m (Str.ofString "letters") = some (.str (Str.ofString "abcdefghij") tl)) (hm3 : m (Str.ofString "read") = some (.ref lr)) (hm4 : m (Str.ofString "many") = some (.int (M : Int) tm))
    (hci : ∃ v, oi.data = .cell v) (hcj : ∃ v, oj.data = .cell v)
    (hrd : IntsAre rd (cs.map fun (c : Nat) => (c : Int))) (hC : Costas cs M) (hM : M < 11)
    (e1 : @LT.lt Nat _ (L + 9) lr) (e2 : @LT.lt Nat _ lr dx) (e3 : @LT.lt Nat _ dx x) (e4 : @LT.lt Nat _ x hl) (hoffR : OffS (cellAds L ++ [hl]) rest)
    (hQ : ∀ h tk m' n' items' oi' oj' tps', Fr base L h m' → News base L h (tabNews L x dx hl hsh tk0 n1 n' items' ++ (lr, listOf (List.toArray rd) nr) :: (cellsL L oa oi' oj' oc ov opw opr orw osc ++ (tps' ++ rest))) →
      EntsN base tps' items' ((prsJ M).map (entOf cs)) → OffS (cellAds L ++ [hl]) tps' → (∃ v, oi'.data = .cell v) → (∃ v, oj'.data = .cell v) →
      (∀ y, y ≠ Str.ofString "value" → y ≠ Str.ofString "word" → m' y = m y) → Q .next { s with heap := h, toks := tk }) :
    wpAny (model prg w) ⟨none, dp, fr, gd, un⟩ (exec (lawSt w 14) (lawEnv w L fa cd)) Q (fun _ _ => False) s := by
  w_on; w_top on
  have KX0 := KX
  have T0 := T
  conv in lawSt w 14 => whnf
  unfold lawEnv
  conv in lawScope w => whnf
  dsimp only [KF, TopP, prg] at KX T ⊢
  revert KX; k_fill; intro KX
  refine wpAny_For ?_
  dsimp only [tabNews, cellsL, List.cons_append, List.nil_append] at N
  replace F := seeF F hm4
  (iterate 7 (first | (k_unfold; (try dsimp only)) | (k_end; wrow_close) | walk1 | (dsimp only; walk1) | (leave1; try dsimp only)))
  (with_reducible rename Fr _ _ _ _ => F1); (with_reducible rename News _ _ _ _ => N1); (with_reducible rename IsRange _ _ _ _ _ _ _ _ => R1)
  try dsimp only at R1 F1 N1 ⊢
  have b1 : @LT.lt Nat _ hl _ := Heap.lt_size (N1.get (.head _))
  have bT : ∀ p ∈ rest, @LT.lt Nat _ p.1 _ := fun p hp => Heap.lt_size (N1 p (by (iterate 13 (refine List.Mem.tail _ ?_)); exact hp)).1
  rename_i h1 _ _ _ _ _
  have oR : OffS (cellAds L ++ [hl, h1.objs.size]) rest := offAdd hoffR fun p hp => Nat.ne_of_lt (bT p hp)
  have oN : OffS (cellAds L ++ [hl, h1.objs.size]) [] := by intro p hp; cases hp
  refine rangeLoopN (n := M) rfl R1 (small_one (by omega) (by omega) (by omega) (by omega)) (by rw [rangeSize_nat]; omega) F1 N1
    (fun j m' news => ∃ n' items' oi' oj' tps', news = tabNews L x dx hl hsh tk0 n1 n' items' ++ (lr, listOf (List.toArray rd) nr) :: (cellsL L oa oi' oj' oc ov opw opr orw osc ++ (tps' ++ rest)) ∧
      EntsN base tps' items' ((prs j 0).map (entOf cs)) ∧ OffS (cellAds L ++ [hl, h1.objs.size]) tps' ∧ (∃ v, oi'.data = .cell v) ∧ (∃ v, oj'.data = .cell v) ∧ ∀ y, y ≠ Str.ofString "value" → y ≠ Str.ofString "word" → m' y = m y)
    ⟨n2, #[], oi, oj, [], rfl, EntsN.nil base, oN, hci, hcj, fun y _ _ => seeEq hm4 y⟩ ?_ ?_ ?_
  · rintro i m' news ⟨n', items', oi', oj', tps', rfl, _, oT', _, _⟩ p hp
    dsimp only [tabNews, cellsL, List.cons_append, List.nil_append] at hp
    simp only [List.mem_cons] at hp
    rcases hp with rfl | rfl | rfl | rfl | rfl | rfl | rfl | rfl | rfl | rfl | rfl | rfl | rfl | hp
    iterate 13 (exact neN (by dsimp only; omega))
    rcases List.mem_append.mp hp with hp | hp
    · exact oT' p hp _ (by simp)
    · exact oR p hp _ (by simp)
  · rintro j h tk t m' news hj ⟨n', items', oi', oj', tps', rfl, hE', oT', hvi, ⟨vj, hvj⟩, hm'⟩ F2 N2 hsz
    clear F1 N1 R1
    dsimp only [tabNews, cellsL, List.cons_append, List.nil_append] at N2
    have oTR : OffS (cellAds L ++ [hl, h1.objs.size]) (tps' ++ rest) := fun p hp a ha => (List.mem_append.mp hp).elim (fun h => oT' p h a ha) fun h => oR p h a ha
    generalize hH : h1.objs.size = I0 at *
    (iterate 2 (first | (k_unfold; (try dsimp only)) | (k_end; wrow_close) | walk1 | (dsimp only; walk1) | (leave1; try dsimp only)))
    (with_reducible rename Fr _ _ _ _ => F4); (with_reducible rename News _ _ _ _ => N4)
    rename_i h4 oJ dJ
    rw [Int.zero_add] at dJ
    have N5 : News base L h4 (tabNews L x dx hl hsh tk0 n1 n' items' ++ (lr, listOf (List.toArray rd) nr) :: (cellsL L oa oi' oJ oc ov opw opr orw osc ++ (I0, riObj (0 + (j + 1 : Nat)) ((M : Int) - (j + 1 : Nat))) :: (tps' ++ rest))) := by
      refine News.sub N4 ?_
      dsimp only [tabNews, cellsL, List.cons_append, List.nil_append]
      iterate 14 (refine List.forall_mem_cons.mpr ⟨by k_mem, ?_⟩)
      intro p hp
      iterate 14 (refine List.Mem.tail _ ?_)
      exact hp
    refine wpAny_execs_cons (stInner KX0 T0 hdp hun (tps := tps') (rest := rest) (M := M) F4 N5 ((hm' _ (by decide) (by decide)).trans hm1) ((hm' _ (by decide) (by decide)).trans hm2) ((hm' _ (by decide) (by decide)).trans hm3) hvi dJ hrd hC hj hM hE' e1 e2 e3 e4 b1 oT' oR
      fun h6 tk6 m6 n6 items6 oi6 tps6 F6 N6 hE6 oT6 hvi6 hm6 => ?_)
    dsimp only
    refine wpAny_execs_nil ⟨rfl, h6, tk6, m6, tabNews L x dx hl hsh tk0 n1 n6 items6 ++ (lr, listOf (List.toArray rd) nr) :: (cellsL L oa oi6 oJ oc ov opw opr orw osc ++ (tps6 ++ rest)), rfl, F6, News.sub N6 ?_,
      n6, items6, oi6, oJ, tps6, rfl, ?_, oT6, hvi6, ⟨_, dJ⟩, fun y h1 h2 => (hm6 y h1 h2).trans (hm' y h1 h2)⟩
    · dsimp only [tabNews, cellsL, List.cons_append, List.nil_append]
      iterate 14 (refine List.forall_mem_cons.mpr ⟨by k_mem, ?_⟩)
      intro p hp
      iterate 14 (refine List.Mem.tail _ ?_)
      exact hp
    · rw [prs_zero, ← prs_full]; exact hE6
  · rintro h tk m' news ⟨n', items', oi', oj', tps', rfl, hE', oT', hvi', hvj', hm'⟩ F2 N2
    exact hQ h tk m' n' items' oi' oj' tps' F2 N2 (by rw [prs_zero] at hE'; exact hE') (offDrop oT') hvi' hvj' hm'
end Mine
end
section
open PySem PySem.W PyProof.Rows PySem.Calls
namespace Mine
set_option maxRecDepth 100000
set_option maxHeartbeats 1000000
local macro_rules | `(tactic| k_all) => `(tactic| (refine' offNe ?a ?b; (case a => assumption); (case b => k_mem)))
noncomputable def drawBody (w : World) : List Stmt := match lawSt w 15 with | .For _ _ b _ _ => b | _ => []
def pickI (M v : Nat) : Nat := v % (M - 1)
def pickJ (M v : Nat) : Nat := pickI M v + 1 + v / 11 % (M - 1 - pickI M v)

theorem eqI {M v : Nat} (h : 2 < M) : Int.fmod (v : Int) ((M : Int) - 1) = ((pickI M v : Nat) : Int) := by
  rw [show (M : Int) - 1 = ((M - 1 : Nat) : Int) by omega, Int.fmod_eq_emod_of_nonneg _ (Int.natCast_nonneg _)]
  rfl
theorem eqJ {M v : Nat} (h : 2 < M) (hi : pickI M v < M - 1) : ((pickI M v : Nat) : Int) + 1 + Int.fmod (Int.fdiv (v : Int) 11) ((M : Int) - 1 - ((pickI M v : Nat) : Int)) = ((pickJ M v : Nat) : Int) := by
  rw [show (M : Int) - 1 - ((pickI M v : Nat) : Int) = ((M - 1 - pickI M v : Nat) : Int) by omega, Int.fmod_eq_emod_of_nonneg _ (Int.natCast_nonneg _), Int.fdiv_eq_ediv_of_nonneg _ (by decide)]
  unfold pickJ
  rfl
theorem intCell {o : Obj} {n : Int} {t : Tok} (h : o.data = .cell (some (.int n t))) : ∃ t, o.data = .cell (some (.int n t)) := ⟨t, h⟩
theorem stPick {w : World} {mean : ExcName → Option Value} {mg mb : Str → Option Value} {dp un : Nat} {fr : Option (List Env)} {gd : Option (List Code)} {s : Shared} {base : Heap} {Q : Flow → Shared → Prop} {L fa : Addr} {cd : Value} {m : Str → Option Value}
    (KX : (KF w).In base) (T : TopP mean mg mb base) (hdp : dp < 420) (hun : un < 20) {oa oi oj oc ov opw opr orw osc : Obj} {x dx hl lr lpl lp : Addr} {hsh : Int} {tk0 : Tok} {n1 n2 nr npl np : Nat} {items : Array Value} {rd ps us : List Value} {rest : List (Addr × Obj)} {tm tv : Tok}
    {cs : List Nat} {M v : Nat}
    (F : Fr base L s.heap m) (N : News base L s.heap (tabNews L x dx hl hsh tk0 n1 n2 items ++ (lr, listOf (List.toArray rd) nr) :: (lpl, listOf (List.toArray ps) npl) :: (lp, listOf (List.toArray us) np) :: (cellsL L oa oi oj oc ov opw opr orw osc ++ rest)))
    (hm4 : m (Str.ofString "many") = some (.int (M : Int) tm)) (hm5 : m (Str.ofString "plain") = some (.ref lpl))
    (hcv : ov.data = .cell (some (.int (v : Int) tv))) (hci : ∃ v, oi.data = .cell v) (hcj : ∃ v, oj.data = .cell v) (hca : ∃ v, oa.data = .cell v)
    (hps : IntsAre ps (cs.map fun (c : Nat) => (c : Int))) (hlen : cs.length = M) (hM1 : 2 < M) (hM : M < 11)
    (e0 : (@LT.lt Nat _ (L + 9) lp) ∧ (@LT.lt Nat _ (L + 9) lpl)) (e1 : @LT.lt Nat _ (L + 9) lr) (e2 : @LT.lt Nat _ lr dx) (e3 : @LT.lt Nat _ dx x) (e4 : @LT.lt Nat _ x hl) (hoffR : OffS (cellAds L) rest)
    (hQ : ∀ h tk oi' oj' oa' ti tj ta, Fr base L h m → News base L h (tabNews L x dx hl hsh tk0 n1 n2 items ++ (lr, listOf (List.toArray rd) nr) :: (lpl, listOf (List.toArray ps) npl) :: (lp, listOf (List.toArray us) np) :: (cellsL L oa' oi' oj' oc ov opw opr orw osc ++ rest)) →
      oi'.data = .cell (some (.int ((pickI M v : Nat) : Int) ti)) → oj'.data = .cell (some (.int ((pickJ M v : Nat) : Int) tj)) → oa'.data = .cell (some (.int (((cs.getD (pickJ M v) 0 : Nat) : Int) - ((cs.getD (pickI M v) 0 : Nat) : Int)) ta)) → wpAny (model prg w) ⟨none, dp, fr, gd, un⟩ (execs ((drawBody w).drop 3) (lawEnv w L fa cd)) Q (fun _ _ => False) { s with heap := h, toks := tk }) :
    wpAny (model prg w) ⟨none, dp, fr, gd, un⟩ (execs (drawBody w) (lawEnv w L fa cd)) Q (fun _ _ => False) s := by
  w_on; w_top on
  have KX0 := KX
  have T0 := T
  conv in drawBody w => whnf
  unfold lawEnv
  conv in lawScope w => whnf
  dsimp only [KF, TopP, prg] at KX T ⊢
  revert KX; k_fill; intro KX
  dsimp only [tabNews, cellsL, List.cons_append, List.nil_append] at N
  replace F := seeF F hm4
  replace F := seeF (x := Str.ofString "plain") F hm5
  obtain ⟨vi, hvi⟩ := hci
  obtain ⟨vj, hvj⟩ := hcj
  obtain ⟨va, hva⟩ := hca
  have hi0 : pickI M v < M - 1 := Nat.mod_lt _ (by omega)
  have hj0 : v / 11 % (M - 1 - pickI M v) < M - 1 - pickI M v := Nat.mod_lt _ (by omega)
  have hjd : pickJ M v = pickI M v + 1 + v / 11 % (M - 1 - pickI M v) := rfl
  (iterate 11 (first | (k_unfold; (try dsimp only)) | (k_end; wrow_close) | walk1 | (dsimp only; walk1) | (leave1; try dsimp only)))
  rename_i oI _ _ dI
  rw [eqI hM1] at dI
  obtain ⟨tI, dI⟩ : ∃ t, oI.data = .cell (some (.int ((pickI M v : Nat) : Int) t)) := ⟨_, dI⟩
  try dsimp only
  (iterate 10 (first | (k_unfold; (try dsimp only)) | (k_end; wrow_close) | walk1 | (dsimp only; walk1) | (leave1; try dsimp only)))
  try dsimp only
  (iterate 9 (first | (k_unfold; (try dsimp only)) | (k_end; wrow_close) | walk1 | (dsimp only; walk1) | (leave1; try dsimp only)))
  try dsimp only
  (iterate 2 (first | (k_unfold; (try dsimp only)) | (k_end; wrow_close) | walk1 | (dsimp only; walk1) | (leave1; try dsimp only)))
  try dsimp only
  rename_i oJ _ _ dJ
  obtain ⟨tJ, dJ⟩ := intCell dJ
  rw [eqJ hM1 hi0] at dJ
  have hpl : ps.length = M := by rw [hps.length]; simp [hlen]
  have hcl : (cs.map fun (c : Nat) => (c : Int)).length = M := by simp [hlen]
  have hjM : pickJ M v < M := by omega
  have hiM : pickI M v < M := by omega
  (iterate 7 (first | (k_unfold; (try dsimp only)) | (k_end; wrow_close) | walk1 | (dsimp only; walk1) | (leave1; try dsimp only)))
  try dsimp only
  (iterate 4 (first | (k_unfold; (try dsimp only)) | (k_end; wrow_close) | walk1 | (dsimp only; walk1) | (leave1; try dsimp only)))
  rw [getDCast, getDCast]
  simp only [Int.toNat_natCast]
  (iterate 2 (first | (k_unfold; (try dsimp only)) | (k_end; wrow_close) | walk1 | (dsimp only; walk1) | (leave1; try dsimp only)))
  try dsimp only
  rename_i oA F9 N9 dA
  exact hQ _ _ oI oJ oA tI tJ _ (FrSame F9 (see2 hm4 hm5)) N9 dI dJ dA
end Mine
end
section
open PySem PySem.W PyProof.Rows PySem.Calls
namespace Mine
set_option maxRecDepth 100000
set_option maxHeartbeats 1000000
section
variable {prog : Program} {w : World} {A : Around} {h₀ : Heap} {L : Addr} {m : Str → Option Value} {env : Env} {s : Shared}
theorem compIndT {ct elt : PySem.Expr} {x : Str} {scope : Scope} {cl : List (Str × Addr)} {S : List (Addr × Obj) → Prop} {P : Nat → Value → Prop} {Fin : List Value → List (Addr × Obj) → Prop} {news : List (Addr × Obj)} {n : Nat} (G : Nat → List Value → Prop) (h0 : G 0 [])
    (turn : ∀ i ys, i < n → G i ys → ∀ v I oI C oC D m₂ h tk, P i v → LCg.NsObj oC m₂ → m₂ x = some v → Fr h₀ L h m → News h₀ L h ((I, oI) :: (C, oC) :: (D, LCg.lst ys) :: news) → LCg.Off3 I C D news → ((@Ne Nat I C) ∧ (@Ne Nat I D) ∧ (@Ne Nat C D)) →
      wpAny (model prog w) A (isTrue ct (compEnvC scope cl C env) (eval ct (compEnvC scope cl C env))) (fun ok s' => if ok = true then
        wpAny (model prog w) A (eval elt (compEnvC scope cl C env)) (LCg.CompEnd h₀ L m { s with heap := h, toks := tk } I oI C oC D (LCg.lst ys) S (fun y news' => news' = news ∧ G (i + 1) (ys ++ [y]))) (fun _ _ => False) s'
        else LCg.CompEnd h₀ L m { s with heap := h, toks := tk } I oI C oC D (LCg.lst ys) S (fun _ news' => news' = news ∧ G (i + 1) ys) Value.none s') (fun _ _ => False) { s with heap := h, toks := tk })
    (fin : ∀ ys, G n ys → Fin ys news) : LCt.CompRestT prog w A h₀ L m env ct elt x scope cl s S P Fin n 0 [] news := by
  have H : ∀ k i ys, i + k = n → G i ys → LCt.CompRestT prog w A h₀ L m env ct elt x scope cl s S P Fin k i ys news := by
    intro k
    induction k with
    | zero =>
      intro i ys hi hG
      have : i = n := by omega
      subst this
      exact LCt.CompRestT.zero (fin ys hG)
    | succ k ih =>
      intro i ys hi hG
      refine LCt.CompRestT.succ fun v I oI C oC D m₂ h tk E' hP hns hx F N off hne => ?_
      refine wpAny_mono (turn i ys (by omega) hG v I oI C oC D m₂ h tk hP hns hx F N off hne) (fun ok s₂ h₂ => ?_) fun _ _ e => e.elim
      cases ok with
      | true =>
        rw [if_pos rfl] at h₂ ⊢
        refine wpAny_mono h₂ (fun y s₃ h₃ => ceMono (fun n' hn' => ?_) h₃) fun _ _ e => e.elim
        obtain ⟨rfl, hG'⟩ := hn'
        exact ih (i + 1) (ys ++ [y]) (by omega) hG'
      | false =>
        rw [if_neg Bool.false_ne_true] at h₂ ⊢
        refine ceMono (fun n' hn' => ?_) h₂
        obtain ⟨rfl, hG'⟩ := hn'
        exact ih (i + 1) ys (by omega) hG'
  exact H n 0 [] (by omega) h0
end
noncomputable def drawSt (w : World) (k : Nat) : Stmt := (drawBody w).getD k default
def okX (P : Nat) (pw acr x : Int) : Bool := Int.fmod (x * (pw - 1) - acr) (P : Int) == 0
def firsts (P : Nat) (pw acr : Int) (n : Nat) : List Int := ((List.range n).map fun (k : Nat) => (1 + (k : Int))).filter (okX P pw acr)

theorem firsts_pos {P : Nat} {pw acr : Int} {k : Nat} (h : Int.fmod ((1 + (k : Int)) * (pw - 1) - acr) (P : Int) = 0) : firsts P pw acr (k + 1) = firsts P pw acr k ++ [1 + (k : Int)] := by
  unfold firsts
  rw [List.range_succ, List.map_append, List.filter_append]
  congr 1
  simp [okX, h]
theorem firsts_neg {P : Nat} {pw acr : Int} {k : Nat} (h : Int.fmod ((1 + (k : Int)) * (pw - 1) - acr) (P : Int) ≠ 0) : firsts P pw acr (k + 1) = firsts P pw acr k := by
  unfold firsts
  rw [List.range_succ, List.map_append, List.filter_append]
  simp [okX, h]
theorem stFirst {w : World} {mean : ExcName → Option Value} {mg mb : Str → Option Value} {dp un : Nat} {fr : Option (List Env)} {gd : Option (List Code)} {s : Shared} {base : Heap} {Q : Flow → Shared → Prop} {L fa : Addr} {cd : Value} {m : Str → Option Value}
    (KX : (KF w).In base) (T : TopP mean mg mb base) (hdp : dp < 420) (hun : un < 20) {oa oi oj oc ov opw opr orw osc : Obj} {lp : Addr} {np : Nat} {us : List Value} {rest : List (Addr × Obj)} {tp ti tj ta : Tok}
    {P i j : Nat} {acr : Int} {pw : List Int}
    (F : Fr base L s.heap m) (N : News base L s.heap ((lp, listOf (List.toArray us) np) :: (cellsL L oa oi oj oc ov opw opr orw osc ++ rest)))
    (hci : oi.data = .cell (some (.int (i : Int) ti))) (hcj : oj.data = .cell (some (.int (j : Int) tj))) (hca : oa.data = .cell (some (.int acr ta))) (hcp : opr.data = .cell (some (.int (P : Int) tp))) (hcw : opw.data = .cell (some (.ref lp)))
    (hus : IntsAre us pw) (hij : i < j) (hj : j < 11) (hpw : pw.length = 2 * (P - 1) + 1) (hP : 6 < P) (hP2 : P < 12) (hjP : j < P - 1)
    (hQ : ∀ h tk m' D ys, Fr base L h m' → News base L h ((D, listOf (List.toArray ys) ys.length) :: (lp, listOf (List.toArray us) np) :: (cellsL L oa oi oj oc ov opw opr orw osc ++ rest)) → IntsAre ys (firsts P (pw.getD (j - i) 0) acr (P - 1)) →
      m' (Str.ofString "first") = some (.ref D) → (∀ y, y ≠ Str.ofString "first" → m' y = m y) → LCg.Off1 D ((lp, listOf (List.toArray us) np) :: (cellsL L oa oi oj oc ov opw opr orw osc ++ rest)) → Q .next { s with heap := h, toks := tk }) :
    wpAny (model prg w) ⟨none, dp, fr, gd, un⟩ (exec (drawSt w 3) (lawEnv w L fa cd)) Q (fun _ _ => False) s := by
  w_on; w_top on
  conv in drawSt w 3 => whnf
  unfold lawEnv
  conv in lawScope w => whnf
  dsimp only [KF, TopP, prg] at KX T ⊢
  revert KX; k_fill; intro KX
  dsimp only [cellsL, List.cons_append, List.nil_append] at N hQ
  refine LCt.Assign_ListComp_T (F₀ := F) rfl (by with_unfolding_all rfl) (by with_unfolding_all rfl) (by decide) (by rfl) (by decide) (by rfl) (by rfl) (by rfl) ?_
  (iterate 9 (first | (k_unfold; (try dsimp only)) | (k_end; wrow_close) | walk1 | (dsimp only; walk1) | (leave1; try dsimp only)))
  (with_reducible rename Fr _ _ _ _ => F1); (with_reducible rename News _ _ _ _ => N1); (with_reducible rename IsRange _ _ _ _ _ _ _ _ => R1)
  try dsimp only at F1 N1 R1 ⊢
  have hul : us.length = 2 * (P - 1) + 1 := hus.length.trans hpw
  refine LCt.CompSrcT.range (n := P - 1) rfl F1 N1 R1 (small_one (by omega) (by omega) (by omega) (by omega)) (by rw [rangeSize_nat]; omega) (by rw [sizeLine_eq]; omega) fun g => ?_
  refine compIndT (fun i' ys => IntsAre ys (firsts P (pw.getD (j - i) 0) acr i')) .nil ?_ ?_
  · rintro k ys hk hG val I oI C oC D m2 h tk ⟨t, rfl⟩ hns hx F2 N2 off hne
    try dsimp only at F2 N2 ⊢
    clear F1 N1 R1
    (iterate 20 (first | (k_unfold; (try dsimp only)) | (k_end; wrow_close) | walk1 | (dsimp only; walk1) | (leave1; try dsimp only)))
    try dsimp only
    rw [show ((j : Int) - (i : Int)).toNat = j - i by omega]
    (iterate 4 (first | (k_unfold; (try dsimp only)) | (k_end; wrow_close) | walk1 | (dsimp only; walk1) | (leave1; try dsimp only)))
    · (iterate 1 (first | (k_unfold; (try dsimp only)) | (k_end; wrow_close) | walk1 | (dsimp only; walk1) | (leave1; try dsimp only)))
      (with_reducible rename Fr _ _ _ _ => F3); (with_reducible rename News _ _ _ _ => N3)
      refine LCg.CompEnd.intro F3 N3 _ (fun p hp => hp) off trivial ⟨rfl, ?_⟩
      rw [firsts_pos (by assumption)]
      exact hG.append (.cons _ _ .nil)
    · try dsimp only
      (with_reducible rename Fr _ _ _ _ => F3); (with_reducible rename News _ _ _ _ => N3)
      refine LCg.CompEnd.intro F3 N3 _ (fun p hp => hp) off trivial ⟨rfl, ?_⟩
      rw [firsts_neg (by assumption)]
      exact hG
  · intro ys hG D h tk F3 N3 off
    exact hQ h tk _ D ys F3 N3 hG (if_pos rfl) (fun y hy => if_neg hy) off
end Mine
end
section
open PySem PySem.W PyProof.Rows PySem.Calls
namespace Mine
set_option maxRecDepth 100000
set_option maxHeartbeats 1000000
theorem indexInts {prog : Program} {w : World} {A : Around} {E : Value → Shared → Prop} {s : Shared} {l : Addr} {vs : List Value} {n : Nat} {ns : List Int} {k : Nat} {c : Int} {t : Tok} {Q : Value → Shared → Prop} (hl : s.heap.get? l = some (listOf (List.toArray vs) n)) (hi : IntsAre vs ns)
    (hk : ns[k]? = some c) (hfirst : ∀ i d, i < k → ns[i]? = some d → d ≠ c) (hU : ns.length < 1000) (h : Q (.int (k : Int) s.toks) { s with toks := s.toks + 1 }) :
    wpAny (model prog w) A (call (.builtin "list.index") [.ref l, .int c t]) Q E s := by
  have hlen : vs.length = ns.length := hi.length
  have hc : k < ns.length := (List.getElem?_eq_some_iff.mp hk).1
  let e : Value → Bool := fun v => match v with | .int x _ => x == c | _ => false
  have at' : ∀ (i : Nat) (hi : i < vs.toArray.size), ∃ d t, ns[i]? = some d ∧ vs.toArray[i] = .int d t := fun i hlt => by
    have hlt' : i < vs.length := by simpa using hlt
    obtain ⟨d, t, h1, h2⟩ := hi.at i vs[i] (by simp [hlt'])
    exact ⟨d, t, h2, by simpa using h1⟩
  refine call_meets PySem.F.slot_list_index ⟨_, hl, rfl⟩ PySem.F.entry_list_index (PySem.F.args_list_index_2 _ _)
    (MeetsSeq.list_index l vs.toArray n (.int c t) e (fun y hy => ?_) k (by simp; omega) (by omega) ?_ ?_) ⟨hl, h⟩
  · obtain ⟨i, hlt, rfl⟩ := Array.mem_iff_getElem.mp hy
    obtain ⟨d, t', _, h2⟩ := at' i hlt
    rw [h2]
    exact MeetsSeq.EqGives.int _ _ _ _
  · obtain ⟨d, t', h1, h2⟩ := at' k (by simp; omega)
    rw [hk] at h1; cases h1
    rw [h2]
    show (c == c) = true
    simp
  · intro i hlt hik
    obtain ⟨d, t', h1, h2⟩ := at' i hlt
    rw [h2]
    show (d == c) = false
    exact beq_eq_false_iff_ne.mpr (hfirst i d hik h1)

theorem see4 {m : Str → Option Value} {x x' x'' x3 : Str} {v v' v'' v3 : Value} (e : m x = some v) (e' : m x' = some v') (e'' : m x'' = some v'') (e3 : m x3 = some v3) (y : Str) :
    (if y = x3 then some v3 else if y = x'' then some v'' else if y = x' then some v' else if y = x then some v else m y) = m y := by
  by_cases h3 : y = x3
  · rw [if_pos h3, h3, e3]
  · rw [if_neg h3]; exact see3 e e' e'' y
theorem stLook {w : World} {mean : ExcName → Option Value} {mg mb : Str → Option Value} {dp un : Nat} {fr : Option (List Env)} {gd : Option (List Code)} {s : Shared} {base : Heap} {Q : Flow → Shared → Prop} {L fa : Addr} {cd : Value} {m : Str → Option Value}
    (KX : (KF w).In base) (T : TopP mean mg mb base) (hdp : dp < 420) (hun : un < 20) {oa oi oj oc ov opw opr orw osc : Obj} {x dx hl lr D : Addr} {hsh : Int} {tk0 : Tok} {n1 n2 nr ny : Nat} {items : Array Value} {rd ys : List Value} {rest tps : List (Addr × Obj)} {tl ti tj ta : Tok}
    {cs : List Nat} {i j M : Nat} {fs : List Int} {es : List (Str × Str)}
    (F : Fr base L s.heap m) (N : News base L s.heap ((D, listOf (List.toArray ys) ny) :: (tabNews L x dx hl hsh tk0 n1 n2 items ++ (lr, listOf (List.toArray rd) nr) :: (cellsL L oa oi oj oc ov opw opr orw osc ++ rest))))
    (hm1 : m (Str.ofString "table") = some (.ref x)) (hm2 : m (Str.ofString "letters") = some (.str (Str.ofString "abcdefghij") tl)) (hm3 : m (Str.ofString "read") = some (.ref lr)) (hm4 : m (Str.ofString "first") = some (.ref D))
    (hci : oi.data = .cell (some (.int (i : Int) ti))) (hcj : oj.data = .cell (some (.int (j : Int) tj))) (hca : oa.data = .cell (some (.int (((cs.getD j 0 : Nat) : Int) - ((cs.getD i 0 : Nat) : Int)) ta)))
    (hrd : IntsAre rd (cs.map fun (c : Nat) => (c : Int))) (hys : IntsAre ys (((cs.getD i 0 : Nat) : Int) :: fs)) (hlen : cs.length = M) (hij : i < j) (hj : j < M) (hM : M < 11) (hcb : ∀ c ∈ cs, c < 16)
    (hdist : ∀ k, k < i → cs.getD k 0 ≠ cs.getD i 0)
    (htps : ∀ p ∈ tps, p ∈ rest) (hE : EntsN base tps items es) (hsm : ∀ e ∈ es, e.1.cps.size < 1000)
    (hc2 : Clean (Txt.lower (Txt.lower (wordOf cs j i)))) (hls : (Txt.lower (wordOf cs j i)).cps.size < 1000) (hfound : hfind es (Txt.lower (Txt.lower (wordOf cs j i))) = some (valOf j i))
    (e3 : @LT.lt Nat _ dx x)
    (hQ : ∀ h tk m', Fr base L h m' → News base L h (tabNews L x dx hl hsh tk0 n1 n2 items ++ (lr, listOf (List.toArray rd) nr) :: (cellsL L oa oi oj oc ov opw opr orw osc ++ rest)) →
      (∀ y, y ≠ Str.ofString "k" → m' y = m y) → Q .next { s with heap := h, toks := tk }) :
    wpAny (model prg w) ⟨none, dp, fr, gd, un⟩ (execs [drawSt w 4, drawSt w 5] (lawEnv w L fa cd)) Q (fun _ _ => False) s := by
  w_on; w_top on
  have KX0 := KX
  have T0 := T
  conv in drawSt w 4 => whnf
  conv in drawSt w 5 => whnf
  unfold lawEnv
  conv in lawScope w => whnf
  dsimp only [KF, TopP, prg] at KX T ⊢
  revert KX; k_fill; intro KX
  dsimp only [tabNews, cellsL, List.cons_append, List.nil_append] at N hQ
  replace F := seeF F hm1
  replace F := seeF (x := Str.ofString "letters") F hm2
  replace F := seeF (x := Str.ofString "read") F hm3
  replace F := seeF (x := Str.ofString "first") F hm4
  have hyl : ys.length = fs.length + 1 := hys.length
  (iterate 12 (first | (k_unfold; (try dsimp only)) | (k_end; wrow_close) | walk1 | (dsimp only; walk1) | (leave1; try dsimp only)))
  (with_reducible rename Fr _ _ _ _ => F1); (with_reducible rename News _ _ _ _ => N1)
  show wpAny _ (Around.mk none dp fr gd un) (call (.builtin "list.index") [.ref lr, .int ((cs.getD i 0 : Nat) : Int) _]) _ _ _
  have hl0 := N1.get (.tail _ (.tail _ (.tail _ (.tail _ (.head _)))))
  have hcl : (cs.map fun (c : Nat) => (c : Int)).length = M := by simp [hlen]
  have hat : ∀ k, k < M → (cs.map fun (c : Nat) => (c : Int))[k]? = some ((cs.getD k 0 : Nat) : Int) := fun k hk => by
    rw [List.getElem?_map, List.getElem?_eq_getElem (by omega), List.getD_eq_getElem?_getD, List.getElem?_eq_getElem (by omega)]; rfl
  refine indexInts (k := i) hl0 hrd (hat i (by omega)) (fun k d hk hd => ?_) (by omega) ?_
  · rw [hat k (by omega)] at hd
    cases hd
    have := hdist k hk
    omega
  try dsimp only
  have hl10 : Str.length (Str.ofString "abcdefghij") = 10 := by decide +kernel
  have hi10 : i < 10 := by omega
  have hj10 : j < 10 := by omega
  (iterate 12 (first | (k_unfold; (try dsimp only)) | (k_end; wrow_close) | walk1 | (dsimp only; walk1) | (leave1; try dsimp only)))
  try dsimp only
  (iterate 12 (first | (k_unfold; (try dsimp only)) | (k_end; wrow_close) | walk1 | (dsimp only; walk1) | (leave1; try dsimp only)))
  try dsimp only
  (iterate 5 (first | (k_unfold; (try dsimp only)) | (k_end; wrow_close) | walk1 | (dsimp only; walk1) | (leave1; try dsimp only)))
  (with_reducible rename Fr _ _ _ _ => F2); (with_reducible rename News _ _ _ _ => N2)
  refine ⟨KX.keeps F2.keep, ?_⟩
  have hci16 : cs.getD i 0 < 16 := by
    rw [List.getD_eq_getElem?_getD, List.getElem?_eq_getElem (by omega)]; exact hcb _ (List.getElem_mem _)
  have hcj16 : cs.getD j 0 < 16 := by
    rw [List.getD_eq_getElem?_getD, List.getElem?_eq_getElem (by omega)]; exact hcb _ (List.getElem_mem _)
  have hwi : (32 * ((j : Int) - (i : Int)) + 16 + (((cs.getD j 0 : Nat) : Int) - ((cs.getD i 0 : Nat) : Int))) = ((wn cs j i : Nat) : Int) := by
    unfold wn
    omega
  have hwl : wn cs j i < 16 ^ 3 := by unfold wn; omega
  rw [hwi]
  try dsimp only
  show wpAny _ (Around.mk none dp fr gd un) (call (.ref 196) [.int ((wn cs j i : Nat) : Int) _]) _ _ _
  refine lawPlain (wn cs j i) hwl _ (KX0.keeps F2.keep) (T0.keeps F2.keep) (by omega) (by omega) ?_
  intro t2 h2 tk2 hk2
  replace F2 := frKeep F2 hk2
  replace N2 := newsKeep N2 hk2
  have hwsz : (apStr (hexs 3 (wn cs j i))).cps.size ≤ 3 := by
    show (apStr (hexs 3 (wn cs j i))).length ≤ 3
    rw [apStr_len]; exact hexs_len 3 _
  (iterate 2 (first | (k_unfold; (try dsimp only)) | (k_end; wrow_close) | walk1 | (dsimp only; walk1) | (leave1; try dsimp only)))
  refine SCL.lower (by show (apStr (hexs 3 (wn cs j i))).cps.size ≤ _; omega) ?_
  intro _
  (iterate 1 (first | (k_unfold; (try dsimp only)) | (k_end; wrow_close) | walk1 | (dsimp only; walk1) | (leave1; try dsimp only)))
  refine ⟨KX.keeps F2.keep, ?_⟩
  show wpAny _ (Around.mk none dp fr gd un) (call (.ref 118) [.ref x, .str (Txt.lower (wordOf cs j i)) _]) _ _ _
  have kHl := N2 _ (.tail _ (.head _))
  have kX := N2 _ (.tail _ (.tail _ (.head _)))
  have kD := N2 _ (.tail _ (.tail _ (.tail _ (.head _))))
  have hEn := hE.ents F2.keep (fun p hp => (N2 p (by (iterate 14 (refine List.Mem.tail _ ?_)); exact htps p hp)).1)
  have hH0 : HdrAt _ x dx hl hsh tk0 n1 n2 items := ⟨kX.1, kD.1, kHl.1⟩
  refine hget (base := base) F2.keep KX0 T0 (by omega) (by omega) (es := es) hH0 hEn kX.2.2 kD.2.2 e3 hsm (Txt.lower (wordOf cs j i)) _ hls hc2 fun t5 h5 tk5 hk5 => ?_
  rw [hfound]
  replace F2 := frKeep F2 hk5
  replace N2 := newsKeep N2 hk5
  clear hH0 hEn kX kD kHl hk2 hk5
  try dsimp only [ansV]
  (iterate 5 (first | (k_unfold; (try dsimp only)) | (k_end; wrow_close) | walk1 | (dsimp only; walk1) | (leave1; try dsimp only)))
  (iterate 9 (first | (k_unfold; (try dsimp only)) | (k_end; wrow_close) | walk1 | (dsimp only; walk1) | (leave1; try dsimp only)))
  try dsimp only
  rw [show ((i : Int) + (j : Int) - (i : Int)) = (j : Int) by omega]
  (iterate 1 (first | (k_unfold; (try dsimp only)) | (k_end; wrow_close) | walk1 | (dsimp only; walk1) | (leave1; try dsimp only)))
  rw [ltr_item hi10, ltr_item hj10]
  (iterate 1 (first | (k_unfold; (try dsimp only)) | (k_end; wrow_close) | walk1 | (dsimp only; walk1) | (leave1; try dsimp only)))
  rw [ltrApp]
  (iterate 3 (first | (k_unfold; (try dsimp only)) | (k_end; wrow_close) | walk1 | (dsimp only; walk1) | (leave1; try dsimp only)))
  · rename (_ != _) = true => hcc
    rw [bne_self_eq_false] at hcc
    cases hcc
  · (with_reducible rename Fr _ _ _ _ => F6); (with_reducible rename News _ _ _ _ => N6)
    refine wpAny_execs_nil (wpAny_execs_nil ?_)
    refine hQ _ _ _ F6 (newsTail N6) (fun y h1 => ?_)
    rw [if_neg h1]
    exact see4 hm1 hm2 hm3 hm4 y
end Mine
end
section
open PySem PySem.W PyProof.Rows PySem.Calls
namespace Mine
set_option maxRecDepth 100000
set_option maxHeartbeats 1000000
local macro_rules | `(tactic| k_all) => `(tactic| (refine' offNe ?a ?b; (case a => assumption); (case b => k_mem)))
structure Looks (cs : List Nat) (M P : Nat) (pw : List Int) : Prop where
  first : ∀ j i, i < j → j < M → ∃ fs, firsts P (pw.getD (j - i) 0) (((cs.getD j 0 : Nat) : Int) - ((cs.getD i 0 : Nat) : Int)) (P - 1) = ((cs.getD i 0 : Nat) : Int) :: fs
  dist : ∀ i k, i < M → k < i → cs.getD k 0 ≠ cs.getD i 0
  clean : ∀ j i, i < j → j < M → Clean (Txt.lower (Txt.lower (wordOf cs j i))) ∧ (Txt.lower (wordOf cs j i)).cps.size < 1000
  found : ∀ j i, i < j → j < M → hfind ((prsJ M).map (entOf cs)) (Txt.lower (Txt.lower (wordOf cs j i))) = some (valOf j i)

theorem stDraws {w : World} {mean : ExcName → Option Value} {mg mb : Str → Option Value} {dp un : Nat} {fr : Option (List Env)} {gd : Option (List Code)} {s : Shared} {base : Heap} {Q : Flow → Shared → Prop} {L fa : Addr} {cd : Value} {m : Str → Option Value}
    (KX : (KF w).In base) (T : TopP mean mg mb base) (hdp : dp < 420) (hun : un < 20) {oa oi oj oc ov opw opr orw osc : Obj} {x dx hl lr lpl lp ld : Addr} {hsh : Int} {tk0 : Tok} {n1 n2 nr npl np nd : Nat} {items : Array Value} {rd ps us ds : List Value} {rest tps : List (Addr × Obj)} {tm tl tp : Tok}
    {cs : List Nat} {M P : Nat} {pw ns : List Int}
    (F : Fr base L s.heap m) (N : News base L s.heap (tabNews L x dx hl hsh tk0 n1 n2 items ++ (lr, listOf (List.toArray rd) nr) :: (lpl, listOf (List.toArray ps) npl) :: (lp, listOf (List.toArray us) np) :: (cellsL L oa oi oj oc ov opw opr orw osc ++ rest)))
    (hld : (ld, listOf (List.toArray ds) nd) ∈ rest)
    (hm1 : m (Str.ofString "table") = some (.ref x)) (hm2 : m (Str.ofString "letters") = some (.str (Str.ofString "abcdefghij") tl)) (hm3 : m (Str.ofString "read") = some (.ref lr)) (hm4 : m (Str.ofString "many") = some (.int (M : Int) tm)) (hm5 : m (Str.ofString "plain") = some (.ref lpl)) (hm6 : m (Str.ofString "draws") = some (.ref ld))
    (hcv : ∃ v, ov.data = .cell v) (hci : ∃ v, oi.data = .cell v) (hcj : ∃ v, oj.data = .cell v) (hca : ∃ v, oa.data = .cell v) (hcp : opr.data = .cell (some (.int (P : Int) tp))) (hcw : opw.data = .cell (some (.ref lp)))
    (hds : IntsAre ds ((List.range M).map (drI ns))) (hps : IntsAre ps (cs.map fun (c : Nat) => (c : Int))) (hrd : IntsAre rd (cs.map fun (c : Nat) => (c : Int))) (hus : IntsAre us pw) (hpw : pw.length = 2 * (P - 1) + 1)
    (hlen : cs.length = M) (hMP : M = P - 1) (hP : 6 < P) (hP2 : P < 12) (hcb : ∀ c ∈ cs, c < 16) (hK : Looks cs M P pw)
    (htps : ∀ p ∈ tps, p ∈ rest) (hE : EntsN base tps items ((prsJ M).map (entOf cs)))
    (e0 : (@LT.lt Nat _ (L + 9) lp) ∧ (@LT.lt Nat _ (L + 9) lpl)) (e1 : @LT.lt Nat _ (L + 9) lr) (e2 : @LT.lt Nat _ lr dx) (e3 : @LT.lt Nat _ dx x) (e4 : @LT.lt Nat _ x hl) (hoffR : OffS (cellAds L) rest)
    (hQ : ∀ h tk m' oi' oj' oa' ov', Fr base L h m' → News base L h (tabNews L x dx hl hsh tk0 n1 n2 items ++ (lr, listOf (List.toArray rd) nr) :: (lpl, listOf (List.toArray ps) npl) :: (lp, listOf (List.toArray us) np) :: (cellsL L oa' oi' oj' oc ov' opw opr orw osc ++ rest)) →
      (∀ y, y ≠ Str.ofString "first" → y ≠ Str.ofString "k" → m' y = m y) → Q .next { s with heap := h, toks := tk }) :
    wpAny (model prg w) ⟨none, dp, fr, gd, un⟩ (exec (lawSt w 15) (lawEnv w L fa cd)) Q (fun _ _ => False) s := by
  w_on; w_top on
  have KX0 := KX
  have T0 := T
  conv in lawSt w 15 => whnf
  unfold lawEnv
  conv in lawScope w => whnf
  dsimp only [KF, TopP, prg] at KX T ⊢
  revert KX; k_fill; intro KX
  refine wpAny_For ?_
  dsimp only [tabNews, cellsL, List.cons_append, List.nil_append] at N hQ
  replace F := seeF F hm6
  (iterate 1 (first | (k_unfold; (try dsimp only)) | (k_end; wrow_close) | walk1 | (dsimp only; walk1) | (leave1; try dsimp only)))
  (with_reducible rename Fr _ _ _ _ => F1); (with_reducible rename News _ _ _ _ => N1)
  have hdsl : ds.length = M := by rw [hds.length]; simp
  have bN := fun (p : Addr × Obj) (hp : p ∈ _) => Heap.lt_size (N1 p hp).1
  have bL : @LT.lt Nat _ (L + 9) s.heap.objs.size := bN _ (.tail _ (.tail _ (.tail _ (.tail _ (.tail _ (.tail _ (.head _)))))))
  refine listLoop (l := ld) (xs := ds.toArray) (k0 := nd) rfl F1 N1
    (fun k m' news => ∃ oi' oj' oa' ov', news = tabNews L x dx hl hsh tk0 n1 n2 items ++ (lr, listOf (List.toArray rd) nr) :: (lpl, listOf (List.toArray ps) npl) :: (lp, listOf (List.toArray us) np) :: (cellsL L oa' oi' oj' oc ov' opw opr orw osc ++ rest) ∧
      (∃ v, ov'.data = .cell v) ∧ (∃ v, oi'.data = .cell v) ∧ (∃ v, oj'.data = .cell v) ∧ (∃ v, oa'.data = .cell v) ∧ ∀ y, y ≠ Str.ofString "first" → y ≠ Str.ofString "k" → m' y = m y)
    ⟨oi, oj, oa, ov, rfl, hcv, hci, hcj, hca, fun y _ _ => seeEq hm6 y⟩ ?_ ?_ ?_ ?_
  · rintro k m' news ⟨oi', oj', oa', ov', rfl, _⟩ p hp
    have h1 : p.1 ∈ (tabNews L x dx hl hsh tk0 n1 n2 items ++ (lr, listOf (List.toArray rd) nr) :: (lpl, listOf (List.toArray ps) npl) :: (lp, listOf (List.toArray us) np) :: (cellsL L oa oi oj oc ov opw opr orw osc ++ rest)).map (·.1) := by
      have h2 := List.mem_map_of_mem (f := (·.1)) hp
      simpa [tabNews, cellsL] using h2
    obtain ⟨q, hq, hq2⟩ := List.mem_map.mp h1
    have := bN q hq
    rw [hq2] at this; exact this
  · rintro k m' news ⟨oi', oj', oa', ov', rfl, _⟩
    dsimp only [tabNews, cellsL, List.cons_append, List.nil_append]
    iterate 15 (refine List.Mem.tail _ ?_)
    exact hld
  · rintro k v h tk m' news ob hv ⟨oi', oj', oa', ov', rfl, ⟨vv, hvv⟩, hvi, hvj, hva, hm'⟩ F2 N2 hsz
    clear F1 N1
    dsimp only [tabNews, cellsL, List.cons_append, List.nil_append] at N2
    generalize hH : s.heap.objs.size = I0 at *
    obtain ⟨n1', t1, rfl, hn1⟩ := hds.at k v (by simpa using hv)
    have hk : k < M := by
      rcases Nat.lt_or_ge k M with h | h
      · exact h
      · rw [List.getElem?_eq_none (by simp; exact h)] at hn1; cases hn1
    have hn1' : n1' = ((drN ns k : Nat) : Int) := by rw [← drN_eq]; simpa [hk] using hn1.symm
    subst hn1'
    generalize drN ns k = vk at *
    (iterate 2 (first | (k_unfold; (try dsimp only)) | (k_end; wrow_close) | walk1 | (dsimp only; walk1) | (leave1; try dsimp only)))
    (with_reducible rename Fr _ _ _ _ => F4); (with_reducible rename News _ _ _ _ => N4)
    rename_i h4 oV dV
    have N5 : News base L h4 (tabNews L x dx hl hsh tk0 n1 n2 items ++ (lr, listOf (List.toArray rd) nr) :: (lpl, listOf (List.toArray ps) npl) :: (lp, listOf (List.toArray us) np) :: (cellsL L oa' oi' oj' oc oV opw opr orw osc ++ (I0, ob) :: rest)) := by
      refine News.sub N4 ?_
      dsimp only [tabNews, cellsL, List.cons_append, List.nil_append]
      iterate 16 (refine List.forall_mem_cons.mpr ⟨by k_mem, ?_⟩)
      intro p hp
      iterate 16 (refine List.Mem.tail _ ?_)
      exact hp
    have oR5 : OffS (cellAds L) ((I0, ob) :: rest) := by
      intro p hp a ha
      rcases List.mem_cons.mp hp with rfl | hp
      · simp only [List.mem_cons, List.not_mem_nil, or_false] at ha
        rcases ha with rfl | rfl | rfl | rfl | rfl | rfl | rfl | rfl | rfl <;> exact neN (by dsimp only; omega)
      · exact hoffR p hp a ha
    have q1 := (hm' _ (by decide) (by decide)).trans hm1
    have q2 := (hm' _ (by decide) (by decide)).trans hm2
    have q3 := (hm' _ (by decide) (by decide)).trans hm3
    have hiM : pickI M vk < M - 1 := Nat.mod_lt _ (by omega)
    have hjm : vk / 11 % (M - 1 - pickI M vk) < M - 1 - pickI M vk := Nat.mod_lt _ (by omega)
    have hjd : pickJ M vk = pickI M vk + 1 + vk / 11 % (M - 1 - pickI M vk) := rfl
    have hij : pickI M vk < pickJ M vk := by omega
    have hjM : pickJ M vk < M := by omega
    refine stPick KX0 T0 hdp hun F4 N5 ((hm' _ (by decide) (by decide)).trans hm4) ((hm' _ (by decide) (by decide)).trans hm5) dV hvi hvj hva hps hlen (by omega) (by omega) e0 e1 e2 e3 e4 oR5 fun h6 tk6 oi6 oj6 oa6 ti tj ta F6 N6 dI dJ dA => ?_
    show wpAny _ _ (execs [drawSt w 3, drawSt w 4, drawSt w 5] (lawEnv w L fa cd)) _ _ _
    generalize pickI M vk = pi at *
    generalize pickJ M vk = pj at *
    have N7 : News base L h6 ((lp, listOf (List.toArray us) np) :: (cellsL L oa6 oi6 oj6 oc oV opw opr orw osc ++ (hl, listOf items n2) :: (x, instObj 171 dx) :: (dx, dictOf [⟨hsh, .str (Str.ofString "_headers") tk0, .ref hl⟩] n1) :: (lr, listOf (List.toArray rd) nr) :: (lpl, listOf (List.toArray ps) npl) :: (I0, ob) :: rest)) := by
      refine News.sub N6 ?_
      dsimp only [tabNews, cellsL, List.cons_append, List.nil_append]
      iterate 16 (refine List.forall_mem_cons.mpr ⟨by k_mem, ?_⟩)
      intro p hp
      iterate 16 (refine List.Mem.tail _ ?_)
      exact hp
    refine wpAny_execs_cons (stFirst KX0 T0 hdp hun F6 N7 dI dJ dA hcp hcw hus hij (by omega) hpw hP hP2 (by omega) fun h8 tk8 m8 D ys F8 N8 hys hf8 hm8 off8 => ?_)
    obtain ⟨fs, hfs⟩ := hK.first pj pi hij hjM
    rw [hfs] at hys
    have N9 : News base L h8 ((D, listOf (List.toArray ys) ys.length) :: (tabNews L x dx hl hsh tk0 n1 n2 items ++ (lr, listOf (List.toArray rd) nr) :: (cellsL L oa6 oi6 oj6 oc oV opw opr orw osc ++ (lpl, listOf (List.toArray ps) npl) :: (lp, listOf (List.toArray us) np) :: (I0, ob) :: rest))) := by
      refine News.sub N8 ?_
      dsimp only [tabNews, cellsL, List.cons_append, List.nil_append]
      iterate 17 (refine List.forall_mem_cons.mpr ⟨by k_mem, ?_⟩)
      intro p hp
      iterate 17 (refine List.Mem.tail _ ?_)
      exact hp
    obtain ⟨c1, c2⟩ := hK.clean pj pi hij hjM
    dsimp only
    refine stLook KX0 T0 hdp hun (tps := tps) (M := M) F8 N9 ((hm8 _ (by decide)).trans q1) ((hm8 _ (by decide)).trans q2) ((hm8 _ (by decide)).trans q3) hf8 dI dJ dA hrd hys hlen hij hjM (by omega) hcb (fun k hk => hK.dist pi k (by omega) hk)
      (fun p hp => .tail _ (.tail _ (.tail _ (htps p hp)))) hE word_small c1 c2 (hK.found pj pi hij hjM) e3 fun h10 tk10 m10 F10 N10 hm10 => ?_
    refine ⟨rfl, h10, tk10, m10, tabNews L x dx hl hsh tk0 n1 n2 items ++ (lr, listOf (List.toArray rd) nr) :: (lpl, listOf (List.toArray ps) npl) :: (lp, listOf (List.toArray us) np) :: (cellsL L oa6 oi6 oj6 oc oV opw opr orw osc ++ rest), rfl, F10, News.sub N10 ?_,
      oi6, oj6, oa6, oV, rfl, ⟨_, dV⟩, ⟨_, dI⟩, ⟨_, dJ⟩, ⟨_, dA⟩, fun y h1 h2 => (hm10 y h2).trans ((hm8 y h1).trans (hm' y h1 h2))⟩
    dsimp only [tabNews, cellsL, List.cons_append, List.nil_append]
    iterate 16 (refine List.forall_mem_cons.mpr ⟨by k_mem, ?_⟩)
    intro p hp
    iterate 16 (refine List.Mem.tail _ ?_)
    exact hp
  · rintro h tk m' news ⟨oi', oj', oa', ov', rfl, _, _, _, _, hm'⟩ F2 N2
    exact hQ h tk m' oi' oj' oa' ov' F2 N2 hm'
end Mine
end
section
open PySem PySem.W PyProof.Rows PySem.Calls
namespace Mine
set_option maxRecDepth 100000
set_option maxHeartbeats 1000000
theorem hexs_val : ∀ (f n : Nat), n < 16 ^ f → (hexs f n).foldl (fun a d => a * 16 + d) 0 = n
  | 0, n, h => by
    have : n = 0 := by simpa using h
    subst this; rfl
  | f + 1, n, h => by
    unfold hexs
    split
    · rename_i h0; subst h0; rfl
    · have h1 : n / 16 < 16 ^ f := by rw [Nat.pow_succ] at h; omega
      rw [List.foldl_append, hexs_val f (n / 16) h1]
      show n / 16 * 16 + n % 16 = n
      omega
theorem hexs_inj {n m : Nat} (hn : n < 4096) (hm : m < 4096) (h : hexs 3 n = hexs 3 m) : n = m := by
  rw [← hexs_val 3 n (by simpa using hn), ← hexs_val 3 m (by simpa using hm), h]
def lowW (l : List Nat) : Str := ⟨(l.map fun d => 97 + d).toArray⟩
theorem lower_ap {l : List Nat} (h : ∀ d ∈ l, d < 16) : Txt.lower (apStr l) = lowW l := by
  rw [lower_ascii (fun c hc => by
    obtain ⟨d, hd, rfl⟩ := List.mem_map.mp (show c ∈ l.map fun d => 65 + d by simpa [apStr] using hc)
    have := h d hd; omega)]
  unfold apStr lowW
  congr 1
  simp only [List.map_toArray, List.map_map]
  congr 1
  apply List.map_congr_left
  intro d hd
  have := h d hd
  simp only [Function.comp_apply, lo1]
  rw [if_pos (by simp; omega)]; omega
theorem lower_low {l : List Nat} (h : ∀ d ∈ l, d < 16) : Txt.lower (lowW l) = lowW l := by
  rw [lower_ascii (fun c hc => by
    obtain ⟨d, hd, rfl⟩ := List.mem_map.mp (show c ∈ l.map fun d => 97 + d by simpa [lowW] using hc)
    have := h d hd; omega)]
  unfold lowW
  congr 1
  simp only [List.map_toArray, List.map_map]
  congr 1
  apply List.map_congr_left
  intro d hd
  have := h d hd
  simp only [Function.comp_apply, lo1]
  rw [if_neg (by simp; omega)]
theorem cleanOf {l : List Nat} (h0 : l ≠ []) (h1 : l.length < 1000) (h2 : ∀ c ∈ l, 32 ≤ c ∧ c < 127) : Clean ⟨l.toArray⟩ := by
  refine ⟨by simpa using List.length_pos_iff.mpr h0, by simpa using h1, fun i hi => ?_⟩
  have hi' : i < l.length := by simpa using hi
  have : (⟨l.toArray⟩ : Str).cps.getD i 0 = l[i] := by simp [Array.getD, hi']
  rw [this]
  exact h2 _ (List.getElem_mem _)
theorem hexs_ne {n : Nat} (h : n ≠ 0) : hexs 3 n ≠ [] := by unfold hexs; rw [if_neg h]; simp
theorem clean_ap {n : Nat} (h : n ≠ 0) : Clean (apStr (hexs 3 n)) := by
  refine cleanOf (by simpa using hexs_ne h) (by rw [List.length_map]; have := hexs_len 3 n; omega) fun c hc => ?_
  obtain ⟨d, hd, rfl⟩ := List.mem_map.mp hc
  have := hexs_lt 3 n d hd; omega
theorem clean_low {n : Nat} (h : n ≠ 0) : Clean (lowW (hexs 3 n)) := by
  refine cleanOf (by simpa using hexs_ne h) (by rw [List.length_map]; have := hexs_len 3 n; omega) fun c hc => ?_
  obtain ⟨d, hd, rfl⟩ := List.mem_map.mp hc
  have := hexs_lt 3 n d hd; omega
theorem clean_val {j i : Nat} (hj : j < 11) (hi : i < 11) : Clean (valOf j i) := by
  show Clean ⟨[97 + i, 97 + j].toArray⟩
  refine cleanOf (by simp) (by simp) fun c hc => ?_
  simp at hc; omega
theorem lowW_inj {n m : Nat} (hn : n < 4096) (hm : m < 4096) (h : lowW (hexs 3 n) = lowW (hexs 3 m)) : n = m := by
  refine hexs_inj hn hm ?_
  have h1 : (hexs 3 n).map (fun d => 97 + d) = (hexs 3 m).map fun d => 97 + d := by
    injection h with h
    simpa using h
  have : ∀ (a b : List Nat), a.map (fun d => 97 + d) = b.map (fun d => 97 + d) → a = b := by
    intro a
    induction a with
    | nil => intro b hb; cases b with | nil => rfl | cons _ _ => simp at hb
    | cons x r ih =>
      intro b hb
      cases b with
      | nil => simp at hb
      | cons y s =>
        simp only [List.map_cons, List.cons.injEq] at hb
        rw [ih s hb.2, show x = y by omega]
  exact this _ _ h1
/-- no two alike, by a mask -/
def apartB : List Nat → Nat → Bool
  | [], _ => true
  | n :: r, m => !Nat.testBit m n && apartB r (m ||| 2 ^ n)
theorem apartB_ok : ∀ (l : List Nat) (m : Nat), apartB l m = true → l.Nodup ∧ ∀ n ∈ l, Nat.testBit m n = false
  | [], _, _ => ⟨List.nodup_nil, fun _ h => by cases h⟩
  | n :: r, m, h => by
    unfold apartB at h
    rw [Bool.and_eq_true, Bool.not_eq_true'] at h
    obtain ⟨h1, h2⟩ := apartB_ok r _ h.2
    refine ⟨List.nodup_cons.mpr ⟨fun hm => ?_, h1⟩, fun k hk => ?_⟩
    · have := h2 n hm
      rw [Nat.testBit_or, Nat.testBit_two_pow_self] at this
      simp at this
    · rcases List.mem_cons.mp hk with rfl | hk
      · exact h.1
      · have := h2 k hk
        rw [Nat.testBit_or, Bool.or_eq_false_iff] at this
        exact this.1
theorem nodup_inj {α : Type} {f : α → Nat} : ∀ {l : List α}, (l.map f).Nodup → ∀ {x y : α}, x ∈ l → y ∈ l → f x = f y → x = y
  | [], _, _, _, hx, _, _ => by cases hx
  | a :: r, h, x, y, hx, hy, e => by
    rw [List.map_cons, List.nodup_cons] at h
    rcases List.mem_cons.mp hx with e1 | hx'
    · rcases List.mem_cons.mp hy with e2 | hy'
      · rw [e1, e2]
      · exact absurd (List.mem_map.mpr ⟨y, hy', by rw [← e, e1]⟩) h.1
    · rcases List.mem_cons.mp hy with e2 | hy'
      · exact absurd (List.mem_map.mpr ⟨x, hx', by rw [e, e2]⟩) h.1
      · exact nodup_inj h.2 hx' hy' e
theorem nodup_of_map {α : Type} {f : α → Nat} : ∀ {l : List α}, (l.map f).Nodup → l.Nodup
  | [], _ => List.nodup_nil
  | a :: r, h => by
    rw [List.map_cons, List.nodup_cons] at h
    exact List.nodup_cons.mpr ⟨fun hm => h.1 (List.mem_map_of_mem hm), nodup_of_map h.2⟩
theorem mem_prsJ {M : Nat} {p : Nat × Nat} : p ∈ prsJ M ↔ p.1 < M ∧ p.2 < p.1 := by
  unfold prsJ
  rw [List.mem_flatMap]
  constructor
  · rintro ⟨a, ha, h⟩
    obtain ⟨b, hb, rfl⟩ := List.mem_map.mp h
    exact ⟨List.mem_range.mp ha, List.mem_range.mp hb⟩
  · rintro ⟨h1, h2⟩
    exact ⟨p.1, List.mem_range.mpr h1, List.mem_map.mpr ⟨p.2, List.mem_range.mpr h2, rfl⟩⟩
theorem mem_prs {j i : Nat} {p : Nat × Nat} (h : p ∈ prs j i) : (p.1 < j ∧ p.2 < p.1) ∨ (p.1 = j ∧ p.2 < i) := by
  rcases List.mem_append.mp h with h | h
  · exact .inl (mem_prsJ.mp h)
  · obtain ⟨b, hb, rfl⟩ := List.mem_map.mp h
    exact .inr ⟨rfl, List.mem_range.mp hb⟩
def plN (r P st M : Nat) : List Nat := (List.range M).map fun k => pwN r P (st + k)
theorem pls_plN (r P st M : Nat) : pls r P st M = (plN r P st M).map fun (c : Nat) => (c : Int) := by simp [pls, plN]
def checkB (P r st : Nat) : Bool :=
  apartB ((prsJ (P - 1)).map fun p => wn (plN r P st (P - 1)) p.1 p.2) 0 && apartB (plN r P st (P - 1)) 0 &&
  (prsJ (P - 1)).all fun p => (firsts P ((pws r P (2 * (P - 1))).getD (p.1 - p.2) 0) ((((plN r P st (P - 1)).getD p.1 0 : Nat) : Int) - (((plN r P st (P - 1)).getD p.2 0 : Nat) : Int)) (P - 1)).head? == some ((((plN r P st (P - 1)).getD p.2 0 : Nat) : Int))
theorem ok7_3 : ∀ st : Fin 6, checkB 7 3 st.val = true := by decide +kernel
theorem ok7_5 : ∀ st : Fin 6, checkB 7 5 st.val = true := by decide +kernel
theorem ok11_2 : ∀ st : Fin 10, checkB 11 2 st.val = true := by decide +kernel
theorem ok11_6 : ∀ st : Fin 10, checkB 11 6 st.val = true := by decide +kernel
theorem ok11_7 : ∀ st : Fin 10, checkB 11 7 st.val = true := by decide +kernel
theorem ok11_8 : ∀ st : Fin 10, checkB 11 8 st.val = true := by decide +kernel
theorem plN_get {r P st M k : Nat} (h : k < M) : (plN r P st M).getD k 0 = pwN r P (st + k) := by simp [plN, h]
theorem plN_len (r P st M : Nat) : (plN r P st M).length = M := by simp [plN]
theorem plN_lt {r P st M : Nat} (hP : 0 < P) : ∀ c ∈ plN r P st M, c < P := fun c hc => by
  obtain ⟨k, _, rfl⟩ := List.mem_map.mp hc
  exact Nat.mod_lt _ hP
theorem wn_lt {cs : List Nat} {M j i : Nat} (hl : cs.length = M) (hM : M < 11) (hc : ∀ c ∈ cs, c < 16) (hj : j < M) : wn cs j i < 4096 := by
  have : cs.getD j 0 < 16 := by
    rw [List.getD_eq_getElem?_getD, List.getElem?_eq_getElem (by omega)]; exact hc _ (List.getElem_mem _)
  unfold wn; omega
theorem wn_pos {cs : List Nat} {M j i : Nat} (hl : cs.length = M) (hc : ∀ c ∈ cs, c < 16) (hi : i < M) (hij : i < j) : wn cs j i ≠ 0 := by
  have : cs.getD i 0 < 16 := by
    rw [List.getD_eq_getElem?_getD, List.getElem?_eq_getElem (by omega)]; exact hc _ (List.getElem_mem _)
  unfold wn; omega
theorem lower_word (cs : List Nat) (j i : Nat) : Txt.lower (wordOf cs j i) = lowW (hexs 3 (wn cs j i)) := lower_ap (hexs_lt 3 _)
theorem lower2_word (cs : List Nat) (j i : Nat) : Txt.lower (Txt.lower (wordOf cs j i)) = lowW (hexs 3 (wn cs j i)) := by rw [lower_word, lower_low (hexs_lt 3 _)]

theorem costas {P r st : Nat} (hP : P = 7 ∨ P = 11) (h : checkB P r st = true) : Costas (plN r P st (P - 1)) (P - 1) ∧ Looks (plN r P st (P - 1)) (P - 1) P (pws r P (2 * (P - 1))) := by
  unfold checkB at h
  rw [Bool.and_eq_true, Bool.and_eq_true] at h
  obtain ⟨⟨h1, h2⟩, h3⟩ := h
  have hl : (plN r P st (P - 1)).length = P - 1 := plN_len ..
  have hc : ∀ c ∈ plN r P st (P - 1), c < 16 := fun c hc => Nat.lt_of_lt_of_le (plN_lt (by omega) c hc) (by omega)
  generalize hcs : plN r P st (P - 1) = cs at *
  have hnd := (apartB_ok _ 0 h1).1
  have hnc := (apartB_ok _ 0 h2).1
  have hlt : ∀ p ∈ prsJ (P - 1), wn cs p.1 p.2 < 4096 := fun p hp => wn_lt hl (by omega) hc (mem_prsJ.mp hp).1
  have hne : ∀ p q, p ∈ prsJ (P - 1) → q ∈ prsJ (P - 1) → p ≠ q → (Txt.lower (wordOf cs p.1 p.2) == lowW (hexs 3 (wn cs q.1 q.2))) = false := fun p q hp hq hpq => by
    rw [lower_word]
    refine beq_eq_false_iff_ne.mpr fun e => hpq (nodup_inj hnd hp hq (lowW_inj (hlt p hp) (hlt q hq) e))
  have hin : ∀ j i, i < j → j < P - 1 → (j, i) ∈ prsJ (P - 1) := fun j i hij hj => mem_prsJ.mpr ⟨hj, hij⟩
  refine ⟨⟨hl, hc, fun j i hij hj => ⟨clean_ap (wn_pos hl hc (by omega) hij), by rw [lower_word]; exact clean_low (wn_pos hl hc (by omega) hij), clean_val (by omega) (by omega)⟩, fun j i hij hj => ?_⟩, ⟨fun j i hij hj => ?_, fun i k hi hk => ?_, fun j i hij hj => ?_, fun j i hij hj => ?_⟩⟩
  · rw [lower_word]
    refine hfind_miss fun k e he => ?_
    obtain ⟨p, hp, rfl⟩ := List.mem_map.mp (List.mem_of_getElem? he)
    have hm := mem_prs hp
    refine hne p (j, i) (mem_prsJ.mpr (by omega)) (hin j i hij hj) fun q => ?_
    rw [q] at hm
    dsimp only at hm
    omega
  · have := List.all_eq_true.mp h3 (j, i) (hin j i hij hj)
    have h4 := eq_of_beq this
    dsimp only at h4
    cases e : firsts P ((pws r P (2 * (P - 1))).getD (j - i) 0) (((cs.getD j 0 : Nat) : Int) - ((cs.getD i 0 : Nat) : Int)) (P - 1) with
    | nil => rw [e] at h4; cases h4
    | cons a fs => rw [e] at h4; exact ⟨fs, by rw [Option.some.inj h4]⟩
  · intro e
    rw [List.getD_eq_getElem?_getD, List.getD_eq_getElem?_getD, List.getElem?_eq_getElem (by omega), List.getElem?_eq_getElem (by omega)] at e
    have := (List.getElem_inj (h₀ := by omega) (h₁ := by omega) hnc).mp e
    omega
  · rw [lower2_word]
    refine ⟨clean_low (wn_pos hl hc (by omega) hij), ?_⟩
    rw [lower_word]
    exact (clean_low (wn_pos hl hc (by omega) hij)).small
  · rw [lower2_word]
    obtain ⟨k, hk⟩ := List.getElem?_of_mem (hin j i hij hj)
    have hk' : k < (prsJ (P - 1)).length := (List.getElem?_eq_some_iff.mp hk).1
    have hkv : (prsJ (P - 1))[k] = (j, i) := by rw [List.getElem?_eq_getElem hk'] at hk; exact Option.some.inj hk
    have hkl : k < ((prsJ (P - 1)).map (entOf cs)).length := by rw [List.length_map]; exact hk'
    have hnp : (prsJ (P - 1)).Nodup := by
      have := hnd
      exact nodup_of_map this
    have hh := hfind_hit (es := (prsJ (P - 1)).map (entOf cs)) (nm := lowW (hexs 3 (wn cs j i))) hkl (by
      rw [List.getElem_map, hkv]
      show (Txt.lower (wordOf cs j i) == _) = true
      rw [lower_word]; simp) (fun a e ha he => by
      obtain ⟨p, hp, rfl⟩ : ∃ p, (prsJ (P - 1))[a]? = some p ∧ entOf cs p = e := by rw [List.getElem?_map] at he; simpa using he
      refine hne p (j, i) (List.mem_of_getElem? hp) (hin j i hij hj) fun q => ?_
      have ha' : a < (prsJ (P - 1)).length := (List.getElem?_eq_some_iff.mp hp).1
      rw [List.getElem?_eq_getElem ha'] at hp
      have e1 : (prsJ (P - 1))[a] = (prsJ (P - 1))[k] := by rw [hkv, ← q]; exact Option.some.inj hp
      have := (List.getElem_inj (h₀ := ha') (h₁ := hk') hnp).mp e1
      omega)
    rw [hh, List.getElem_map, hkv]; rfl
end Mine
end
section
open PySem PySem.W PyProof.Rows PySem.Calls
namespace Mine
set_option maxRecDepth 100000
set_option maxHeartbeats 1000000
theorem allLt_mem {d : Addr} : ∀ {l : List (Addr × Obj)}, AllLt d l → ∀ p ∈ l, p.1 < d
  | [], _, _, h => by cases h
  | a :: r, x, p, h => by
    rcases List.mem_cons.mp h with rfl | h
    · exact x.1
    · exact allLt_mem x.2 p h
theorem stNil {w : World} {mean : ExcName → Option Value} {mg mb : Str → Option Value} {dp un : Nat} {fr : Option (List Env)} {gd : Option (List Code)} {s : Shared} {base : Heap} {Q : Flow → Shared → Prop} {L fa : Addr} {cd : Value} {m : Str → Option Value} {news : List (Addr × Obj)}
    (KX : (KF w).In base) (T : TopP mean mg mb base) (hdp : dp < 420) (hun : un < 20) (F : Fr base L s.heap m) (N : News base L s.heap news)
    (hQ : ∀ h tk m' lr, Fr base L h m' → News base L h ((lr, listOf #[] 0) :: news) → (∀ p ∈ news, p.1 < lr) → m' (Str.ofString "read") = some (.ref lr) → (∀ y, y ≠ Str.ofString "read" → m' y = m y) → Q .next { s with heap := h, toks := tk }) :
    wpAny (model prg w) ⟨none, dp, fr, gd, un⟩ (exec (lawSt w 10) (lawEnv w L fa cd)) Q (fun _ _ => False) s := by
  w_on; w_top on
  conv in lawSt w 10 => whnf
  unfold lawEnv
  conv in lawScope w => whnf
  dsimp only [KF, TopP, prg] at KX T ⊢
  revert KX; k_fill; intro KX
  (iterate 4 (first | (k_unfold; (try dsimp only)) | (k_end; wrow_close) | walk1 | (dsimp only; walk1) | (leave1; try dsimp only)))
  rename ∀ p ∈ news, _ => lx
  (iterate 1 (first | (k_unfold; (try dsimp only)) | (k_end; wrow_close) | walk1 | (dsimp only; walk1) | (leave1; try dsimp only)))
  (with_reducible rename Fr _ _ _ _ => F3); (with_reducible rename News _ _ _ _ => N3)
  exact hQ _ _ _ _ F3 N3 lx (if_pos rfl) (fun y hy => if_neg hy)
theorem stLetters {w : World} {mean : ExcName → Option Value} {mg mb : Str → Option Value} {dp un : Nat} {fr : Option (List Env)} {gd : Option (List Code)} {s : Shared} {base : Heap} {Q : Flow → Shared → Prop} {L fa : Addr} {cd : Value} {m : Str → Option Value} {news : List (Addr × Obj)}
    (KX : (KF w).In base) (T : TopP mean mg mb base) (hdp : dp < 420) (hun : un < 20) (F : Fr base L s.heap m) (N : News base L s.heap news)
    (hQ : ∀ h tk m' t, Fr base L h m' → News base L h news → m' (Str.ofString "letters") = some (.str (Str.ofString "abcdefghij") t) → (∀ y, y ≠ Str.ofString "letters" → m' y = m y) → Q .next { s with heap := h, toks := tk }) :
    wpAny (model prg w) ⟨none, dp, fr, gd, un⟩ (exec (lawSt w 12) (lawEnv w L fa cd)) Q (fun _ _ => False) s := by
  w_on; w_top on
  conv in lawSt w 12 => whnf
  unfold lawEnv
  conv in lawScope w => whnf
  dsimp only [KF, TopP, prg] at KX T ⊢
  revert KX; k_fill; intro KX
  (iterate 3 (first | (k_unfold; (try dsimp only)) | (k_end; wrow_close) | walk1 | (dsimp only; walk1) | (leave1; try dsimp only)))
  (with_reducible rename Fr _ _ _ _ => F3); (with_reducible rename News _ _ _ _ => N3)
  exact hQ _ _ _ _ F3 N3 (if_pos rfl) (fun y hy => if_neg hy)
theorem stRet {w : World} {mean : ExcName → Option Value} {mg mb : Str → Option Value} {dp un : Nat} {fr : Option (List Env)} {gd : Option (List Code)} {s : Shared} {base : Heap} {Q : Flow → Shared → Prop} {L fa : Addr} {cd : Value} {m : Str → Option Value} {news : List (Addr × Obj)} {lr lpl : Addr} {rd ps : List Value} {nr np : Nat} {zs : List Int}
    (KX : (KF w).In base) (T : TopP mean mg mb base) (hdp : dp < 420) (hun : un < 20) (F : Fr base L s.heap m) (N : News base L s.heap ((lr, listOf (List.toArray rd) nr) :: (lpl, listOf (List.toArray ps) np) :: news))
    (hm1 : m (Str.ofString "read") = some (.ref lr)) (hm2 : m (Str.ofString "plain") = some (.ref lpl)) (hrd : IntsAre rd zs) (hps : IntsAre ps zs) (hlen : zs.length < 20)
    (hQ : ∀ h tk, (∀ b o, base.get? b = some o → h.get? b = some o) → Q (.ret (.bool true)) { s with heap := h, toks := tk }) :
    wpAny (model prg w) ⟨none, dp, fr, gd, un⟩ (exec (lawSt w 16) (lawEnv w L fa cd)) Q (fun _ _ => False) s := by
  w_on; w_top on
  conv in lawSt w 16 => whnf
  unfold lawEnv
  conv in lawScope w => whnf
  dsimp only [KF, TopP, prg] at KX T ⊢
  revert KX; k_fill; intro KX
  replace F := seeF F hm1
  replace F := seeF (x := Str.ofString "plain") F hm2
  (iterate 5 (first | (k_unfold; (try dsimp only)) | (k_end; wrow_close) | walk1 | (dsimp only; walk1) | (leave1; try dsimp only)))
  exact hQ _ _ F.keep
end Mine
end
section
open PySem PySem.W PyProof.Rows PySem.Calls
namespace Mine
set_option maxRecDepth 100000
set_option maxHeartbeats 1000000
theorem checkAll {P r st : Nat} (hPr : (P = 7 ∧ (r = 3 ∨ r = 5)) ∨ (P = 11 ∧ (r = 2 ∨ r = 6 ∨ r = 7 ∨ r = 8))) (hst : st < P - 1) : checkB P r st = true := by
  rcases hPr with ⟨rfl, rfl | rfl⟩ | ⟨rfl, rfl | rfl | rfl | rfl⟩
  · exact ok7_3 ⟨st, hst⟩
  · exact ok7_5 ⟨st, hst⟩
  · exact ok11_2 ⟨st, hst⟩
  · exact ok11_6 ⟨st, hst⟩
  · exact ok11_7 ⟨st, hst⟩
  · exact ok11_8 ⟨st, hst⟩
theorem lawTail {w : World} {mean : ExcName → Option Value} {mg mb : Str → Option Value} {dp un : Nat} {fr : Option (List Env)} {gd : Option (List Code)} {s : Shared} {base : Heap} {Q : Flow → Shared → Prop} {L fa : Addr} {cd : Value} {m : Str → Option Value}
    (KX : (KF w).In base) (T : TopP mean mg mb base) (hdp : dp < 420) (hun : un < 20) {oa oi oj oc ov opw opr orw osc : Obj} {lp lrow lsc : Addr} {t1 tm tr tp : Tok} {rs scs : List Value} {ns : List Int} {nrw : Nat} {P r : Nat}
    (F : Fr base L s.heap m) (N : News base L s.heap ((lp, listOf #[.int 1 t1] 0) :: (lrow, listOf (List.toArray rs) nrw) :: cellsL L oa oi oj oc ov opw opr orw osc))
    (hm1 : m (Str.ofString "many") = some (.int ((P - 1 : Nat) : Int) tm)) (hm2 : m (Str.ofString "root") = some (.int (r : Int) tr))
    (hcpr : opr.data = .cell (some (.int (P : Int) tp))) (hcpw : opw.data = .cell (some (.ref lp))) (hcrw : orw.data = .cell (some (.ref lrow))) (hcsc : osc.data = .cell (some (.ref lsc)))
    (hca : oa.data = .cell none) (hci : oi.data = .cell none) (hcj : oj.data = .cell none) (hcc : oc.data = .cell none) (hcv : ov.data = .cell none)
    (hrs : IntsAre rs [1, 5, 16, 49, 148, 445, 1336, 4009, 12028, 36085]) (hsc : base.IsList lsc scs.toArray) (hscs : IntsAre scs ns) (hlen : ns.length < 64)
    (hPr : (P = 7 ∧ (r = 3 ∨ r = 5)) ∨ (P = 11 ∧ (r = 2 ∨ r = 6 ∨ r = 7 ∨ r = 8)))
    (d1 : @LT.lt Nat _ (L + 9) lrow) (d2 : @LT.lt Nat _ lrow lp)
    (hQ : ∀ h tk, (∀ b o, base.get? b = some o → h.get? b = some o) → Q (.ret (.bool true)) { s with heap := h, toks := tk, gens := s.gens ++ Array.replicate (P - 1) .finished }) :
    wpAny (model prg w) ⟨none, dp, fr, gd, un⟩ (execs ((lawBody w).drop 6) (lawEnv w L fa cd)) Q (fun _ _ => False) s := by
  show wpAny _ _ (execs [lawSt w 6, lawSt w 7, lawSt w 8, lawSt w 9, lawSt w 10, lawSt w 11, lawSt w 12, lawSt w 13, lawSt w 14, lawSt w 15, lawSt w 16] _) _ _ _
  have hP : P = 7 ∨ P = 11 := by omega
  have hP1 : 6 < P := by omega
  have hP2 : P < 12 := by omega
  have hr : r < 20 := by omega
  refine wpAny_execs_cons (stPow KX T hdp hun (M := P - 1) (P := P) (r := r) F N hm1 hm2 hcpr hcpw (by omega) (by omega) hr (by omega) d1 d2 fun h1 tk1 m1 us n1 F1 N1 hus hm1' => ?_)
  dsimp only
  refine stMid KX T hdp hun (M := P - 1) (P := P) (r := r) F1 N1 ((hm1' _ (by decide)).trans hm1) hcpw hcsc hus hsc hscs hlen (by omega) (by omega) d1 d2 fun h2 tk2 m2 lpl ps st F2 N2 hps hst hst2 hm2' hplain2 d3 => ?_
  have hmany2 := (hm2' (Str.ofString "many") (by decide) (by decide)).trans ((hm1' _ (by decide)).trans hm1)
  refine wpAny_execs_cons (stDraw KX T hdp hun (M := P - 1) F2 N2 hmany2 hcrw hcsc hrs hsc hscs hlen (by omega) (by omega) d1 d2 d3 fun h3 tk3 m3 ld ds F3 N3 hds hdraws3 hm3' off3 => ?_)
  dsimp only
  refine wpAny_execs_cons (stNil KX T hdp hun F3 N3 fun h4 tk4 m4 lr F4 N4 hlr hread4 hm4' => ?_)
  dsimp only
  have l1 : @LT.lt Nat _ ld lr := hlr _ (.head _)
  have l2 : @LT.lt Nat _ lpl lr := hlr _ (.tail _ (.head _))
  have l3 : @LT.lt Nat _ lp lr := hlr _ (.tail _ (.tail _ (.head _)))
  have l4 : @LT.lt Nat _ lrow lr := hlr _ (.tail _ (.tail _ (.tail _ (.head _))))
  dsimp only [LCg.Off1, cellsL] at off3
  have hdraws4 := (hm4' _ (by decide)).trans hdraws3
  have hplain4 := (hm4' _ (by decide)).trans ((hm3' _ (by decide)).trans hplain2)
  have hmany4 := (hm4' _ (by decide)).trans ((hm3' _ (by decide)).trans hmany2)
  refine wpAny_execs_cons (stRows KX T hdp hun (M := P - 1) (P := P) (r := r) (st := st) (ns := ns) F4 N4 hdraws4 hplain4 hread4 hcpr hcv hcc hds hps (by omega) hP2 (by omega) (fun k _ => Nat.mod_lt _ (by omega)) d1 d2 d3 (by omega) (by omega) (by omega) (by omega)
    fun h5 tk5 m5 rd nr oc5 ov5 F5 N5 hrd hcv5 hm5' => ?_)
  dsimp only
  refine wpAny_execs_cons (stLetters KX T hdp hun F5 N5 fun h6 tk6 m6 tl F6 N6 hlet6 hm6' => ?_)
  dsimp only
  refine wpAny_execs_cons (stTab KX T hdp hun F6 N6 fun h7 tk7 m7 x dx hl hsh tk0 n7 F7 N7 hdx hxl hbelow htab7 hm7' => ?_)
  dsimp only
  have hcs := costas hP (checkAll hPr hst2)
  obtain ⟨hC, hK⟩ := hcs
  rw [pls_plN] at hrd hps
  have b1 : @LT.lt Nat _ lr dx := hbelow _ (.head _)
  have hdx' : @LT.lt Nat _ dx x := hdx
  have hread7 := (hm7' _ (by decide)).trans ((hm6' _ (by decide)).trans ((hm5' _ (by decide)).trans hread4))
  have hmany7 := (hm7' _ (by decide)).trans ((hm6' _ (by decide)).trans ((hm5' _ (by decide)).trans hmany4))
  have hplain7 := (hm7' _ (by decide)).trans ((hm6' _ (by decide)).trans ((hm5' _ (by decide)).trans hplain4))
  have hdraws7 := (hm7' _ (by decide)).trans ((hm6' _ (by decide)).trans ((hm5' _ (by decide)).trans hdraws4))
  have hlet7 := (hm7' _ (by decide)).trans hlet6
  have N8 : News base L h7 (tabNews L x dx hl hsh tk0 n7 0 #[] ++ (lr, listOf (List.toArray rd) nr) :: (cellsL L oa oi oj oc5 ov5 opw opr orw osc ++ [(ld, listOf (List.toArray ds) ds.length), (lpl, listOf (List.toArray ps) 0), (lp, listOf (List.toArray us) n1), (lrow, listOf (List.toArray rs) nrw)])) := by
    refine News.sub N7 ?_
    dsimp only [tabNews, cellsL, lawNews, List.cons_append, List.nil_append]
    iterate 17 (refine List.forall_mem_cons.mpr ⟨by k_mem, ?_⟩)
    exact List.forall_mem_nil _
  have oR : OffS (cellAds L ++ [hl]) [(ld, listOf (List.toArray ds) ds.length), (lpl, listOf (List.toArray ps) 0), (lp, listOf (List.toArray us) n1), (lrow, listOf (List.toArray rs) nrw)] := by
    intro p hp a ha
    simp only [List.mem_cons, List.not_mem_nil, or_false] at hp
    simp only [cellAds, List.cons_append, List.nil_append, List.mem_cons, List.not_mem_nil, or_false] at ha
    rcases hp with rfl | rfl | rfl | rfl <;> rcases ha with rfl | rfl | rfl | rfl | rfl | rfl | rfl | rfl | rfl | rfl <;> exact neN (by dsimp only; omega)
  refine wpAny_execs_cons (stOuter KX T hdp hun (M := P - 1) F7 N8 htab7 hlet7 hread7 hmany7 ⟨_, hci⟩ ⟨_, hcj⟩ hrd hC (by omega) (by omega) b1 hdx' hxl oR
    fun h9 tk9 m9 n9 items9 oi9 oj9 tps9 F9 N9 hE9 oT9 hci9 hcj9 hm9' => ?_)
  dsimp only
  have N10 : News base L h9 (tabNews L x dx hl hsh tk0 n7 n9 items9 ++ (lr, listOf (List.toArray rd) nr) :: (lpl, listOf (List.toArray ps) 0) :: (lp, listOf (List.toArray us) n1) :: (cellsL L oa oi9 oj9 oc5 ov5 opw opr orw osc ++ (ld, listOf (List.toArray ds) ds.length) :: (lrow, listOf (List.toArray rs) nrw) :: tps9)) := by
    intro p hp
    refine N9 p ?_
    dsimp only [tabNews, cellsL, List.cons_append, List.nil_append] at hp ⊢
    simp only [List.mem_cons, List.mem_append, List.not_mem_nil, or_false] at hp ⊢
    rcases hp with hp | hp | hp | hp | hp | hp | hp | hp | hp | hp | hp | hp | hp | hp | hp | hp | hp | hp <;> simp [hp]
  have oR2 : OffS (cellAds L) ((ld, listOf (List.toArray ds) ds.length) :: (lrow, listOf (List.toArray rs) nrw) :: tps9) := by
    intro p hp a ha
    rcases List.mem_cons.mp hp with rfl | hp
    · exact oR _ (.head _) a (List.mem_append_left _ ha)
    rcases List.mem_cons.mp hp with rfl | hp
    · exact oR _ (.tail _ (.tail _ (.tail _ (.head _)))) a (List.mem_append_left _ ha)
    · exact oT9 p hp a (List.mem_append_left _ ha)
  have hpwl : (pws r P (2 * (P - 1))).length = 2 * (P - 1) + 1 := pws_len ..
  refine wpAny_execs_cons (stDraws KX T hdp hun (M := P - 1) (P := P) (tps := tps9) F9 N10 (.head _) ((hm9' _ (by decide) (by decide)).trans htab7) ((hm9' _ (by decide) (by decide)).trans hlet7) ((hm9' _ (by decide) (by decide)).trans hread7) ((hm9' _ (by decide) (by decide)).trans hmany7)
    ((hm9' _ (by decide) (by decide)).trans hplain7) ((hm9' _ (by decide) (by decide)).trans hdraws7) hcv5 hci9 hcj9 ⟨_, hca⟩ hcpr hcpw hds hps hrd hus hpwl hC.len rfl hP1 hP2 hC.lt hK (fun p hp => .tail _ (.tail _ hp)) hE9 ⟨by omega, by omega⟩ (by omega) b1 hdx' hxl oR2
    fun h11 tk11 m11 oi11 oj11 oa11 ov11 F11 N11 hm11' => ?_)
  dsimp only
  have N12 := News.sub (news' := (lr, listOf (List.toArray rd) nr) :: (lpl, listOf (List.toArray ps) 0) :: []) N11 (List.forall_mem_cons.mpr ⟨.tail _ (.tail _ (.tail _ (.head _))), List.forall_mem_cons.mpr ⟨.tail _ (.tail _ (.tail _ (.tail _ (.head _)))), List.forall_mem_nil _⟩⟩)
  refine wpAny_execs_cons (stRet KX T hdp hun F11 N12 ((hm11' _ (by decide) (by decide)).trans ((hm9' _ (by decide) (by decide)).trans hread7)) ((hm11' _ (by decide) (by decide)).trans ((hm9' _ (by decide) (by decide)).trans hplain7)) hrd hps (by rw [List.length_map, hC.len]; omega) fun h13 tk13 hk13 => ?_)
  exact hQ h13 tk13 hk13
end Mine
end
section
open PySem PySem.W PyProof.Rows PySem.Calls
namespace Mine
set_option maxRecDepth 100000
set_option maxHeartbeats 2000000
theorem root4 (k : Int) : ∃ r : Nat, (r = 2 ∨ r = 6 ∨ r = 7 ∨ r = 8) ∧ ([2, 6, 7, 8] : List Int).getD (k.fmod 4).toNat 0 = (r : Int) := by
  have h1 := Int.fmod_nonneg_of_pos k (show (0 : Int) < 4 by decide)
  have h2 := Int.fmod_lt_of_pos k (show (0 : Int) < 4 by decide)
  obtain h | h | h | h : (k.fmod 4).toNat = 0 ∨ (k.fmod 4).toNat = 1 ∨ (k.fmod 4).toNat = 2 ∨ (k.fmod 4).toNat = 3 := by omega
  · rw [h]; exact ⟨2, by simp, rfl⟩
  · rw [h]; exact ⟨6, by simp, rfl⟩
  · rw [h]; exact ⟨7, by simp, rfl⟩
  · rw [h]; exact ⟨8, by simp, rfl⟩
theorem root2 (k : Int) : ∃ r : Nat, (r = 3 ∨ r = 5) ∧ ([3, 5] : List Int).getD (k.fmod 2).toNat 0 = (r : Int) := by
  have h1 := Int.fmod_nonneg_of_pos k (show (0 : Int) < 2 by decide)
  have h2 := Int.fmod_lt_of_pos k (show (0 : Int) < 2 by decide)
  obtain h | h : (k.fmod 2).toNat = 0 ∨ (k.fmod 2).toNat = 1 := by omega
  · rw [h]; exact ⟨3, by simp, rfl⟩
  · rw [h]; exact ⟨5, by simp, rfl⟩
theorem stHead {w : World} {mean : ExcName → Option Value} {mg mb : Str → Option Value} {dp un : Nat} {fr : Option (List Env)} {gd : Option (List Code)} {s : Shared} {base : Heap} {Q : Flow → Shared → Prop} {L fa : Addr} {cd : Value} {m : Str → Option Value}
    (KX : (KF w).In base) (T : TopP mean mg mb base) (hdp : dp < 420) (hun : un < 20) {oa oi oj oc ov opw opr orw osc : Obj} {lsc : Addr} {scs : List Value} {ns : List Int} {more body : List Stmt} (hbody : body = lawSt w 0 :: lawSt w 1 :: lawSt w 2 :: lawSt w 3 :: lawSt w 4 :: lawSt w 5 :: more)
    (F : Fr base L s.heap m) (N : News base L s.heap (cellsL L oa oi oj oc ov opw opr orw osc))
    (hcsc : osc.data = .cell (some (.ref lsc))) (hcpr : opr.data = .cell none) (hcpw : opw.data = .cell none) (hcrw : orw.data = .cell none)
    (hsc : base.IsList lsc scs.toArray) (hscs : IntsAre scs ns) (hlay : PyData.layable0 (.list (ns.map .int)) = true) (hlen : ns.length < 64)
    (hQ : ∀ P r h tk m' opw' opr' orw' lp lrow rs t1 tm tr tp, ((P = 7 ∧ (r = 3 ∨ r = 5)) ∨ (P = 11 ∧ (r = 2 ∨ r = 6 ∨ r = 7 ∨ r = 8))) → Fr base L h m' →
      News base L h ((lp, listOf #[.int 1 t1] 0) :: (lrow, listOf (List.toArray rs) 0) :: cellsL L oa oi oj oc ov opw' opr' orw' osc) → m' (Str.ofString "many") = some (.int ((P - 1 : Nat) : Int) tm) → m' (Str.ofString "root") = some (.int ((r : Nat) : Int) tr) →
      opr'.data = .cell (some (.int ((P : Nat) : Int) tp)) → opw'.data = .cell (some (.ref lp)) → orw'.data = .cell (some (.ref lrow)) → IntsAre rs [1, 5, 16, 49, 148, 445, 1336, 4009, 12028, 36085] → @LT.lt Nat _ (L + 9) lrow → @LT.lt Nat _ lrow lp →
      wpAny (model prg w) ⟨none, dp, fr, gd, un⟩ (execs more (lawEnv w L fa cd)) Q (fun _ _ => False) { s with heap := h, toks := tk }) :
    wpAny (model prg w) ⟨none, dp, fr, gd, un⟩ (execs body (lawEnv w L fa cd)) Q (fun _ _ => False) s := by
  rw [hbody]
  w_on; w_top on
  conv in lawSt w 0 => whnf
  conv in lawSt w 1 => whnf
  conv in lawSt w 2 => whnf
  conv in lawSt w 3 => whnf
  conv in lawSt w 4 => whnf
  conv in lawSt w 5 => whnf
  unfold lawEnv
  conv in lawScope w => whnf
  dsimp only [KF, TopP, prg] at KX T ⊢
  revert KX; k_fill; intro KX
  dsimp only [cellsL] at N
  have hsl : scs.length = ns.length := hscs.length
  (iterate 110 (first | (k_unfold; (try dsimp only)) | (k_end; wrow_close) | walk1 | (dsimp only; walk1) | (leave1; try dsimp only)))
  · try dsimp only
    (with_reducible rename Fr _ _ _ _ => F1); (with_reducible rename News _ _ _ _ => N1)
    obtain ⟨r, hr, hre⟩ := root4 ns.sum
    rw [hre] at F1
    have N2 := News.sub N1 (news' := _ :: _ :: cellsL L oa oi oj oc ov _ _ _ osc) (List.forall_mem_cons.mpr ⟨.head _, List.forall_mem_cons.mpr ⟨.tail _ (.tail _ (.head _)), fun p hp => .tail _ (.tail _ (.tail _ hp))⟩⟩)
    refine hQ 11 r _ _ _ _ _ _ _ _ [.int 1 _, .int 5 _, .int 16 _, .int 49 _, .int 148 _, .int 445 _, .int 1336 _, .int 4009 _, .int 12028 _, .int 36085 _] _ _ _ _ (.inr ⟨rfl, hr⟩) F1 N2 rfl rfl (by assumption) (by assumption) (by assumption) (.cons _ _ (.cons _ _ (.cons _ _ (.cons _ _ (.cons _ _ (.cons _ _ (.cons _ _ (.cons _ _ (.cons _ _ (.cons _ _ .nil)))))))))) (by omega) (by omega)
  · (iterate 65 (first | (k_unfold; (try dsimp only)) | (k_end; wrow_close) | walk1 | (dsimp only; walk1) | (leave1; try dsimp only)))
    try dsimp only
    (with_reducible rename Fr _ _ _ _ => F1); (with_reducible rename News _ _ _ _ => N1)
    obtain ⟨r, hr, hre⟩ := root2 ns.sum
    rw [hre] at F1
    have N2 := News.sub N1 (news' := _ :: _ :: cellsL L oa oi oj oc ov _ _ _ osc) (List.forall_mem_cons.mpr ⟨.head _, List.forall_mem_cons.mpr ⟨.tail _ (.tail _ (.head _)), fun p hp => .tail _ (.tail _ (.tail _ hp))⟩⟩)
    refine hQ 7 r _ _ _ _ _ _ _ _ [.int 1 _, .int 5 _, .int 16 _, .int 49 _, .int 148 _, .int 445 _, .int 1336 _, .int 4009 _, .int 12028 _, .int 36085 _] _ _ _ _ (.inl ⟨rfl, hr⟩) F1 N2 rfl rfl (by assumption) (by assumption) (by assumption) (.cons _ _ (.cons _ _ (.cons _ _ (.cons _ _ (.cons _ _ (.cons _ _ (.cons _ _ (.cons _ _ (.cons _ _ (.cons _ _ .nil)))))))))) (by omega) (by omega)
end Mine
end
section
open PySem PySem.W PyProof.Rows PySem.Calls
namespace Mine
set_option maxRecDepth 100000
set_option maxHeartbeats 400000
theorem lawWhole {w : World} {mean : ExcName → Option Value} {mg mb : Str → Option Value} {dp un : Nat} {fr : Option (List Env)} {gd : Option (List Code)} {s : Shared} {base : Heap} {Q : Flow → Shared → Prop} {L fa : Addr} {cd : Value} {m : Str → Option Value}
    (KX : (KF w).In base) (T : TopP mean mg mb base) (hdp : dp < 420) (hun : un < 20) {oa oi oj oc ov opw opr orw osc : Obj} {lsc : Addr} {scs : List Value} {ns : List Int} {body more : List Stmt}
    (hbody : body = lawSt w 0 :: lawSt w 1 :: lawSt w 2 :: lawSt w 3 :: lawSt w 4 :: lawSt w 5 :: more) (hmore : more = (lawBody w).drop 6)
    (F : Fr base L s.heap m) (N : News base L s.heap (cellsL L oa oi oj oc ov opw opr orw osc))
    (hca : oa.data = .cell none) (hci : oi.data = .cell none) (hcj : oj.data = .cell none) (hcc : oc.data = .cell none) (hcv : ov.data = .cell none) (hcpw : opw.data = .cell none) (hcpr : opr.data = .cell none) (hcrw : orw.data = .cell none) (hcsc : osc.data = .cell (some (.ref lsc)))
    (hsc : base.IsList lsc scs.toArray) (hscs : IntsAre scs ns) (hlay : PyData.layable0 (.list (ns.map .int)) = true) (hlen : ns.length < 64)
    (hQ : ∀ h tk n, (∀ b o, base.get? b = some o → h.get? b = some o) → Q (.ret (.bool true)) { s with heap := h, toks := tk, gens := s.gens ++ Array.replicate n .finished }) :
    wpAny (model prg w) ⟨none, dp, fr, gd, un⟩ (execs body (lawEnv w L fa cd)) Q (fun _ _ => False) s := by
  refine stHead KX T hdp hun hbody F N hcsc hcpr hcpw hcrw hsc hscs hlay hlen fun P r h tk m' opw' opr' orw' lp lrow rs t1 tm tr tp hPr F1 N1 hm1 hm2 c1 c2 c3 hrs d1 d2 => ?_
  rw [hmore]
  exact lawTail (s := { s with heap := h, toks := tk }) KX T hdp hun F1 N1 hm1 hm2 c1 c2 c3 hcsc hca hci hcj hcc hcv hrs hsc hscs hlen hPr d1 d2 fun h9 tk9 hk => hQ h9 tk9 _ hk
end Mine
end
theorem Mine.pickList {h : Heap} {l : Addr} {vs : Array Value} {o : Obj} (_ : h.IsList l vs) (e : o.data = .cell (some (.ref l))) : o.data = .cell (some (.ref l)) := e
theorem Mine.lenLt {n : Nat} (h : ¬ ((63 : Nat) : Int) < ((n : Nat) : Int)) : n < 64 := by omega
theorem Mine.bareRep (n : Nat) : AllBare ((#[] : Array GenState) ++ Array.replicate n .finished) := fun y hy => by
  rw [Array.mem_append] at hy
  rcases hy with h | h
  · simp at h
  · rw [(Array.mem_replicate.mp h).2]; rfl
set_option maxRecDepth 100000 in
set_option maxHeartbeats 4000000 in
theorem PySem.Challenge.cw_wa0032_01_holds : PySem.Challenge.rw_wa0032_01.Holds := by
  refine Mine.hd ?_
  w_on
  k_fill
  intro w s₀ s₁ mg mb G Y fa o pm cd doc dV kV ho hd hcd hD hmg hg args vals as hpre hlay hrd hwl hlo
  have KX := kIn_of Y
  refine Ground.open G ?_
  intro T B D TE TW
  try (refine guard_noD D (by decide +kernel) ?_; clear D)
  wrow_args hpre hlay hrd hwl hlo
  refine enter_call ?_
  w_top on
  have he := Dflts.none hD rfl; subst he; have he := Dflts.noKw hD; subst he
  refine call_cellsN_ret (by decide) ho (fd_plain hd) (Top.nolimit T) hcd rfl (kinds_of (by kinds_ok)) (by decide) fun h₁ tk₁ cells F N0 X0 => ?_
  obtain ⟨oa, oi, oj, oc, ov, opw, opr, orw, osc, he, q1, q2, q3, q4, q5, q6, q7, q8, q9⟩ := Mine.kc_nine X0
  subst he
  rename Heap.IsList _ _ _ => hL
  rename IntsAre _ _ => hI
  rename ¬ ((63 : Nat) : Int) < _ => hlen0
  rename PyData.layable0 _ = true => hlay1
  clear hmg hd X0
  have hlen := Mine.lenLt hlen0
  have r9 := Mine.pickList hL q9
  have r7 : opr.data = .cell none := q7
  have r6 : opw.data = .cell none := q6
  have r8 : orw.data = .cell none := q8
  have r1 : oa.data = .cell none := q1
  have r2 : oi.data = .cell none := q2
  have r3 : oj.data = .cell none := q3
  have r4 : oc.data = .cell none := q4
  have r5 : ov.data = .cell none := q5
  clear q1 q2 q3 q4 q5 q6 q7 q8 q9
  have N1 : News s₁.heap s₁.heap.objs.size h₁ (Mine.cellsL s₁.heap.objs.size oa oi oj oc ov opw opr orw osc) := N0
  have KX' : (Mine.KF w).In s₁.heap := KX
  have T' : Mine.TopP (ExcName.means s₀.heap) mg mb s₁.heap := T
  obtain ⟨m0, F0⟩ : ∃ m, Fr s₁.heap s₁.heap.objs.size h₁ m := ⟨_, F⟩
  clear F N0
  have hbody0 : Mine.lawBody w = Mine.lawSt w 0 :: Mine.lawSt w 1 :: Mine.lawSt w 2 :: Mine.lawSt w 3 :: Mine.lawSt w 4 :: Mine.lawSt w 5 :: (Mine.lawBody w).drop 6 := rfl
  show wpAny (model Mine.prg w) (Around.mk none _ _ _ _) (execs (Mine.lawBody w) (Mine.lawEnv w s₁.heap.objs.size fa cd)) _ _ _
  obtain ⟨body, hb⟩ : ∃ b, b = Mine.lawBody w := ⟨_, rfl⟩
  rw [← hb] at hbody0 ⊢
  obtain ⟨more, hmore⟩ : ∃ b, b = (Mine.lawBody w).drop 6 := ⟨_, rfl⟩
  have hbody : body = Mine.lawSt w 0 :: Mine.lawSt w 1 :: Mine.lawSt w 2 :: Mine.lawSt w 3 :: Mine.lawSt w 4 :: Mine.lawSt w 5 :: more := by
    rw [hmore, ← hb]; exact hbody0
  clear hbody0
  refine Mine.lawWhole (L := s₁.heap.objs.size) (s := { s₁ with heap := h₁, toks := tk₁ }) KX' T' (by decide) (by decide) hbody hmore F0 N1 r1 r2 r3 r4 r5 r6 r7 r8 r9 hL hI hlay1 hlen fun h9 tk9 n hk => ?_
  show GoodWG _ _ _ _ _ (.ok (.ret (.bool true))) _
  refine ⟨.inl ⟨.bool true, .bool true, [], rfl, ?_, .bool true, ?_, unshared_nil⟩, .of_keep hk, rfl, ?_⟩
  · exact raisesW_false (by wrow_none_raised)
  · exact postW_of (by wrow_shape) (by wtm_val) (by str_meet; first | done | w_fin)
  · show AllBare (s₁.gens ++ _)
    rw [hg]; exact Mine.bareRep _
